import PyProof.Rows.All
import Wide.All
import OpenK.AllK
import Wide.FinOn
import Lean
import PySem.Challenge.RW_mj0158_01
open PySem PySem.W PyProof.Rows
set_option Elab.async false
set_option maxRecDepth 100000

-- Kit1
namespace Mine

/-- all of the heap stays -/
noncomputable def Kp (s s' : Shared) : Prop := Keeps s s'

/-- plain data -/
inductive D where
  | none
  | bool (b : Bool)
  | int (i : Int)
  | str (l : List Nat)
  | tuple (ds : List D)
  | list (ds : List D)
  | dict (kvs : List (List Nat × List Nat))
  | val (v : Value)

noncomputable abbrev T (l : List Nat) : Str := ⟨l.toArray⟩
theorem T_cps (l : List Nat) : (T l).cps = l.toArray := rfl
theorem T_length (l : List Nat) : (T l).length = l.length := by simp [T, Str.length]
theorem T_append (l m : List Nat) : T l ++ T m = T (l ++ m) := by
  show Str.mk (l.toArray ++ m.toArray) = Str.mk (l ++ m).toArray
  simp
theorem T_inj {l m : List Nat} (h : T l = T m) : l = m := by
  have := congrArg (fun x : Str => x.cps.toList) h
  simpa using this

inductive KV : List (Str × Value) → List (List Nat × List Nat) → Prop
  | nil : KV [] []
  | cons {k v : List Nat} {t : Tok} {r rs} : KV r rs → KV ((T k, .str (T v) t) :: r) ((k, v) :: rs)

/-- the program, the world, the names at the top, the heap that stands behind the top's run -/
structure Cfg where
  prog : Program
  w : World
  gm : Str → Option Value
  b0 : Heap
  /-- nothing is being handled around -/
  q : Bool

section
variable (C : Cfg)
mutual
/-- v holds the datum d in the heap h, away from the addresses in bad -/
inductive DIn (bad : List Addr) (h : Heap) : Value → D → Prop
  | none : DIn bad h Value.none D.none
  | bool (b : Bool) : DIn bad h (Value.bool b) (D.bool b)
  | int (i : Int) (t : Tok) : DIn bad h (Value.int i t) (D.int i)
  | str (l : List Nat) (t : Tok) : DIn bad h (Value.str (T l) t) (D.str l)
  | tuple {a : Addr} {vs : List Value} {n : Nat} {ds : List D} : a ∉ bad → h.get? a = some { cls := .type "tuple", data := .seq vs.toArray n } → DAll bad h vs ds → DIn bad h (Value.ref a) (D.tuple ds)
  | list {a : Addr} {vs : List Value} {n : Nat} {ds : List D} : a ∉ bad → h.get? a = some { cls := .type "list", data := .seq vs.toArray n } → DAll bad h vs ds → DIn bad h (Value.ref a) (D.list ds)
  | dict {a : Addr} {kvs : List (Str × Value)} {ds : List (List Nat × List Nat)} : a ∉ bad → ((a == sysModules) = false ∧ ∃ es n, h.get? a = some { cls := .type "dict", data := .dict es n }) → Heap.DictOf (strKind C.prog C.w) h a kvs → KV kvs ds → DIn bad h (Value.ref a) (D.dict ds)
  | val (v : Value) : DIn bad h v (D.val v)
inductive DAll (bad : List Addr) (h : Heap) : List Value → List D → Prop
  | nil : DAll bad h [] []
  | cons {v : Value} {vs : List Value} {d : D} {ds : List D} : DIn bad h v d → DAll bad h vs ds → DAll bad h (v :: vs) (d :: ds)
end
end

theorem noneBack {h h' : Heap} {a : Addr} (hk : ∀ o, h.get? a = some o → h'.get? a = some o) (e : h'.get? a = none) : h.get? a = none := by
  cases q : h.get? a with
  | none => rfl
  | some o => exact nomatch e.symm.trans (hk o q)
theorem noSome {h : Heap} {a : Addr} {o : Obj} {P : Prop} (e : h.get? a = none) (e' : h.get? a = some o) : P := nomatch e.symm.trans e'
theorem noLive {h : Heap} {a : Addr} {P : Prop} (e : h.get? a = none) (l : (h.get? a).isSome = true) : P := by rw [e] at l; cases l
theorem liveOf {h : Heap} {a : Addr} {o : Obj} (e : h.get? a = some o) : (h.get? a).isSome = true := by rw [e]; rfl
theorem liveUp {h h' : Heap} {a : Addr} (hk : ∀ o, h.get? a = some o → h'.get? a = some o) (l : (h.get? a).isSome = true) : (h'.get? a).isSome = true := by
  obtain ⟨o, e⟩ := Option.isSome_iff_exists.mp l
  exact liveOf (hk o e)

section
variable {C : Cfg} {bad bad' : List Addr} {h h' : Heap}

theorem DictOf.at {h h' : Heap} {a : Addr} {kvs : List (Str × Value)} (x : Heap.DictOf (strKind C.prog C.w) h a kvs) (e : ∀ o, h.get? a = some o → h'.get? a = some o) : Heap.DictOf (strKind C.prog C.w) h' a kvs :=
  x.elim fun o ⟨es, ep, ho, r⟩ => ⟨o, es, ep, e o ho, r⟩

/-- another heap, other addresses set apart -/
theorem DIn.gen {C' : Cfg} (e1 : C.prog = C'.prog) (e2 : C.w = C'.w) (hk : ∀ a o, a ∉ bad → h.get? a = some o → a ∉ bad' ∧ h'.get? a = some o) {v : Value} {d : D} (x : DIn C bad h v d) : DIn C' bad' h' v d :=
  DIn.rec (motive_1 := fun v d _ => DIn C' bad' h' v d) (motive_2 := fun vs ds _ => DAll C' bad' h' vs ds) .none .bool .int .str (fun hb ho _ r => .tuple (hk _ _ hb ho).1 (hk _ _ hb ho).2 r) (fun hb ho _ r => .list (hk _ _ hb ho).1 (hk _ _ hb ho).2 r)
    (fun hb ho hd r => .dict (hk _ _ hb ho.2.choose_spec.choose_spec).1 ⟨ho.1, ho.2.choose, ho.2.choose_spec.choose, (hk _ _ hb ho.2.choose_spec.choose_spec).2⟩ (e1 ▸ e2 ▸ DictOf.at hd fun o e => (hk _ o hb e).2) r) .val .nil (fun _ _ a b => .cons a b) x
theorem DAll.gen {C' : Cfg} (e1 : C.prog = C'.prog) (e2 : C.w = C'.w) (hk : ∀ a o, a ∉ bad → h.get? a = some o → a ∉ bad' ∧ h'.get? a = some o) {vs : List Value} {ds : List D} (x : DAll C bad h vs ds) : DAll C' bad' h' vs ds :=
  DAll.rec (motive_1 := fun _ _ _ => True) (motive_2 := fun vs ds _ => DAll C' bad' h' vs ds) trivial (fun _ => trivial) (fun _ _ => trivial) (fun _ _ => trivial) (fun _ _ _ _ => trivial) (fun _ _ _ _ => trivial) (fun _ _ _ _ => trivial) (fun _ => trivial) .nil (fun a _ _ b => .cons (a.gen e1 e2 hk) b) x
theorem DIn.mono (hk : ∀ a o, a ∉ bad → h.get? a = some o → h'.get? a = some o) {v : Value} {d : D} (x : DIn C bad h v d) : DIn C bad h' v d := x.gen rfl rfl fun a o hb e => ⟨hb, hk a o hb e⟩
theorem DAll.mono (hk : ∀ a o, a ∉ bad → h.get? a = some o → h'.get? a = some o) {vs : List Value} {ds : List D} (x : DAll C bad h vs ds) : DAll C bad h' vs ds := x.gen rfl rfl fun a o hb e => ⟨hb, hk a o hb e⟩
theorem DIn.less (hs : ∀ a, a ∈ bad' → a ∈ bad) {v : Value} {d : D} (x : DIn C bad h v d) : DIn C bad' h v d := x.gen rfl rfl fun a _ hb e => ⟨fun q => hb (hs a q), e⟩
theorem DAll.less (hs : ∀ a, a ∈ bad' → a ∈ bad) {vs : List Value} {ds : List D} (x : DAll C bad h vs ds) : DAll C bad' h vs ds := x.gen rfl rfl fun a _ hb e => ⟨fun q => hb (hs a q), e⟩
theorem apartNew (hs : ∀ a, a ∈ bad' → a ∈ bad ∨ h.get? a = none) : ∀ a o, a ∉ bad → h.get? a = some o → a ∉ bad' ∧ h.get? a = some o := fun a _ hb e => ⟨fun q => (hs a q).elim hb fun z => (nomatch z.symm.trans e), e⟩
/-- more addresses may be set apart if the data's objects do not lie there -/
theorem DIn.more (hs : ∀ a, a ∈ bad' → a ∈ bad ∨ h.get? a = Option.none) {v : Value} {d : D} (x : DIn C bad h v d) : DIn C bad' h v d := x.gen rfl rfl (apartNew hs)
theorem DAll.more (hs : ∀ a, a ∈ bad' → a ∈ bad ∨ h.get? a = none) {vs : List Value} {ds : List D} (x : DAll C bad h vs ds) : DAll C bad' h vs ds := x.gen rfl rfl (apartNew hs)

/-- v is the sequence at a -/
structure SeqIs (C : Cfg) (bad : List Addr) (h : Heap) (v : Value) (T : String) (ds : List D) (a : Addr) (vs : List Value) (n : Nat) : Prop where
  eq : v = .ref a
  nb : a ∉ bad
  lies : h.get? a = some { cls := .type T, data := .seq vs.toArray n }
  all : DAll C bad h vs ds
structure DctIs (C : Cfg) (bad : List Addr) (h : Heap) (v : Value) (ds : List (List Nat × List Nat)) (a : Addr) (kvs : List (Str × Value)) : Prop where
  eq : v = .ref a
  nb : a ∉ bad
  lies : (a == sysModules) = false ∧ ∃ es n, h.get? a = some { cls := .type "dict", data := .dict es n }
  is : Heap.DictOf (strKind C.prog C.w) h a kvs
  kv : KV kvs ds
/-- what a datum says of its value -/
noncomputable def DInv (C : Cfg) (bad : List Addr) (h : Heap) (v : Value) : D → Prop
  | .none => v = .none
  | .bool b => v = .bool b
  | .int i => ∃ t, v = .int i t
  | .str l => ∃ t, v = .str (T l) t
  | .tuple ds => ∃ a vs n, SeqIs C bad h v "tuple" ds a vs n
  | .list ds => ∃ a vs n, SeqIs C bad h v "list" ds a vs n
  | .dict ds => ∃ a kvs, DctIs C bad h v ds a kvs
  | .val u => v = u
theorem DIn.inv {v : Value} {d : D} (x : DIn C bad h v d) : DInv C bad h v d := by
  cases x with
  | none => rfl
  | bool b => rfl
  | int i t => exact ⟨t, rfl⟩
  | str l t => exact ⟨t, rfl⟩
  | tuple a b c => exact ⟨_, _, _, rfl, a, b, c⟩
  | list a b c => exact ⟨_, _, _, rfl, a, b, c⟩
  | dict a b c d => exact ⟨_, _, rfl, a, b, c, d⟩
  | val v => rfl
theorem DIn.boolInv {v : Value} {b : Bool} (x : DIn C bad h v (.bool b)) : v = .bool b := x.inv
theorem DIn.intInv {v : Value} {i : Int} (x : DIn C bad h v (.int i)) : ∃ t, v = .int i t := x.inv
theorem DIn.strInv {v : Value} {l : List Nat} (x : DIn C bad h v (.str l)) : ∃ t, v = .str (T l) t := x.inv
theorem DIn.tupInv {v : Value} {ds : List D} (x : DIn C bad h v (.tuple ds)) : ∃ a vs n, SeqIs C bad h v "tuple" ds a vs n := x.inv
theorem DIn.lstInv {v : Value} {ds : List D} (x : DIn C bad h v (.list ds)) : ∃ a vs n, SeqIs C bad h v "list" ds a vs n := x.inv
theorem DIn.dctInv {v : Value} {ds : List (List Nat × List Nat)} (x : DIn C bad h v (.dict ds)) : ∃ a kvs, DctIs C bad h v ds a kvs := x.inv
theorem DIn.valInv {v u : Value} (x : DIn C bad h v (.val u)) : v = u := x.inv
noncomputable def DAlv (C : Cfg) (bad : List Addr) (h : Heap) (vs : List Value) : List D → Prop
  | [] => vs = []
  | d :: ds => ∃ v us, vs = v :: us ∧ DIn C bad h v d ∧ DAll C bad h us ds
theorem DAll.inv {vs : List Value} {ds : List D} (x : DAll C bad h vs ds) : DAlv C bad h vs ds := by
  cases x with
  | nil => rfl
  | cons a b => exact ⟨_, _, rfl, a, b⟩
theorem DAll.nilInv {vs : List Value} (x : DAll C bad h vs []) : vs = [] := x.inv
theorem DAll.consInv {vs : List Value} {d : D} {ds : List D} (x : DAll C bad h vs (d :: ds)) : ∃ v us, vs = v :: us ∧ DIn C bad h v d ∧ DAll C bad h us ds := x.inv
theorem DAll.one {vs : List Value} {d : D} (x : DAll C bad h vs [d]) : ∃ v, vs = [v] ∧ DIn C bad h v d := by
  obtain ⟨v, us, rfl, a, b⟩ := x.consInv
  exact ⟨v, by rw [b.nilInv], a⟩
theorem DAll.two {vs : List Value} {d e : D} (x : DAll C bad h vs [d, e]) : ∃ v u, vs = [v, u] ∧ DIn C bad h v d ∧ DIn C bad h u e := by
  obtain ⟨v, us, rfl, a, b⟩ := x.consInv
  obtain ⟨u, rfl, c⟩ := b.one
  exact ⟨v, u, rfl, a, c⟩
theorem DAll.three {vs : List Value} {d e f : D} (x : DAll C bad h vs [d, e, f]) : ∃ v u w, vs = [v, u, w] ∧ DIn C bad h v d ∧ DIn C bad h u e ∧ DIn C bad h w f := by
  obtain ⟨v, us, rfl, a, b⟩ := x.consInv
  obtain ⟨u, w, rfl, c, d⟩ := b.two
  exact ⟨v, u, w, rfl, a, c, d⟩

theorem DAll.length {vs : List Value} {ds : List D} (x : DAll C bad h vs ds) : vs.length = ds.length := by
  induction ds generalizing vs with
  | nil => exact congrArg List.length x.nilInv
  | cons d ds ih =>
    obtain ⟨v, us, rfl, _, r⟩ := x.consInv
    exact congrArg Nat.succ (ih r)
theorem DAll.append {vs ws : List Value} {ds es : List D} (x : DAll C bad h vs ds) (y : DAll C bad h ws es) : DAll C bad h (vs ++ ws) (ds ++ es) := by
  induction ds generalizing vs with
  | nil => rw [x.nilInv]; exact y
  | cons d ds ih =>
    obtain ⟨v, us, rfl, a, r⟩ := x.consInv
    exact .cons a (ih r)
theorem DAll.get {vs : List Value} {ds : List D} (x : DAll C bad h vs ds) : ∀ {k : Nat} {d : D}, ds[k]? = some d → ∃ v, vs[k]? = some v ∧ DIn C bad h v d := by
  induction ds generalizing vs with
  | nil => intro k d hk; cases hk
  | cons e ds ih =>
    obtain ⟨v, us, rfl, a, r⟩ := x.consInv
    intro k d hk
    cases k with
    | zero => exact ⟨v, rfl, Option.some.inj hk ▸ a⟩
    | succ k => exact ih r hk
theorem DAll.get' {vs : List Value} {ds : List D} (x : DAll C bad h vs ds) : ∀ {k : Nat} {v : Value}, vs[k]? = some v → ∃ d, ds[k]? = some d ∧ DIn C bad h v d := by
  induction ds generalizing vs with
  | nil => rw [x.nilInv]; intro k d hk; cases hk
  | cons e ds ih =>
    obtain ⟨v, us, rfl, a, r⟩ := x.consInv
    intro k u hk
    cases k with
    | zero => exact ⟨e, rfl, Option.some.inj hk ▸ a⟩
    | succ k => exact ih r hk
theorem DAll.take {vs : List Value} {ds : List D} (x : DAll C bad h vs ds) (n : Nat) : DAll C bad h (vs.take n) (ds.take n) := by
  induction ds generalizing vs n with
  | nil => rw [x.nilInv, List.take_nil, List.take_nil]; exact .nil
  | cons e ds ih =>
    obtain ⟨v, us, rfl, a, r⟩ := x.consInv
    cases n with
    | zero => exact .nil
    | succ n => exact .cons a (ih r n)
theorem DAll.drop {vs : List Value} {ds : List D} (x : DAll C bad h vs ds) (n : Nat) : DAll C bad h (vs.drop n) (ds.drop n) := by
  induction ds generalizing vs n with
  | nil => rw [x.nilInv, List.drop_nil, List.drop_nil]; exact .nil
  | cons e ds ih =>
    cases n with
    | zero => exact x
    | succ n =>
      obtain ⟨v, us, rfl, a, r⟩ := x.consInv
      exact ih r n
end

/-- what an environment bears beside its scope -/
structure Rt where
  L : Addr
  cs : List (Str × Addr)
  q : Str
  f : Option Addr
  cd : Value
  fr : Option Addr

noncomputable def En (sc : Scope) (r : Rt) : Env := { scope := sc, locals := r.L, globals := mainGlobals, cells := r.cs, qual := r.q, func := r.f, code := r.cd, frame := r.fr, builtins := builtinsNs }
theorem En_kind (sc : Scope) (r : Rt) (x : Str) : (En sc r).kindOf x = sc.names.lookup x := rfl

noncomputable abbrev Gm := List (Str × D)

noncomputable def VarAt (sc : Scope) (r : Rt) (h : Heap) (x : Str) (v : Value) : Prop :=
  (sc.names.lookup x = some .local ∧ ∃ m, h.Ns r.L m ∧ m x = some v) ∨
  ((sc.names.lookup x = some .cell ∨ sc.names.lookup x = some .free) ∧ ∃ c, r.cs.lookup x = some c ∧ h.IsCell c (some v))

theorem VarAt.keeps {sc r h h' x v} (y : VarAt sc r h x v) (hk : ∀ b o, h.get? b = some o → h'.get? b = some o) : VarAt sc r h' x v :=
  y.imp (fun ⟨a, m, hn, e⟩ => ⟨a, m, hn.keeps hk, e⟩) fun ⟨a, c, e, hc⟩ => ⟨a, c, e, hc.keeps hk⟩

structure HeldIs (A : Around) (bad : List Addr) (h : Heap) (a : Addr) (o : Obj) (vs : Array Value) : Prop where
  eq : A.handled = some (.ref a)
  nb : a ∉ bad
  lies : h.get? a = some o
  data : o.data = .fields vs
  two : vs[2]? = some .none
  three : vs[3]? = some .none
/-- the exception that is being handled around, if any: a plain one without a context -/
noncomputable def Held (A : Around) (bad : List Addr) (h : Heap) : Prop := A.handled = none ∨ ∃ a o vs, HeldIs A bad h a o vs

/-- the names of the text's top and of the built-ins -/
structure Top0 (C : Cfg) : Prop where
  g : C.b0.Ns mainGlobals C.gm
  bi : ∃ mb, C.b0.Ns builtinsNs mb ∧ ∀ x : Str, x ≠ "__name__" → mb x = bootBuiltins x
  lim : C.b0.NoLimit

section
variable (C : Cfg)

/-- the world around a walk at level n -/
structure Wd (n : Nat) (A : Around) (bad : List Addr) (h : Heap) : Prop where
  depth : A.depth + n ≤ 900
  units : A.units + 20 * n ≤ 9000
  top : Top0 C
  base : C.b0.StaysIn h
  held : Held A bad h
  quiet : C.q = true → A.handled = none
  live : ∀ a ∈ bad, (h.get? a).isSome = true
  apart : ∀ a ∈ bad, C.b0.get? a = none

noncomputable def GOk (sc : Scope) (r : Rt) (bad : List Addr) (h : Heap) (Γ : Gm) : Prop :=
  ∀ x d, Γ.lookup x = some d → ∃ v, VarAt sc r h x v ∧ DIn C bad h v d

/-- the expression gives the datum d -/
structure EV (n : Nat) (sc : Scope) (Γ : Gm) (e : Expr) (d : D) : Prop where
  run : ∀ (A : Around) (s : Shared) (r : Rt) (bad : List Addr) (Q : Value → Shared → Prop) (E : Value → Shared → Prop),
    Wd C n A bad s.heap → GOk C sc r bad s.heap Γ →
    (∀ v s', Kp s s' → DIn C bad s'.heap v d → Q v s') → wpAny (model C.prog C.w) A (eval e (En sc r)) Q E s

/-- the test's answer -/
structure EB (n : Nat) (sc : Scope) (Γ : Gm) (e : Expr) (b : Bool) : Prop where
  run : ∀ (A : Around) (s : Shared) (r : Rt) (bad : List Addr) (Q : Bool → Shared → Prop) (E : Value → Shared → Prop),
    Wd C n A bad s.heap → GOk C sc r bad s.heap Γ →
    (∀ s', Kp s s' → Q b s') → wpAny (model C.prog C.w) A (isTrue e (En sc r) (eval e (En sc r))) Q E s

/-- the function at the address a, called with these data -/
noncomputable def FN (n : Nat) (a : Addr) (ds : List D) (d : D) : Prop :=
  ∀ (A : Around) (s : Shared) (bad : List Addr) (vs : List Value) (Q : Value → Shared → Prop) (E : Value → Shared → Prop),
    Wd C n A bad s.heap → DAll C bad s.heap vs ds →
    (∀ v s', Kp s s' → DIn C bad s'.heap v d → Q v s') → wpAny (model C.prog C.w) A (call (.ref a) vs) Q E s
end

theorem Kp.rfl' {s : Shared} : Kp s s := ⟨s.heap, s.toks, rfl, fun _ _ e => e⟩
theorem Kp.tok {s : Shared} (t : Nat) : Kp s { s with toks := t } := ⟨s.heap, t, rfl, fun _ _ e => e⟩
theorem Kp.push {s : Shared} (o : Obj) : Kp s { s with heap := s.heap.push o } := ⟨_, s.toks, rfl, fun _ _ e => Heap.get?_push_of_some _ e⟩
theorem Kp.trans {s s' s'' : Shared} (a : Kp s s') (b : Kp s' s'') : Kp s s'' := by
  obtain ⟨h1, t1, rfl, k1⟩ := a
  obtain ⟨h2, t2, rfl, k2⟩ := b
  exact ⟨h2, t2, rfl, fun x o e => k2 x o (k1 x o e)⟩
theorem Kp.heap {s s' : Shared} (a : Kp s s') : ∀ b o, s.heap.get? b = some o → s'.heap.get? b = some o := by
  obtain ⟨h1, t1, rfl, k1⟩ := a; exact k1

section
variable {C : Cfg} {n : Nat} {A : Around} {bad : List Addr} {h h' : Heap} {sc : Scope} {r : Rt} {Γ : Gm}

theorem Held.keeps (x : Held A bad h) (hk : ∀ b o, b ∉ bad → h.get? b = some o → h'.get? b = some o) : Held A bad h' :=
  x.imp id fun ⟨a, o, vs, y⟩ => ⟨a, o, vs, { y with lies := hk a o y.nb y.lies }⟩
theorem Held.deep {A' : Around} (e : A'.handled = A.handled) (x : Held A bad h) : Held A' bad h :=
  x.imp (fun q => e.trans q) fun ⟨a, o, vs, y⟩ => ⟨a, o, vs, e.trans y.eq, y.nb, y.lies, y.data, y.two, y.three⟩
theorem Wd.keeps (x : Wd C n A bad h) (hk : ∀ b o, h.get? b = some o → h'.get? b = some o) : Wd C n A bad h' where
  depth := x.depth
  units := x.units
  top := x.top
  base := fun b o e => hk b o (x.base b o e)
  held := x.held.keeps fun b o _ e => hk b o e
  quiet := x.quiet
  live := fun a ha => liveUp (fun o => hk a o) (x.live a ha)
  apart := x.apart
theorem GOk.keeps (x : GOk C sc r bad h Γ) (hk : ∀ b o, h.get? b = some o → h'.get? b = some o) : GOk C sc r bad h' Γ :=
  fun y d e => let ⟨v, hv, hd⟩ := x y d e; ⟨v, hv.keeps hk, hd.mono fun a o _ q => hk a o q⟩
theorem Wd.fresh (x : Wd C n A bad h) : h.objs.size ∉ bad := fun q => by
  obtain ⟨o, e⟩ := Option.isSome_iff_exists.mp (x.live _ q)
  exact Nat.lt_irrefl _ (Heap.lt_size e)
theorem Wd.g (x : Wd C n A bad h) : h.Ns mainGlobals C.gm := x.top.g.keeps x.base
end


section
variable {C C' : Cfg} {bad : List Addr} {h : Heap}
theorem DIn.cfg (e1 : C.prog = C'.prog) (e2 : C.w = C'.w) {v : Value} {d : D} (x : DIn C bad h v d) : DIn C' bad h v d := x.gen e1 e2 fun _ _ hb e => ⟨hb, e⟩
end

end Mine

-- Kit2
namespace Mine

section
variable (C : Cfg)

/-- an operation on two values -/
noncomputable def OP2 (n : Nat) (t : Value → Value → Sem Value) (d₁ d₂ d : D) : Prop :=
  ∀ (A : Around) (s : Shared) (bad : List Addr) (v₁ v₂ : Value) (Q : Value → Shared → Prop) (E : Value → Shared → Prop),
    Wd C n A bad s.heap → DIn C bad s.heap v₁ d₁ → DIn C bad s.heap v₂ d₂ →
    (∀ v s', Kp s s' → DIn C bad s'.heap v d → Q v s') → wpAny (model C.prog C.w) A (t v₁ v₂) Q E s
noncomputable def OP1 (n : Nat) (t : Value → Sem Value) (d₁ d : D) : Prop :=
  ∀ (A : Around) (s : Shared) (bad : List Addr) (v₁ : Value) (Q : Value → Shared → Prop) (E : Value → Shared → Prop),
    Wd C n A bad s.heap → DIn C bad s.heap v₁ d₁ →
    (∀ v s', Kp s s' → DIn C bad s'.heap v d → Q v s') → wpAny (model C.prog C.w) A (t v₁) Q E s
/-- a truth value -/
noncomputable def TR (n : Nat) (d : D) (b : Bool) : Prop :=
  ∀ (A : Around) (s : Shared) (bad : List Addr) (v₁ : Value) (Q : Bool → Shared → Prop) (E : Value → Shared → Prop),
    Wd C n A bad s.heap → DIn C bad s.heap v₁ d →
    (∀ s', Kp s s' → Q b s') → wpAny (model C.prog C.w) A (truthy v₁) Q E s
end

section
variable {C : Cfg} {n : Nat} {sc : Scope} {Γ : Gm}

theorem EV.name {x : Str} {pos : Pos} {d : D} (hx : Γ.lookup x = some d) (hk : sc.kind = .function) (hd : (x == ("__debug__" : Str)) = false := by decide +kernel)
    (hc : (x == ("__classdict__" : Str)) = false := by decide +kernel) :
    EV C n sc Γ (.Name x pos) d := by
  refine ⟨fun A s r bad Q E W G K => ?_⟩
  obtain ⟨v, hv, hdv⟩ := G x d hx
  refine wpAny_Name ?_ hd
  rcases hv with ⟨hl, m, hn, hm⟩ | ⟨hl | hl, c, hcs, hcell⟩
  · exact wpAny_loadName_local (env := En sc r) hk hl hn hm (K v s .rfl' hdv)
  · exact wpAny_loadName_cell (env := En sc r) hk hl hcs hcell (K v s .rfl' hdv)
  · exact wpAny_loadName_free (env := En sc r) hk hl hcs hcell (K v s .rfl' hdv) hc

theorem EV.glob {x : Str} {pos : Pos} {v : Value} (hg : C.gm x = some v) (hl : sc.names.lookup x = some .globalImplicit) (hk : sc.kind = .function) (hd : (x == ("__debug__" : Str)) = false := by decide +kernel) :
    EV C n sc Γ (.Name x pos) (.val v) := by
  refine ⟨fun A s r bad Q E W G K => ?_⟩
  exact Calls.Name_function_global (env := En sc r) hk hl (Calls.loadGlobal_global (env := En sc r) W.g hg (K v s .rfl' (.val v))) hd

theorem EV.builtin {x : Str} {pos : Pos} {v : Value} (hg : C.gm x = none) (hb : bootBuiltins x = some v) (hl : sc.names.lookup x = some .globalImplicit) (hk : sc.kind = .function) (hx : x ≠ "__name__" := by decide +kernel) (hd : (x == ("__debug__" : Str)) = false := by decide +kernel) :
    EV C n sc Γ (.Name x pos) (.val v) := by
  refine ⟨fun A s r bad Q E W G K => ?_⟩
  obtain ⟨mb, hn, hmb⟩ := W.top.bi
  exact Calls.Name_function_global (env := En sc r) hk hl (Calls.loadGlobal_builtin (env := En sc r) W.g hg (hn.keeps W.base) ((hmb x hx).trans hb) (K v s .rfl' (.val v))) hd

theorem EV.cInt {i : Int} {k : Nat} {pos : Pos} : EV C n sc Γ (.Constant (.int i) k pos) (.int i) := by
  refine ⟨fun A s r bad Q E W G K => ?_⟩
  exact wpAny_Constant_int (K _ _ (.tok _) (.int i _))
theorem EV.cStr {x : Str} {l : List Nat} {k : Nat} {pos : Pos} (hx : x = T l) : EV C n sc Γ (.Constant (.str x) k pos) (.str l) := by
  refine ⟨fun A s r bad Q E W G K => ?_⟩
  subst hx
  exact wpAny_Constant_str (K _ _ (.tok _) (.str l _))
theorem EV.cBool {b : Bool} {k : Nat} {pos : Pos} : EV C n sc Γ (.Constant (.bool b) k pos) (.bool b) := by
  refine ⟨fun A s r bad Q E W G K => ?_⟩
  exact wpAny_Constant_bool (K _ _ .rfl' (.bool b))

theorem EV.bin {l r₁ : Expr} {op : Operator} {pos : Pos} {d₁ d₂ d : D} (h₁ : EV C n sc Γ l d₁) (h₂ : EV C n sc Γ r₁ d₂) (o : OP2 C n (binaryOp op) d₁ d₂ d) :
    EV C n sc Γ (.BinOp l op r₁ pos) d := by
  refine ⟨fun A s r bad Q E W G K => ?_⟩
  refine wpAny_BinOp (h₁.run A s r bad _ E W G fun v₁ s₁ k₁ i₁ => ?_)
  refine h₂.run A s₁ r bad _ E (W.keeps k₁.heap) (G.keeps k₁.heap) fun v₂ s₂ k₂ i₂ => ?_
  exact o A s₂ bad v₁ v₂ Q E ((W.keeps k₁.heap).keeps k₂.heap) (i₁.mono fun a o _ e => k₂.heap a o e) i₂ fun v s' k i => K v s' ((k₁.trans k₂).trans k) i

theorem EV.cmp {l r₁ : Expr} {op : CmpOp} {pos : Pos} {d₁ d₂ d : D} (h₁ : EV C n sc Γ l d₁) (h₂ : EV C n sc Γ r₁ d₂) (o : OP2 C n (compareOp op) d₁ d₂ d)
    (hm : behindInMarks op r₁ = false := by with_unfolding_all rfl) : EV C n sc Γ (.Compare l [op] [r₁] pos) d := by
  refine ⟨fun A s r bad Q E W G K => ?_⟩
  refine wpAny_Compare1 (h₁.run A s r bad _ E W G fun v₁ s₁ k₁ i₁ => ?_) hm
  refine h₂.run A s₁ r bad _ E (W.keeps k₁.heap) (G.keeps k₁.heap) fun v₂ s₂ k₂ i₂ => ?_
  exact o A s₂ bad v₁ v₂ Q E ((W.keeps k₁.heap).keeps k₂.heap) (i₁.mono fun a o _ e => k₂.heap a o e) i₂ fun v s' k i => K v s' ((k₁.trans k₂).trans k) i

theorem EB.cmp {l r₁ : Expr} {op : CmpOp} {pos : Pos} {d₁ d₂ : D} {b : Bool} (h₁ : EV C n sc Γ l d₁) (h₂ : EV C n sc Γ r₁ d₂) (o : OP2 C n (compareOp op) d₁ d₂ (.bool b))
    (hm : behindInMarks op r₁ = false := by with_unfolding_all rfl) : EB C n sc Γ (.Compare l [op] [r₁] pos) b := by
  refine ⟨fun A s r bad Q E W G K => ?_⟩
  refine wpAny_isTrue_Compare1 (h₁.run A s r bad _ E W G fun v₁ s₁ k₁ i₁ => ?_) hm
  refine h₂.run A s₁ r bad _ E (W.keeps k₁.heap) (G.keeps k₁.heap) fun v₂ s₂ k₂ i₂ => ?_
  refine o A s₂ bad v₁ v₂ _ E ((W.keeps k₁.heap).keeps k₂.heap) (i₁.mono fun a o _ e => k₂.heap a o e) i₂ fun v s' k i => ?_
  obtain rfl := i.boolInv
  exact wpAny_truthy_bool (K s' ((k₁.trans k₂).trans k))

/-- a test that is a name (or any expression that isTrue does not take apart) -/
theorem EB.val {e : Expr} {d : D} {b : Bool} (h : EV C n sc Γ e d) (t : TR C n d b)
    (he : ∀ r, isTrue e (En sc r) (eval e (En sc r)) = (do let v ← eval e (En sc r); standAt e.pos; holding [v] (truthy v)) := by intro _; rfl) : EB C n sc Γ e b := by
  refine ⟨fun A s r bad Q E W G K => ?_⟩
  refine wpAny_isTrue_value (h.run A s r bad _ E W G fun v s₁ k₁ i₁ => ?_) (he r)
  exact t A s₁ bad v Q E (W.keeps k₁.heap) i₁ fun s' k => K s' (k₁.trans k)

/-- all of a conjunction's parts -/
inductive EBs (C : Cfg) (n : Nat) (sc : Scope) (Γ : Gm) : List Expr → Bool → Prop
  | nil : EBs C n sc Γ [] true
  | tt {e : Expr} {rest : List Expr} {b : Bool} : EB C n sc Γ e true → EBs C n sc Γ rest b → EBs C n sc Γ (e :: rest) b
  | ff {e : Expr} {rest : List Expr} : EB C n sc Γ e false → EBs C n sc Γ (e :: rest) false

theorem EBs.run {es : List Expr} {b : Bool} (x : EBs C n sc Γ es b) :
    ∀ (A : Around) (s : Shared) (r : Rt) (bad : List Addr) (Q : Bool → Shared → Prop) (E : Value → Shared → Prop),
      Wd C n A bad s.heap → GOk C sc r bad s.heap Γ → (∀ s', Kp s s' → Q b s') → wpAny (model C.prog C.w) A (allTrue .And es (En sc r)) Q E s := by
  induction x with
  | nil => intro A s r bad Q E W G K; exact wpAny_allTrue_And_nil (K s .rfl')
  | tt h _ ih =>
    intro A s r bad Q E W G K
    refine wpAny_allTrue_And_cons (h.run A s r bad _ E W G fun s₁ k₁ => ?_)
    exact ih A s₁ r bad Q E (W.keeps k₁.heap) (G.keeps k₁.heap) fun s' k => K s' (k₁.trans k)
  | ff h =>
    intro A s r bad Q E W G K
    exact wpAny_allTrue_And_cons (h.run A s r bad _ E W G fun s₁ k₁ => K s₁ k₁)
theorem EB.and {es : List Expr} {pos : Pos} {b : Bool} (x : EBs C n sc Γ es b) : EB C n sc Γ (.BoolOp .And es pos) b := by
  refine ⟨fun A s r bad Q E W G K => ?_⟩
  exact wpAny_isTrue_BoolOp (x.run A s r bad Q E W G K)

theorem EV.ifexp {t b o : Expr} {pos : Pos} {c : Bool} {d : D} (ht : EB C n sc Γ t c) (h1 : c = true → EV C n sc Γ b d) (h2 : c = false → EV C n sc Γ o d) :
    EV C n sc Γ (.IfExp t b o pos) d := by
  refine ⟨fun A s r bad Q E W G K => ?_⟩
  refine wpAny_IfExp (ht.run A s r bad _ E W G fun s₁ k₁ => ?_)
  cases c with
  | true => exact (h1 rfl).run A s₁ r bad Q E (W.keeps k₁.heap) (G.keeps k₁.heap) fun v s' k i => K v s' (k₁.trans k) i
  | false => exact (h2 rfl).run A s₁ r bad Q E (W.keeps k₁.heap) (G.keeps k₁.heap) fun v s' k i => K v s' (k₁.trans k) i

theorem EV.and2 {x y : Expr} {pos : Pos} {d : D} (hx : EV C n sc Γ x (.bool true)) (hy : EV C n sc Γ y d) :
    EV C n sc Γ (.BoolOp .And [x, y] pos) d := by
  refine ⟨fun A s r bad Q E W G K => ?_⟩
  refine wpAny_And2 (hx.run A s r bad _ E W G fun v s₁ k₁ i₁ => ?_)
  obtain rfl := i₁.boolInv
  refine wpAny_truthy_bool ?_
  exact hy.run A s₁ r bad Q E (W.keeps k₁.heap) (G.keeps k₁.heap) fun v s' k i => K v s' (k₁.trans k) i

theorem EV.neg1 {i : Int} {k : Nat} {p pos : Pos} : EV C n sc Γ (.UnaryOp .USub (.Constant (.int i) k p) pos) (.int (-i)) := by
  refine ⟨fun A s r bad Q E W G K => ?_⟩
  refine wpAny_UnaryOp (wpAny_Constant_int ?_)
  exact PySem.P.neg_int (K _ _ ((Kp.tok _).trans (.tok _)) (.int _ _))

/-! operations -/
theorem OP2.addStr {l m : List Nat} (hl : l.length + m.length ≤ 10000000) : OP2 C n (binaryOp .Add) (.str l) (.str m) (.str (l ++ m)) := by
  intro A s bad v₁ v₂ Q E W i₁ i₂ K
  obtain ⟨t, rfl⟩ := i₁.strInv
  obtain ⟨u, rfl⟩ := i₂.strInv
  refine PySem.P.add_str ?_
  split
  · rename_i h0
    have : l = [] := by rw [T_length] at h0; simpa using h0
    subst this
    exact K _ s .rfl' (.str m u)
  · split
    · rename_i h0
      have : m = [] := by rw [T_length] at h0; simpa using h0
      subst this
      rw [List.append_nil] at K
      exact K _ s .rfl' (.str l t)
    · refine ⟨?_, ?_⟩
      · rw [T_append, T_length, List.length_append, sizeLine_eq]; omega
      · rw [T_append]; exact K _ _ (.tok _) (.str _ _)
theorem OP2.iaddStr {l m : List Nat} (hl : l.length + m.length ≤ 10000000) : OP2 C n (inplaceOp .Add) (.str l) (.str m) (.str (l ++ m)) := by
  intro A s bad v₁ v₂ Q E W i₁ i₂ K
  obtain ⟨t, rfl⟩ := i₁.strInv
  obtain ⟨u, rfl⟩ := i₂.strInv
  refine PySem.P.iadd_str ?_
  split
  · rename_i h0
    have : l = [] := by rw [T_length] at h0; simpa using h0
    subst this
    exact K _ s .rfl' (.str m u)
  · split
    · rename_i h0
      have : m = [] := by rw [T_length] at h0; simpa using h0
      subst this
      rw [List.append_nil] at K
      exact K _ s .rfl' (.str l t)
    · refine ⟨?_, ?_⟩
      · rw [T_append, T_length, List.length_append, sizeLine_eq]; omega
      · rw [T_append]; exact K _ _ (.tok _) (.str _ _)
theorem OP2.addInt {a b : Int} : OP2 C n (binaryOp .Add) (.int a) (.int b) (.int (a + b)) := by
  intro A s bad v₁ v₂ Q E W i₁ i₂ K
  obtain ⟨_, rfl⟩ := i₁.intInv; obtain ⟨_, rfl⟩ := i₂.intInv
  exact PyProof.Rows.add_int (K _ _ (.tok _) (.int _ _))
theorem OP2.modInt {a b : Int} (hb : b ≠ 0) : OP2 C n (binaryOp .Mod) (.int a) (.int b) (.int (a.fmod b)) := by
  intro A s bad v₁ v₂ Q E W i₁ i₂ K
  obtain ⟨_, rfl⟩ := i₁.intInv; obtain ⟨_, rfl⟩ := i₂.intInv
  exact PyProof.Rows.mod_int hb (K _ _ (.tok _) (.int _ _))
theorem OP2.divInt {a b : Int} (hb : b ≠ 0) (hp : Builtin.divisionGoesByPylong a b = false) : OP2 C n (binaryOp .FloorDiv) (.int a) (.int b) (.int (a.fdiv b)) := by
  intro A s bad v₁ v₂ Q E W i₁ i₂ K
  obtain ⟨_, rfl⟩ := i₁.intInv; obtain ⟨_, rfl⟩ := i₂.intInv
  exact PyProof.Rows.floordiv_int hb (K _ _ (.tok _) (.int _ _)) (.inl hp)
theorem OP2.ltInt {a b : Int} : OP2 C n (compareOp .Lt) (.int a) (.int b) (.bool (decide (a < b))) := by
  intro A s bad v₁ v₂ Q E W i₁ i₂ K
  obtain ⟨_, rfl⟩ := i₁.intInv; obtain ⟨_, rfl⟩ := i₂.intInv
  exact PyProof.Rows.lt_int (K _ _ .rfl' (.bool _))
theorem OP2.eqInt {a b : Int} : OP2 C n (compareOp .Eq) (.int a) (.int b) (.bool (a == b)) := by
  intro A s bad v₁ v₂ Q E W i₁ i₂ K
  obtain ⟨_, rfl⟩ := i₁.intInv; obtain ⟨_, rfl⟩ := i₂.intInv
  exact PyProof.Rows.eq_int (K _ _ .rfl' (.bool _))
theorem OP2.eqStr {a b : List Nat} : OP2 C n (compareOp .Eq) (.str a) (.str b) (.bool (a == b)) := by
  intro A s bad v₁ v₂ Q E W i₁ i₂ K
  obtain ⟨_, rfl⟩ := i₁.strInv; obtain ⟨_, rfl⟩ := i₂.strInv
  exact PySem.P.eq_str (K _ _ .rfl' (.bool _))
theorem OP2.neStr {a b : List Nat} : OP2 C n (compareOp .NotEq) (.str a) (.str b) (.bool (a != b)) := by
  intro A s bad v₁ v₂ Q E W i₁ i₂ K
  obtain ⟨_, rfl⟩ := i₁.strInv; obtain ⟨_, rfl⟩ := i₂.strInv
  exact PySem.P.ne_str (K _ _ .rfl' (.bool _))
end
end Mine

-- Kit3
namespace Mine

/-- a cut of a list, as Python's slices take it -/
noncomputable def sl {α : Type} (lo hi : Option Int) (l : List α) : List α :=
  (l.drop (lo.elim 0 (clipAt l.length))).take (hi.elim l.length (clipAt l.length) - lo.elim 0 (clipAt l.length))

theorem sl_length_le {α : Type} (lo hi : Option Int) (l : List α) : (sl lo hi l).length ≤ l.length := by
  exact Nat.le_trans (List.length_take_le' _ _) (by rw [List.length_drop]; exact Nat.sub_le _ _)

theorem strIdx (lo hi : Option Int) (n : Nat) : Builtin.Str.strSliceIndices lo hi 1 n = (List.range (hi.elim n (clipAt n) - lo.elim 0 (clipAt n))).map (lo.elim 0 (clipAt n) + ·) := by
  rw [← sliceRange_one]
  unfold Builtin.Str.strSliceIndices
  cases lo <;> cases hi <;> simp [clipAt_cast]

theorem clipAt_le (n : Nat) (i : Int) : clipAt n i ≤ n := by
  unfold clipAt; omega

theorem picksOk {α : Type} (l : List α) (a c : Nat) (h : a + c ≤ l.length ∨ c = 0) : ((List.range c).map (a + ·)).filterMap (l[·]?) = (l.drop a).take c := by
  rcases h with h | h
  · exact StrLaws.picks l c a h
  · subst h; simp

theorem sl_str (l : List Nat) (lo hi : Option Int) : (Builtin.Str.strSliceIndices lo hi 1 (T l).length).filterMap ((T l).cps[·]?) = sl lo hi l := by
  rw [strIdx, T_length]
  have hc : ∀ i, clipAt l.length i ≤ l.length := clipAt_le l.length
  have := picksOk l (lo.elim 0 (clipAt l.length)) (hi.elim l.length (clipAt l.length) - lo.elim 0 (clipAt l.length)) (by
    cases lo <;> cases hi <;> simp only [Option.elim] <;> (try have := hc ‹Int›) <;> omega)
  unfold sl
  rw [← this]
  congr 1
  funext i
  simp

theorem sl_full (l : List Nat) (lo hi : Option Int) (h : (Builtin.Str.strSliceIndices lo hi 1 (T l).length).length = (T l).length) : sl lo hi l = l := by
  rw [strIdx, T_length] at h
  simp only [List.length_map, List.length_range] at h
  unfold sl
  have h1 : ∀ i, clipAt l.length i ≤ l.length := clipAt_le l.length
  have h2 : hi.elim l.length (clipAt l.length) ≤ l.length := by cases hi <;> simp [h1]
  by_cases hz : l.length = 0
  · have : l = [] := List.eq_nil_of_length_eq_zero hz
    subst this; simp
  · have e1 : lo.elim 0 (clipAt l.length) = 0 := by omega
    have e2 : hi.elim l.length (clipAt l.length) = l.length := by omega
    rw [e1, e2]; simp

theorem subsForm (slice : Expr) (o i : Value) : ∃ X, subscripted slice false o i = operate X (getItem o i) := by
  cases slice with
  | Slice a b c d => cases c <;> exact ⟨_, rfl⟩
  | _ => exact ⟨_, rfl⟩
theorem subAny {prog : Program} {w : World} {A : Around} {E : Value → Shared → Prop} {s : Shared} {env : Env} {value slice : Expr} {pos : Pos} {T id : String} {Q : Value → Shared → Prop}
    (hl : typeLookup (.type T) "__getitem__" = pure (some (.builtin id)))
    (h : wpAny (model prog w) A (eval value env) (fun o s₁ => wpAny (model prog w) A (eval slice env) (fun i s₂ => s₂.TypeIs o T ∧ wpAny (model prog w) A (getItem o i) Q E s₂) E s₁) E s) :
    wpAny (model prog w) A (eval (.Subscript value slice pos) env) Q E s := by
  rw [eval_Subscript]
  refine wpAny_bind (wpAny_mono h (fun o s₁ h₁ => wpAny_bind (wpAny_holding (wpAny_mono h₁ (fun i s₂ h₂ => wpAny_bind (wpAny_standAt ?_)) fun _ _ x => x)))
    fun _ _ x => x)
  refine wpAny_bind ?_
  rw [getitemInPython_of_ne h₂.1.not_modules]
  refine wpAny_bind (wpAny_specialOf h₂.1 hl ?_)
  refine wpAny_pure (wpAny_bind ?_)
  have key : ∀ vs, wpAny (model prog w) A (operate vs (getItem o i)) (fun r s₃ => wpAny (model prog w) A (letTemporaryGo value o r >>= fun _ => pure r) Q E s₃) E s₂ := fun vs =>
    wpAny_operating (wpAny_mono h₂.2 (fun r s₃ h₃ => wpAny_bind (wpAny_letTemporaryGo (wpAny_pure h₃))) fun _ _ e => e)
  obtain ⟨X, e⟩ := subsForm slice o i
  show wpAny _ _ (subscripted slice false o i) _ _ _
  rw [e]
  exact key X

section
variable {C : Cfg} {n : Nat} {sc : Scope} {Γ : Gm}

/-! items -/
theorem EV.strAt {e i : Expr} {pos : Pos} {l : List Nat} {k : Int} {c : Nat} (he : EV C n sc Γ e (.str l)) (hi : EV C n sc Γ i (.int k)) (hr : -(2 ^ 63 : Int) ≤ k ∧ k < 2 ^ 63)
    (hc : (seqIndex? k l.length).bind (l[·]?) = some c) : EV C n sc Γ (.Subscript e i pos) (.str [c]) := by
  refine ⟨fun A s r bad Q E W G K => ?_⟩
  refine subAny (T := "str") F.slot_str_getitem.lookup (he.run A s r bad _ E W G fun v₁ s₁ k₁ i₁ => hi.run A s₁ r bad _ E (W.keeps k₁.heap) (G.keeps k₁.heap) fun v₂ s₂ k₂ i₂ => ?_)
  obtain ⟨t, rfl⟩ := i₁.strInv
  obtain ⟨u, rfl⟩ := i₂.intInv
  refine ⟨typeIs_str _ _ _, P.getItem_str (c := c) ?_ ?_ ?_⟩
  · simp only [Bool.or_eq_false_iff, decide_eq_false_iff_not]; omega
  · rw [T_length]; simpa using hc
  · exact K _ _ ((k₁.trans k₂).trans (.tok _)) (.str [c] _)

theorem EV.listAt {e i : Expr} {pos : Pos} {ds : List D} {k : Int} {d : D} (he : EV C n sc Γ e (.list ds)) (hi : EV C n sc Γ i (.int k)) (h0 : 0 ≤ k) (hr : k < 2 ^ 63)
    (hd : ds[k.toNat]? = some d) : EV C n sc Γ (.Subscript e i pos) d := by
  refine ⟨fun A s r bad Q E W G K => ?_⟩
  refine subAny (T := "list") slot_list_getitem.lookup (he.run A s r bad _ E W G fun v₁ s₁ k₁ i₁ => hi.run A s₁ r bad _ E (W.keeps k₁.heap) (G.keeps k₁.heap) fun v₂ s₂ k₂ i₂ => ?_)
  have i₁ := i₁.mono fun a o _ e => k₂.heap a o e
  obtain ⟨a_i1, vs_i1, n_i1, rfl, hb, ho, ha⟩ := i₁.lstInv
  obtain ⟨u, rfl⟩ := i₂.intInv
  obtain ⟨v, hv, hdv⟩ := ha.get hd
  have hl : s₂.heap.IsList _ _ := ⟨_, ho, rfl, _, rfl⟩
  exact ⟨hl.typeIs, wpAny_getItem_list hl h0 hr (by simpa using hv) (K v s₂ (k₁.trans k₂) hdv)⟩

theorem EV.listLast {e i : Expr} {pos : Pos} {ds : List D} {d : D} (he : EV C n sc Γ e (.list ds)) (hi : EV C n sc Γ i (.int (-1)))
    (hd : ds.getLast? = some d) : EV C n sc Γ (.Subscript e i pos) d := by
  refine ⟨fun A s r bad Q E W G K => ?_⟩
  refine subAny (T := "list") slot_list_getitem.lookup (he.run A s r bad _ E W G fun v₁ s₁ k₁ i₁ => hi.run A s₁ r bad _ E (W.keeps k₁.heap) (G.keeps k₁.heap) fun v₂ s₂ k₂ i₂ => ?_)
  have i₁ := i₁.mono fun a o _ e => k₂.heap a o e
  obtain ⟨a_i1, vs_i1, n_i1, rfl, hb, ho, ha⟩ := i₁.lstInv
  obtain ⟨u, rfl⟩ := i₂.intInv
  rw [List.getLast?_eq_getElem?] at hd
  obtain ⟨v, hv, hdv⟩ := ha.get hd
  have hl : s₂.heap.IsList _ _ := ⟨_, ho, rfl, _, rfl⟩
  have hlen := ha.length
  have hpos : 0 < ds.length := by
    cases ds with
    | nil => simp at hd
    | cons _ _ => simp
  refine ⟨hl.typeIs, wpAny_getItem_list_neg hl (by omega) ?_ (by omega) (x := v) ?_ (K v s₂ (k₁.trans k₂) hdv)⟩
  · rw [List.size_toArray, hlen]; omega
  · rw [List.size_toArray, hlen]
    rw [show ((-1 : Int) + (ds.length : Int)).toNat = ds.length - 1 by omega]
    simpa using hv

theorem EV.tupAt {e i : Expr} {pos : Pos} {ds : List D} {k : Int} {d : D} (he : EV C n sc Γ e (.tuple ds)) (hi : EV C n sc Γ i (.int k)) (h0 : 0 ≤ k) (hr : k < 2 ^ 63)
    (hd : ds[k.toNat]? = some d) : EV C n sc Γ (.Subscript e i pos) d := by
  refine ⟨fun A s r bad Q E W G K => ?_⟩
  refine subAny (T := "tuple") F.slot_tuple_getitem.lookup (he.run A s r bad _ E W G fun v₁ s₁ k₁ i₁ => hi.run A s₁ r bad _ E (W.keeps k₁.heap) (G.keeps k₁.heap) fun v₂ s₂ k₂ i₂ => ?_)
  have i₁ := i₁.mono fun a o _ e => k₂.heap a o e
  obtain ⟨a_i1, vs_i1, n_i1, rfl, hb, ho, ha⟩ := i₁.tupInv
  obtain ⟨u, rfl⟩ := i₂.intInv
  obtain ⟨v, hv, hdv⟩ := ha.get hd
  have hl : IsTup s₂.heap _ _ := ⟨_, ho, rfl, _, rfl⟩
  have hlt : k.toNat < ds.length := by
    rcases Nat.lt_or_ge k.toNat ds.length with q | q
    · exact q
    · rw [List.getElem?_eq_none q] at hd; cases hd
  refine ⟨hl.typeIs, getItem_tuple hl (by omega) hr (j := k.toNat) ?_ (by simpa using hv) (K v s₂ (k₁.trans k₂) hdv)⟩
  rw [List.size_toArray, ha.length]
  unfold seqIndex?
  simp only [show ¬ k < 0 by omega, if_false]
  rw [if_pos (by simp; omega)]

/-! cuts -/
/-- a bound of a cut: absent, or an int -/
inductive EP (C : Cfg) (n : Nat) (sc : Scope) (Γ : Gm) : Option Expr → Option Int → Prop
  | none : EP C n sc Γ none none
  | some {e : Expr} {i : Int} : EV C n sc Γ e (.int i) → EP C n sc Γ (some e) (some i)

theorem EP.run {e : Option Expr} {i : Option Int} (x : EP C n sc Γ e i) (A : Around) (s : Shared) (r : Rt) (bad : List Addr) (Q E : Value → Shared → Prop)
    (W : Wd C n A bad s.heap) (G : GOk C sc r bad s.heap Γ) (K : ∀ v s', Kp s s' → IsPart v i → (∃ p : Option (Int × Tok), v = partValue p ∧ p.map (fun x => x.1) = i) → Q v s') :
    wpAny (model C.prog C.w) A (evalPart e (En sc r)) Q E s := by
  cases x with
  | none => rw [evalPart_none]; exact wpAny_pure (K _ s .rfl' .none ⟨.none, rfl, rfl⟩)
  | some h =>
    rw [evalPart_some]
    refine h.run A s r bad Q E W G fun v s' k i => ?_
    obtain ⟨t, rfl⟩ := i.intInv
    exact K _ s' k (.int _ t) ⟨Option.some (_, t), rfl, rfl⟩

theorem EV.strCut {e : Expr} {lo hi : Option Expr} {p pos : Pos} {l : List Nat} {a b : Option Int} (he : EV C n sc Γ e (.str l)) (hlo : EP C n sc Γ lo a) (hhi : EP C n sc Γ hi b) (hsz : l.length ≤ 10000000) :
    EV C n sc Γ (.Subscript e (.Slice lo hi none p) pos) (.str (sl a b l)) := by
  refine ⟨fun A s r bad Q E W G K => ?_⟩
  refine subAny (T := "str") F.slot_str_getitem.lookup (he.run A s r bad _ E W G fun v₁ s₁ k₁ i₁ => wpAny_Slice ?_)
  refine hlo.run A s₁ r bad _ E (W.keeps k₁.heap) (G.keeps k₁.heap) fun v₂ s₂ k₂ _ p₂ => ?_
  refine hhi.run A s₂ r bad _ E ((W.keeps k₁.heap).keeps k₂.heap) ((G.keeps k₁.heap).keeps k₂.heap) fun v₃ s₃ k₃ _ p₃ => ?_
  rw [evalPart_none]
  refine wpAny_pure ?_
  obtain ⟨t, rfl⟩ := i₁.strInv
  obtain ⟨pl, rfl, hl⟩ := p₂
  obtain ⟨pu, rfl, hu⟩ := p₃
  refine ⟨typeIs_str _ _ _, wpAny_getItem_str_slice (l := pl) (u := pu) (st := none) ⟨_, Heap.get?_push_size _ rfl, rfl, rfl⟩ rfl ?_⟩
  have KK := ((k₁.trans k₂).trans k₃).trans (Kp.push (s := s₃) { cls := .type "slice", data := .fields #[partValue pl, partValue pu, .none] })
  unfold sliceMade slicePicked
  simp only [Option.map_none, Option.getD_none, hl, hu]
  split
  · rename_i hh
    simp only [beq_self_eq_true, Bool.true_and, beq_iff_eq] at hh
    have e := sl_full l a b hh
    exact K _ _ KK (by rw [e]; exact .str l t)
  · rw [sl_str]
    refine ⟨?_, K _ _ (KK.trans (.tok _)) (.str _ _)⟩
    have := sl_length_le a b l
    rw [T_length, sizeLine_eq]; omega

theorem EV.listCut {e : Expr} {lo hi : Option Expr} {p pos : Pos} {ds : List D} {a b : Option Int} (he : EV C n sc Γ e (.list ds)) (hlo : EP C n sc Γ lo a) (hhi : EP C n sc Γ hi b) (hsz : ds.length ≤ 10000000) :
    EV C n sc Γ (.Subscript e (.Slice lo hi none p) pos) (.list (sl a b ds)) := by
  refine ⟨fun A s r bad Q E W G K => ?_⟩
  refine subAny (T := "list") slot_list_getitem.lookup (he.run A s r bad _ E W G fun v₁ s₁ k₁ i₁ => wpAny_Slice ?_)
  refine hlo.run A s₁ r bad _ E (W.keeps k₁.heap) (G.keeps k₁.heap) fun v₂ s₂ k₂ p₂ _ => ?_
  refine hhi.run A s₂ r bad _ E ((W.keeps k₁.heap).keeps k₂.heap) ((G.keeps k₁.heap).keeps k₂.heap) fun v₃ s₃ k₃ p₃ _ => ?_
  rw [evalPart_none]
  refine wpAny_pure ?_
  have KK := ((k₁.trans k₂).trans k₃).trans (Kp.push (s := s₃) { cls := .type "slice", data := .fields #[v₂, v₃, .none] })
  have W' := (((W.keeps k₁.heap).keeps k₂.heap).keeps k₃.heap).keeps (Kp.push (s := s₃) { cls := .type "slice", data := .fields #[v₂, v₃, .none] }).heap
  have i₁ := i₁.mono fun a o _ e => ((k₂.trans k₃).trans (Kp.push (s := s₃) { cls := .type "slice", data := .fields #[v₂, v₃, .none] })).heap a o e
  obtain ⟨a_i1, vs_i1, n_i1, rfl, hb, ho, ha⟩ := i₁.lstInv
  rename_i vs nn
  have hl : (s₃.heap.push { cls := .type "slice", data := .fields #[v₂, v₃, .none] }).IsList _ _ := ⟨_, ho, rfl, _, rfl⟩
  have hlen := ha.length
  refine ⟨hl.typeIs, wpAny_getItem_list_slice hl (Heap.IsSliceOf.new _ _ _ _) p₂ p₃ .none (by simp) ?_ (by rw [List.size_toArray, hlen, sizeLine_eq]; omega)⟩
  rw [slicePick_plain]
  refine K _ _ (KK.trans (.push _)) (.list (n := 0) ?_ (Heap.get?_push_size _ rfl) ?_)
  · exact W'.fresh
  · simp only [List.size_toArray, hlen]
    unfold sl
    exact ((ha.drop _).take _).mono fun a o _ e => Heap.get?_push_of_some _ e

/-! displays -/
inductive EVs (C : Cfg) (n : Nat) (sc : Scope) (Γ : Gm) : List Expr → List D → Prop
  | nil : EVs C n sc Γ [] []
  | cons {e : Expr} {es : List Expr} {d : D} {ds : List D} : EV C n sc Γ e d → EVs C n sc Γ es ds → (∀ env, starEach (e :: es) env = (false, eval e env) :: starEach es env) → EVs C n sc Γ (e :: es) (d :: ds)

theorem EVs.run {es : List Expr} {ds : List D} (x : EVs C n sc Γ es ds) : ∀ (A : Around) (s : Shared) (r : Rt) (bad : List Addr) (pos : Pos) (Q : List Value → Shared → Prop) (E : Value → Shared → Prop),
    Wd C n A bad s.heap → GOk C sc r bad s.heap Γ → (∀ vs s', Kp s s' → DAll C bad s'.heap vs ds → Q vs s') →
    wpAny (model C.prog C.w) A (spliced (backTo pos (starEach es (En sc r)))) Q E s := by
  induction x with
  | nil => intro A s r bad pos Q E W G K; exact wpAny_items_nil (K [] s .rfl' .nil)
  | cons h _ hs ih =>
    intro A s r bad pos Q E W G K
    refine wpAny_items_cons (h.run A s r bad _ E W G fun v s₁ k₁ i₁ => ?_) (hs _)
    refine ih A s₁ r bad pos _ E (W.keeps k₁.heap) (G.keeps k₁.heap) fun vs s₂ k₂ i₂ => ?_
    exact K (v :: vs) s₂ (k₁.trans k₂) (.cons (i₁.mono fun a o _ e => k₂.heap a o e) i₂)

theorem EV.tuple {es : List Expr} {k : Nat} {pos : Pos} {ds : List D} (x : EVs C n sc Γ es ds) (hl : ds.length ≤ 10000000) : EV C n sc Γ (.Tuple es k pos) (.tuple ds) := by
  refine ⟨fun A s r bad Q E W G K => ?_⟩
  refine wpAny_Tuple (x.run A s r bad pos _ E W G fun vs s₁ k₁ i₁ => ⟨by rw [i₁.length, sizeLine_eq]; omega, ?_⟩)
  exact K _ _ (k₁.trans (.push _)) (.tuple (n := 0) (W.keeps k₁.heap).fresh (Heap.get?_push_size _ rfl) (i₁.mono fun a o _ e => Heap.get?_push_of_some _ e))
theorem EV.list {es : List Expr} {pos : Pos} {ds : List D} (x : EVs C n sc Γ es ds) (hl : ds.length ≤ 10000000) : EV C n sc Γ (.List es pos) (.list ds) := by
  refine ⟨fun A s r bad Q E W G K => ?_⟩
  refine wpAny_List (x.run A s r bad pos _ E W G fun vs s₁ k₁ i₁ => ⟨by rw [i₁.length, sizeLine_eq]; omega, ?_⟩)
  exact K _ _ (k₁.trans (.push _)) (.list (n := 0) (W.keeps k₁.heap).fresh (Heap.get?_push_size _ rfl) (i₁.mono fun a o _ e => Heap.get?_push_of_some _ e))
end
end Mine

-- Kit4
namespace Mine

section
variable {C : Cfg} {n : Nat} {sc : Scope} {Γ : Gm}

/-- a built-in called with a first value and others -/
noncomputable def BI (C : Cfg) (n : Nat) (id : String) (ds : List D) (d : D) : Prop :=
  ∀ (A : Around) (s : Shared) (bad : List Addr) (vs : List Value) (Q : Value → Shared → Prop) (E : Value → Shared → Prop),
    Wd C n A bad s.heap → DAll C bad s.heap vs ds →
    (∀ v s', Kp s s' → DIn C bad s'.heap v d → Q v s') → wpAny (model C.prog C.w) A (call (.builtin id) vs) Q E s

noncomputable def HasT (C : Cfg) (d : D) (T : String) : Prop := ∀ (s : Shared) (bad : List Addr) (v : Value), DIn C bad s.heap v d → s.TypeIs v T ∧ ∀ a, v = .ref a → ∃ ob, s.heap.get? a = some ob ∧ ob.dict = none

theorem HasT.str {l : List Nat} : HasT C (.str l) "str" := by
  intro s bad v i
  obtain ⟨_, rfl⟩ := i.strInv
  exact ⟨typeIs_str _ _ _, fun _ e => nomatch e⟩
theorem HasT.list {l : List D} : HasT C (.list l) "list" := by
  intro s bad v i
  obtain ⟨_, _, _, rfl, hb, ho, r⟩ := i.lstInv; exact ⟨⟨_, ho, rfl⟩, fun a e => by cases e; exact ⟨_, ho, rfl⟩⟩
theorem HasT.dict {l} : HasT C (.dict l) "dict" := by
  intro s bad v i
  obtain ⟨_, _, rfl, hb, ho, hd, r⟩ := i.dctInv; obtain ⟨_, es, nn, ho⟩ := ho; exact ⟨⟨_, ho, rfl⟩, fun a e => by cases e; exact ⟨_, ho, rfl⟩⟩

theorem evalArgs_nil' {M : Model} {A : Around} {E : Value → Shared → Prop} {s : Shared} {f : Value} {Q : Args → Shared → Prop}
    (h : wpAny M A (spliced []) (fun vs s' => Q ⟨vs, []⟩ s') E s) : wpAny M A (evalArgs f true [] []) Q E s := by
  unfold evalArgs
  show wpAny M A (spliced [] >>= _) Q E s
  refine wpAny_bind (wpAny_mono h (fun vs s' h' => ?_) fun _ _ x => x)
  refine wpAny_bind (wpAny_pure ?_)
  refine wpAny_holding ?_
  exact wpAny_bind (wpAny_pure (wpAny_bind (wpAny_pure (wpAny_pure h'))))

theorem spliceArgs {M : Model} {A : Around} {E : Value → Shared → Prop} {s : Shared} {env : Env} {f : Value} {es : List Expr} {pos : Pos} {Q : Args → Shared → Prop}
    (hs : ∀ e ∈ starEach es env, e.1 = false)
    (h : wpAny M A (spliced (backTo pos (starEach es env))) (fun vs s' => Q ⟨vs, []⟩ s') E s) : wpAny M A (evalArgs f true (backTo pos (starEach es env)) []) Q E s := by
  cases hl : backTo pos (starEach es env) with
  | nil => rw [hl] at h; exact evalArgs_nil' h
  | cons a rest =>
    obtain ⟨st, x⟩ := a
    have : st = false := by
      unfold backTo at hl
      cases hq : starEach es env with
      | nil => rw [hq] at hl; cases hl
      | cons p q =>
        rw [hq] at hl
        obtain ⟨p1, p2⟩ := p
        simp only [List.map_cons, List.cons.injEq, Prod.mk.injEq] at hl
        rw [← hl.1.1]
        exact hs (p1, p2) (by rw [hq]; exact List.mem_cons_self)
    subst this
    rw [hl] at h
    exact Calls.evalArgs_plain h

theorem EVs.plain {es : List Expr} {ds : List D} (x : EVs C n sc Γ es ds) : ∀ env, ∀ e ∈ starEach es env, e.1 = false := by
  induction x with
  | nil => intro env e he; cases he
  | cons _ _ hs ih =>
    intro env e he
    rw [hs env] at he
    rcases List.mem_cons.mp he with q | q
    · rw [q]
    · exact ih env e q
theorem EVs.length {es : List Expr} {ds : List D} (x : EVs C n sc Γ es ds) : es.length = ds.length := by
  induction x with
  | nil => rfl
  | cons _ _ _ ih => simp [ih]

theorem anyStar {pos : Pos} {l : List (Bool × Sem Value)} (h : ∀ e ∈ l, e.1 = false) : (backTo pos l).any (fun x => x.1) = false := by
  rw [List.any_eq_false]
  intro x hx
  unfold backTo at hx
  obtain ⟨y, hy, rfl⟩ := List.mem_map.mp hx
  simp [h y hy]

/-- a built-in called by its name -/
theorem EV.callB {x : Str} {p pos : Pos} {es : List Expr} {id : String} {ds : List D} {d : D} (hf : EV C n sc Γ (.Name x p) (.val (.builtin id))) (ha : EVs C n sc Γ es ds) (hb : BI C n id ds d) :
    EV C n sc Γ (.Call (.Name x p) es [] pos) d := by
  refine ⟨fun A s r bad Q E W G K => ?_⟩
  refine wpAny_Call_Name_kw (hf.run A s r bad _ E W G fun f s₁ k₁ i₁ => ?_)
  obtain rfl := i₁.valInv
  refine Calls.callWith_builtin (anyStar (ha.plain _)) (spliceArgs (ha.plain _) ?_)
  refine ha.run A s₁ r bad pos _ E (W.keeps k₁.heap) (G.keeps k₁.heap) fun vs s₂ k₂ i₂ => ?_
  exact hb A s₂ bad vs Q E ((W.keeps k₁.heap).keeps k₂.heap) i₂ fun v s' k i => K v s' ((k₁.trans k₂).trans k) i

/-- a def called by a name that holds it -/
theorem EV.callF {x : Str} {p pos : Pos} {es : List Expr} {a : Addr} {ds : List D} {d : D} (hf : EV C n sc Γ (.Name x p) (.val (.ref a))) (ha : EVs C n sc Γ es ds) (hb : FN C n a ds d)
    (ho : ∃ o fd, C.b0.get? a = some o ∧ o.data = .func fd) :
    EV C n sc Γ (.Call (.Name x p) es [] pos) d := by
  refine ⟨fun A s r bad Q E W G K => ?_⟩
  obtain ⟨o, fd, ho, hfd⟩ := ho
  refine wpAny_Call_Name_kw (hf.run A s r bad _ E W G fun f s₁ k₁ i₁ => ?_)
  obtain rfl := i₁.valInv
  refine callWith_function_kw (o := o) (fd := fd) (spliceArgs (ha.plain _) ?_)
  refine ha.run A s₁ r bad pos _ E (W.keeps k₁.heap) (G.keeps k₁.heap) fun vs s₂ k₂ i₂ => ?_
  have W₂ := (W.keeps k₁.heap).keeps k₂.heap
  exact ⟨⟨W₂.base _ _ ho, hfd⟩, hb A s₂ bad vs Q E W₂ i₂ fun v s' k i => K v s' ((k₁.trans k₂).trans k) i⟩

/-- a method of a built-in type -/
theorem EV.meth {o : Expr} {name : Str} {apos pos : Pos} {es : List Expr} {ty id : String} {d₀ : D} {ds : List D} {d : D} (ho : EV C n sc Γ o d₀) (ha : EVs C n sc Γ es ds)
    (hT : HasT C d₀ ty) (pa : PlainAttrs ty) (slot : Slot ty name id) (hty : typeOf (.builtin id) = pure (.type "method_descriptor")) (hb : BI C n id (d₀ :: ds) d) (hfew : es.length < 29)
    (hbase : ∀ env, attributeBase o name env (eval o env) = eval o env := by intro _; rfl) (hline : (apos.endLine == pos.line) = true := by rfl) :
    EV C n sc Γ (.Call (.Attribute o name apos) es [] pos) d := by
  refine ⟨fun A s r bad Q E W G K => ?_⟩
  refine wpAny_Call_method_lateS (hbase _) ?_ hline ?_
  · simp only [Bool.and_eq_true, List.all_eq_true]
    refine ⟨⟨fun x hx => ?_, by intro x hx; cases hx⟩, ?_⟩
    · have := List.any_eq_false.mp (anyStar (pos := pos) (ha.plain (En sc r))) x hx
      simpa using this
    · simp; omega
  · refine ho.run A s r bad _ E W G fun v₀ s₁ k₁ i₁ => ?_
    obtain ⟨t1, t2⟩ := hT s₁ bad v₀ i₁
    refine ⟨ty, id, pa, slot, hty, t1, t2, ?_⟩
    refine Calls.callWith_builtin (anyStar (ha.plain _)) (spliceArgs (ha.plain _) ?_)
    refine ha.run A s₁ r bad pos _ E (W.keeps k₁.heap) (G.keeps k₁.heap) fun vs s₂ k₂ i₂ => ?_
    exact hb A s₂ bad (v₀ :: vs) Q E ((W.keeps k₁.heap).keeps k₂.heap) (.cons (i₁.mono fun a o _ e => k₂.heap a o e) i₂) fun v s' k i => K v s' ((k₁.trans k₂).trans k) i

/-! built-ins -/
theorem BI.lenStr {l : List Nat} (hl : l.length ≤ 10000000) : BI C n "len" [.str l] (.int l.length) := by
  intro A s bad vs Q E W i K
  obtain ⟨_, rfl, i0⟩ := i.one
  obtain ⟨t, rfl⟩ := i0.strInv
  refine P.len_str ?_ ?_
  · rw [T_length]; omega
  · rw [T_length]; exact K _ _ ((Kp.tok _)) (.int _ _)
theorem BI.lenList {l : List D} (hl : l.length ≤ 10000000) : BI C n "len" [.list l] (.int l.length) := by
  intro A s bad vs Q E W i K
  obtain ⟨_, rfl, i0⟩ := i.one
  obtain ⟨a_i, vs_i, n_i, rfl, hb, ho, ha⟩ := i0.lstInv
  have hlist : s.heap.IsList _ _ := ⟨_, ho, rfl, _, rfl⟩
  have hlen := ha.length
  refine len_list hlist ?_ ?_
  · rw [List.size_toArray, hlen]; omega
  · rw [List.size_toArray, hlen]; exact K _ _ (Kp.tok _) (.int _ _)

theorem BI.strip {l m : List Nat} (hl : l.length ≤ 10000000) (hm : Txt.strip (T l) = T m) : BI C n "str.strip" [.str l] (.str m) := by
  intro A s bad vs Q E W i K
  obtain ⟨_, rfl, i0⟩ := i.one
  obtain ⟨t, rfl⟩ := i0.strInv
  refine call_gives F.slot_str_strip (typeIs_str _ _ _) F.entry_str_strip (F.args_str_strip_1 _) (gives_str_strip _ _) ?_
  unfold Txt.strip Txt.stripBy at hm
  split
  · rename_i hs
    rw [if_pos hs] at hm
    have := T_inj hm
    subst this
    exact K _ _ .rfl' (.str _ _)
  · rename_i hs
    rw [if_neg hs] at hm
    refine ⟨?_, ?_⟩
    · exact fits_stripped _ _ _ (by rw [T_length, sizeLine_eq]; omega)
    · rw [hm]; exact K _ _ (.tok _) (.str _ _)
end
end Mine

-- Kit5
namespace Mine

mutual
noncomputable def depth : D → Nat
  | .tuple ds => depths ds + 1
  | .list ds => depths ds + 1
  | _ => 0
noncomputable def depths : List D → Nat
  | [] => 0
  | d :: r => max (depth d) (depths r)
end
mutual
/-- data that == compares by what they hold -/
noncomputable def plain : D → Bool
  | .tuple ds => plains ds
  | .list ds => plains ds
  | .dict _ => false
  | .val _ => false
  | _ => true
noncomputable def plains : List D → Bool
  | [] => true
  | d :: r => plain d && plains r
end

section
variable {C : Cfg} {n : Nat} {sc : Scope} {Γ : Gm} {bad : List Addr}

theorem all_true (k : Nat) : ((List.range k).all fun _ => true) = true := by simp

theorem depth_mem {ds : List D} {d : D} (h : d ∈ ds) : depth d ≤ depths ds := by
  induction ds with
  | nil => cases h
  | cons e r ih =>
    rw [depths]
    rcases List.mem_cons.mp h with q | q
    · subst q; omega
    · have := ih q; omega
theorem plain_mem {ds : List D} {d : D} (h : d ∈ ds) (hp : plains ds = true) : plain d = true := by
  induction ds with
  | nil => cases h
  | cons e r ih =>
    rw [plains, Bool.and_eq_true] at hp
    rcases List.mem_cons.mp h with q | q
    · subst q; exact hp.1
    · exact ih q hp.2

theorem items_same {s : Shared} {k : Nat} (ih : ∀ (d : D) (v u : Value) (A : Around), depth d ≤ k → plain d = true → A.units + k < cLine → DIn C bad s.heap v d → DIn C bad s.heap u d → SeqAt.EqAt A s v u true)
    {vs us : List Value} {ds : List D} (r : DAll C bad s.heap vs ds) (r' : DAll C bad s.heap us ds) (hd : depths ds ≤ k) (hp : plains ds = true) (A : Around) (hu : A.units + k < cLine) :
    ∀ j (h1 : j < vs.toArray.size) (h2 : j < us.toArray.size), SeqAt.EqAt A s vs.toArray[j] us.toArray[j] true := by
  intro j h1 h2
  have h1' : j < vs.length := by simpa using h1
  have h2' : j < us.length := by simpa using h2
  obtain ⟨d, hd1, i1⟩ := r.get' (List.getElem?_eq_getElem h1')
  obtain ⟨d', hd2, i2⟩ := r'.get' (List.getElem?_eq_getElem h2')
  rw [hd1] at hd2
  cases hd2
  have hm : d ∈ ds := List.mem_of_getElem? hd1
  have := ih d _ _ A (Nat.le_trans (depth_mem hm) hd) (plain_mem hm hp) hu i1 i2
  simpa using this

open SeqAt in
theorem same_seq {s : Shared} {k : Nat} (ih : ∀ (d : D) (v u : Value) (A : Around), depth d ≤ k → plain d = true → A.units + k < cLine → DIn C bad s.heap v d → DIn C bad s.heap u d → SeqAt.EqAt A s v u true)
    {ds : List D} {v u : Value} {A : Around} (hk : depths ds + 1 ≤ k + 1) (hp : plains ds = true) (hu : A.units + (k + 1) < cLine) : (DIn C bad s.heap v (.tuple ds) → DIn C bad s.heap u (.tuple ds) → EqAt A s v u true) ∧ (DIn C bad s.heap v (.list ds) → DIn C bad s.heap u (.list ds) → EqAt A s v u true) := by
  have hu' : A.in1.units + k < cLine := by rw [show A.in1.units = A.units + 1 from rfl, Nat.add_right_comm]; exact hu
  have hu1 : A.units < cLine := Nat.lt_of_le_of_lt (Nat.le_add_right _ _) hu
  refine ⟨fun i i' => ?_, fun i i' => ?_⟩
  · obtain ⟨a, vs, n, rfl, hb, ho, r⟩ := i.tupInv
    obtain ⟨b', vs', n', rfl, hb', ho', r'⟩ := i'.tupInv
    by_cases hab : a = b'
    · subst hab; exact EqAt.same _
    · refine EqAt.of_refs hab ?_
      have := RcAt.tuples (A := A) (e := fun _ => true) (items := vs.toArray) (items2 := vs'.toArray) ⟨_, ho, rfl, _, rfl⟩ ⟨_, ho', rfl, _, rfl⟩ hu1 (items_same ih r r' (Nat.le_of_succ_le_succ hk) hp A.in1 hu')
      rw [all_true, List.size_toArray, List.size_toArray, r.length, r'.length, beq_self_eq_true] at this
      exact this
  · obtain ⟨a, vs, n, rfl, hb, ho, r⟩ := i.lstInv
    obtain ⟨b', vs', n', rfl, hb', ho', r'⟩ := i'.lstInv
    by_cases hab : a = b'
    · subst hab; exact EqAt.same _
    · refine EqAt.of_refs hab ?_
      have := RcAt.lists (A := A) (e := fun _ => true) (items := vs.toArray) (items2 := vs'.toArray) ⟨_, ho, rfl, _, rfl⟩ ⟨_, ho', rfl, _, rfl⟩ (by rw [List.size_toArray, List.size_toArray, r.length, r'.length]) hu1 (items_same ih r r' (Nat.le_of_succ_le_succ hk) hp A.in1 hu')
      rw [all_true] at this
      exact this
open SeqAt in
theorem same_any {s : Shared} {k : Nat} (ih : ∀ j, k = j + 1 → ∀ (d : D) (v u : Value) (A : Around), depth d ≤ j → plain d = true → A.units + j < cLine → DIn C bad s.heap v d → DIn C bad s.heap u d → EqAt A s v u true) (d : D) (v u : Value) (A : Around) (hk : depth d ≤ k) (hp : plain d = true) (hu : A.units + k < cLine) (i : DIn C bad s.heap v d) (i' : DIn C bad s.heap u d) : EqAt A s v u true := by
  cases d with
  | none => rw [show v = .none from i.inv, show u = .none from i'.inv]; exact EqAt.same _
  | bool b => rw [i.boolInv, i'.boolInv]; exact EqAt.same _
  | int j =>
    obtain ⟨t, rfl⟩ := i.intInv
    obtain ⟨t', rfl⟩ := i'.intInv
    exact fun prog w E Q h => wpAny_eqBool_int (by rw [beq_self_eq_true]; exact h)
  | str l =>
    obtain ⟨t, rfl⟩ := i.strInv
    obtain ⟨t', rfl⟩ := i'.strInv
    exact fun prog w E Q h => eqBool_str (by rw [beq_self_eq_true]; exact h)
  | dict kvs => cases hp
  | val v => cases hp
  | tuple ds =>
    cases k with
    | zero => exact absurd hk (Nat.not_succ_le_zero _)
    | succ k => exact (same_seq (ih k rfl) hk hp hu).1 i i'
  | list ds =>
    cases k with
    | zero => exact absurd hk (Nat.not_succ_le_zero _)
    | succ k => exact (same_seq (ih k rfl) hk hp hu).2 i i'
theorem same_aux {s : Shared} (k : Nat) : ∀ (d : D) (v u : Value) (A : Around), depth d ≤ k → plain d = true → A.units + k < cLine → DIn C bad s.heap v d → DIn C bad s.heap u d → SeqAt.EqAt A s v u true := by
  induction k with
  | zero => exact same_any fun j e => nomatch e
  | succ k ih => exact same_any fun j e => Nat.succ.inj e ▸ ih

theorem OP2.eqList {ds : List D} (hp : plains ds = true) (hd : depths ds ≤ 800) : OP2 C n (compareOp .Eq) (.list ds) (.list ds) (.bool true) := by
  intro A s bad v₁ v₂ Q E W i₁ i₂ K
  have hu := W.units
  obtain ⟨a_i1, vs_i1, n_i1, rfl, hb, ho, r⟩ := i₁.lstInv
  obtain ⟨a_i2, vs_i2, n_i2, rfl, hb', ho', r'⟩ := i₂.lstInv
  have hc : cLine = 9900 := rfl
  refine SeqAt.eq_listAt (e := fun _ => true) ⟨_, ho, rfl, _, rfl⟩ ⟨_, ho', rfl, _, rfl⟩ (by rw [List.size_toArray, List.size_toArray, r.length, r'.length]) (by omega) (items_same (k := 800) (same_aux 800) r r' hd hp A.in1 (by show A.units + 1 + 800 < _; omega)) ?_
  · rw [all_true]; exact K _ _ .rfl' (.bool _)
theorem OP2.eqListNo {ds es : List D} (hl : ds.length ≠ es.length) : OP2 C n (compareOp .Eq) (.list ds) (.list es) (.bool false) := by
  intro A s bad v₁ v₂ Q E W i₁ i₂ K
  have hu := W.units
  obtain ⟨a_i1, vs_i1, n_i1, rfl, hb, ho, r⟩ := i₁.lstInv
  obtain ⟨a_i2, vs_i2, n_i2, rfl, hb', ho', r'⟩ := i₂.lstInv
  have hc : cLine = 9900 := rfl
  refine SeqAt.eq_list_lengthsAt ⟨_, ho, rfl, _, rfl⟩ ⟨_, ho', rfl, _, rfl⟩ (by simp [r.length, r'.length, hl]) (by omega) (K _ _ .rfl' (.bool _))

/-- a list of texts -/
theorem DAll.strs {h : Heap} : ∀ {ls : List (List Nat)} {vs : List Value}, DAll C bad h vs (ls.map D.str) → StrsAre vs (ls.map T)
  | [], _, x => by rw [x.nilInv]; exact .nil
  | l :: r, _, x => by
    obtain ⟨v, us, rfl, i, y⟩ := x.consInv
    obtain ⟨t, rfl⟩ := i.strInv
    exact .cons _ _ (DAll.strs y)
theorem anyT (ls : List (List Nat)) (l : List Nat) : (ls.map T).any (· == T l) = ls.contains l := by
  induction ls with
  | nil => rfl
  | cons a r ih =>
    rw [List.map_cons, List.any_cons, ih, List.contains_cons]
    congr 1
    by_cases h : l = a
    · subst h; simp
    · have h1 : ¬ T a = T l := fun e => h (T_inj e).symm
      have e1 : (T a == T l) = false := beq_eq_false_iff_ne.mpr h1
      have e2 : (l == a) = false := beq_eq_false_iff_ne.mpr h
      rw [e1, e2]
theorem OP2.inStrs {ls : List (List Nat)} {l : List Nat} : OP2 C n (compareOp .In) (.str l) (.list (ls.map D.str)) (.bool (ls.contains l)) := by
  intro A s bad v₁ v₂ Q E W i₁ i₂ K
  obtain ⟨t, rfl⟩ := i₁.strInv
  obtain ⟨a_i2, vs_i2, n_i2, rfl, hb, ho, r⟩ := i₂.lstInv
  refine in_list_strs ⟨_, ho, rfl, _, rfl⟩ r.strs ?_
  rw [anyT]; exact K _ _ .rfl' (.bool _)
theorem OP2.notInStrs {ls : List (List Nat)} {l : List Nat} : OP2 C n (compareOp .NotIn) (.str l) (.list (ls.map D.str)) (.bool (!ls.contains l)) := by
  intro A s bad v₁ v₂ Q E W i₁ i₂ K
  obtain ⟨t, rfl⟩ := i₁.strInv
  obtain ⟨a_i2, vs_i2, n_i2, rfl, hb, ho, r⟩ := i₂.lstInv
  refine notin_list_strs ⟨_, ho, rfl, _, rfl⟩ r.strs ?_
  rw [anyT]; exact K _ _ .rfl' (.bool _)
/-- a sign in a text -/
theorem OP2.inStr1 {l : List Nat} {c : Nat} : OP2 C n (compareOp .In) (.str [c]) (.str l) (.bool (l.contains c)) := by
  intro A s bad v₁ v₂ Q E W i₁ i₂ K
  obtain ⟨t, rfl⟩ := i₁.strInv
  obtain ⟨u, rfl⟩ := i₂.strInv
  refine P.in_str ?_
  rw [show T [c] = ⟨#[c]⟩ from rfl, StrLaws.found_one]
  have e : decide (c ∈ (T l).cps.toList) = l.contains c := by
    rw [Bool.eq_iff_iff]; simp
  rw [e]; exact K _ _ .rfl' (.bool _)

/-! truth -/
theorem TR.bool {b : Bool} : TR C n (.bool b) b := by
  intro A s bad v Q E W i K
  obtain rfl := i.boolInv; exact wpAny_truthy_bool (K _ .rfl')
theorem TR.str {l : List Nat} (hl : l.length ≤ 10000000) : TR C n (.str l) (!l.isEmpty) := by
  intro A s bad v Q E W i K
  obtain ⟨t, rfl⟩ := i.strInv
  refine P.truthy_str (by rw [T_length]; omega) ?_
  have e : (((T l).length : Int) != 0) = !l.isEmpty := by
    rw [T_length]; cases l <;> simp
    omega
  rw [e]; exact K _ (.tok _)
theorem TR.list {l : List D} (hl : l.length ≤ 10000000) : TR C n (.list l) (!l.isEmpty) := by
  intro A s bad v Q E W i K
  obtain ⟨a_i, vs, nn, rfl, hb, ho, r⟩ := i.lstInv
  have hlen := r.length
  refine wpAny_truthy_list ⟨_, ho, rfl, _, rfl⟩ (by rw [List.size_toArray, hlen]; omega) ?_
  have e : (!vs.toArray.isEmpty) = !l.isEmpty := by
    cases vs <;> cases l <;> simp_all
  rw [e]; exact K _ (.tok _)
end
end Mine

-- Kit6
namespace Mine

/-- the one object that a frame is changing, held by a name -/
inductive Own where
  | none
  | lst (x : Str) (ds : List D)
  | rows (x : Str) (dss : List (List D)) (last : List D)
  | dct (x : Str) (kvs : List (List Nat × List Nat))

noncomputable def Own.name? : Own → Option Str
  | .none => Option.none
  | .lst x _ => some x
  | .rows x _ _ => some x
  | .dct x _ => some x

noncomputable abbrev lobj (vs : List Value) (k : Nat) : Obj := { cls := .type "list", data := .seq vs.toArray k }

structure LstAt (C : Cfg) (sc : Scope) (r : Rt) (bc mu : List Addr) (h : Heap) (x : Str) (ds : List D) (a : Addr) (vs : List Value) (k : Nat) : Prop where
  v : VarAt sc r h x (.ref a)
  o : h.get? a = some (lobj vs k)
  all : DAll C (mu ++ bc) h vs ds
  mem : a ∈ mu
  nl : a ≠ r.L
  nc : ∀ y c, r.cs.lookup y = some c → c ≠ a
structure RowsAt (C : Cfg) (sc : Scope) (r : Rt) (bc mu : List Addr) (h : Heap) (x : Str) (dss : List (List D)) (last : List D) (a : Addr) (vs : List Value) (k : Nat) (a₂ : Addr) (vs₂ : List Value) (k₂ : Nat) : Prop where
  v : VarAt sc r h x (.ref a)
  o : h.get? a = some (lobj (vs ++ [.ref a₂]) k)
  o₂ : h.get? a₂ = some (lobj vs₂ k₂)
  all : DAll C (mu ++ bc) h vs (dss.map D.list)
  all₂ : DAll C (mu ++ bc) h vs₂ last
  mem : a ∈ mu
  mem₂ : a₂ ∈ mu
  ne : a ≠ a₂
  nl : a ≠ r.L
  nl₂ : a₂ ≠ r.L
  nc : ∀ y c, r.cs.lookup y = some c → c ≠ a ∧ c ≠ a₂
structure DctAt (C : Cfg) (sc : Scope) (r : Rt) (bc mu : List Addr) (h : Heap) (x : Str) (ds : List (List Nat × List Nat)) (a : Addr) (kvs : List (Str × Value)) : Prop where
  v : VarAt sc r h x (.ref a)
  lies : (a == sysModules) = false ∧ ∃ es k, h.get? a = some { cls := .type "dict", data := .dict es k }
  is : Heap.DictOf (strKind C.prog C.w) h a kvs
  kv : KV kvs ds
  mem : a ∈ mu
  nl : a ≠ r.L
  nc : ∀ y c, r.cs.lookup y = some c → c ≠ a

section
variable (C : Cfg)

noncomputable def OwnOk (sc : Scope) (r : Rt) (bc mu : List Addr) (h : Heap) : Own → Prop
  | .none => True
  | .lst x ds => ∃ a vs k, LstAt C sc r bc mu h x ds a vs k
  | .rows x dss last => ∃ a vs k a₂ vs₂ k₂, RowsAt C sc r bc mu h x dss last a vs k a₂ vs₂ k₂
  | .dct x ds => ∃ a kvs, DctAt C sc r bc mu h x ds a kvs

structure FOk (sc : Scope) (r : Rt) (bc mu : List Addr) (h : Heap) (Γ : Gm) (O : Own) : Prop where
  ns : ∃ m, h.Ns r.L m
  lmut : r.L ∈ mu
  cell : ∀ x c, r.cs.lookup x = some c → sc.names.lookup x = some .cell → c ∈ mu ∧ c ≠ r.L ∧ ∃ v, h.IsCell c v
  has : ∀ x, sc.names.lookup x = some .cell → (r.cs.lookup x).isSome = true
  apart : r.cs.Pairwise (fun x y => x.2 ≠ y.2)
  nol : ∀ y c, r.cs.lookup y = some c → c ≠ r.L
  cliv : ∀ y c, r.cs.lookup y = some c → (h.get? c).isSome = true
  live : ∀ a ∈ mu, (h.get? a).isSome = true
  disj : ∀ a ∈ mu, a ∉ bc
  go : GOk C sc r (mu ++ bc) h Γ
  own : OwnOk C sc r bc mu h O

structure StepIs (mu : List Addr) (s s' : Shared) (h' : Heap) (tk : Nat) : Prop where
  eq : s' = { s with heap := h', toks := tk }
  keep : ∀ a o, a ∉ mu → s.heap.get? a = some o → h'.get? a = some o
  liv : ∀ a, (s.heap.get? a).isSome = true → (h'.get? a).isSome = true
/-- what a statement may change -/
noncomputable def Step (mu : List Addr) (s s' : Shared) : Prop := ∃ h' tk, StepIs mu s s' h' tk

inductive Out where
  | next (Γ : Gm) (O : Own)
  | cont (Γ : Gm) (O : Own)
  | ret (d : D)

noncomputable def Post (sc : Scope) (r : Rt) (bc mu : List Addr) (s : Shared) (Q : Flow → Shared → Prop) : Out → Prop
  | .next Γ O => ∀ s' mu', Step mu s s' → (∀ a ∈ mu', a ∈ mu ∨ s.heap.get? a = none) → FOk C sc r bc mu' s'.heap Γ O → Q .next s'
  | .cont Γ O => ∀ s' mu', Step mu s s' → (∀ a ∈ mu', a ∈ mu ∨ s.heap.get? a = none) → FOk C sc r bc mu' s'.heap Γ O → Q .cont s'
  | .ret d => ∀ v s', Step mu s s' → DIn C bc s'.heap v d → Q (.ret v) s'

structure EX (n : Nat) (sc : Scope) (Γ : Gm) (O : Own) (ss : List Stmt) (out : Out) : Prop where
  run : ∀ (A : Around) (s : Shared) (r : Rt) (bc mu : List Addr) (Q : Flow → Shared → Prop) (E : Value → Shared → Prop),
    Wd C n A (mu ++ bc) s.heap → FOk C sc r bc mu s.heap Γ O → Post C sc r bc mu s Q out → wpAny (model C.prog C.w) A (execs ss (En sc r)) Q E s
structure ES (n : Nat) (sc : Scope) (Γ : Gm) (O : Own) (st : Stmt) (out : Out) : Prop where
  run : ∀ (A : Around) (s : Shared) (r : Rt) (bc mu : List Addr) (Q : Flow → Shared → Prop) (E : Value → Shared → Prop),
    Wd C n A (mu ++ bc) s.heap → FOk C sc r bc mu s.heap Γ O → Post C sc r bc mu s Q out → wpAny (model C.prog C.w) A (exec st (En sc r)) Q E s
structure EVO (n : Nat) (sc : Scope) (Γ : Gm) (O : Own) (e : Expr) (d : D) : Prop where
  run : ∀ (A : Around) (s : Shared) (r : Rt) (bc mu : List Addr) (Q : Value → Shared → Prop) (E : Value → Shared → Prop),
    Wd C n A (mu ++ bc) s.heap → FOk C sc r bc mu s.heap Γ O → (∀ v s', Kp s s' → DIn C (mu ++ bc) s'.heap v d → Q v s') → wpAny (model C.prog C.w) A (eval e (En sc r)) Q E s
structure EBO (n : Nat) (sc : Scope) (Γ : Gm) (O : Own) (e : Expr) (b : Bool) : Prop where
  run : ∀ (A : Around) (s : Shared) (r : Rt) (bc mu : List Addr) (Q : Bool → Shared → Prop) (E : Value → Shared → Prop),
    Wd C n A (mu ++ bc) s.heap → FOk C sc r bc mu s.heap Γ O → (∀ s', Kp s s' → Q b s') → wpAny (model C.prog C.w) A (isTrue e (En sc r) (eval e (En sc r))) Q E s
end

section
variable {C : Cfg} {n : Nat} {sc : Scope} {Γ Γ' : Gm} {O O' : Own} {r : Rt} {bc mu mu' : List Addr} {h h' : Heap} {s s' s'' : Shared}

theorem VarAt.unique_ns {a : Addr} {m m' : Str → Option Value} (x : h.Ns a m) (y : h.Ns a m') : m = m' := by
  obtain ⟨o, es, ep, ho, hd, _, hm⟩ := x
  obtain ⟨o', es', ep', ho', hd', _, hm'⟩ := y
  rw [ho] at ho'; cases ho'
  rw [hd] at hd'; cases hd'
  funext z
  rw [← hm z, ← hm' z]

theorem Step.refl : Step mu s s := ⟨s.heap, s.toks, rfl, fun _ _ _ e => e, fun _ e => e⟩
theorem Step.of_kp (k : Kp s s') : Step mu s s' := by
  obtain ⟨h', tk, rfl, hk⟩ := k
  exact ⟨h', tk, rfl, fun a o _ e => hk a o e, fun a e => liveUp (fun o => hk a o) e⟩
theorem Step.trans (x : Step mu s s') (y : Step mu' s' s'') (hm : ∀ a ∈ mu', a ∈ mu ∨ s.heap.get? a = none) : Step mu s s'' := by
  obtain ⟨h1, t1, rfl, k1, l1⟩ := x
  obtain ⟨h2, t2, rfl, k2, l2⟩ := y
  exact ⟨h2, t2, rfl, fun a o ha e => k2 a o (fun q => (hm a q).elim ha fun z => noSome z e) (k1 a o ha e), fun a e => l2 a (l1 a e)⟩
theorem Step.less (x : Step mu' s s') (hm : ∀ a ∈ mu', a ∈ mu) : Step mu s s' := by
  obtain ⟨h1, t1, rfl, k1, l1⟩ := x
  exact ⟨h1, t1, rfl, fun a o ha e => k1 a o (fun q => ha (hm a q)) e, l1⟩
theorem Step.heap (x : Step mu s s') : ∀ a o, a ∉ mu → s.heap.get? a = some o → s'.heap.get? a = some o := by
  obtain ⟨h1, t1, rfl, k1, l1⟩ := x; exact k1
theorem Step.liv (x : Step mu s s') : ∀ a, (s.heap.get? a).isSome = true → (s'.heap.get? a).isSome = true := by
  obtain ⟨h1, t1, rfl, k1, l1⟩ := x; exact l1
theorem Step.none (x : Step mu s s') (a : Addr) (q : s'.heap.get? a = none) : s.heap.get? a = none := by
  cases e : s.heap.get? a with
  | none => rfl
  | some o => exact noLive q (x.liv a (liveOf e))
theorem fresh_trans {mu'' : List Addr} (x : Step mu s s') (h1 : ∀ a ∈ mu', a ∈ mu ∨ s.heap.get? a = none) (h2 : ∀ a ∈ mu'', a ∈ mu' ∨ s'.heap.get? a = none) :
    ∀ a ∈ mu'', a ∈ mu ∨ s.heap.get? a = none := fun a ha => by
  rcases h2 a ha with q | q
  · exact h1 a q
  · exact .inr (x.none a q)

theorem OwnOk.gen {bc' : List Addr} (hv : ∀ x v, VarAt sc r h x v → VarAt sc r h' x v) (hm : ∀ a ∈ mu, ∀ o, h.get? a = some o → h'.get? a = some o) (hall : ∀ vs ds, DAll C (mu ++ bc) h vs ds → DAll C (mu ++ bc') h' vs ds) (X : OwnOk C sc r bc mu h O) : OwnOk C sc r bc' mu h' O := by
  cases O with
  | none => trivial
  | lst x ds =>
    obtain ⟨a, vs, k, X⟩ := X
    exact ⟨a, vs, k, hv _ _ X.v, hm _ X.mem _ X.o, hall _ _ X.all, X.mem, X.nl, X.nc⟩
  | rows x dss last =>
    obtain ⟨a, vs, k, a2, vs2, k2, X⟩ := X
    exact ⟨a, vs, k, a2, vs2, k2, hv _ _ X.v, hm _ X.mem _ X.o, hm _ X.mem₂ _ X.o₂, hall _ _ X.all, hall _ _ X.all₂, X.mem, X.mem₂, X.ne, X.nl, X.nl₂, X.nc⟩
  | dct x ds =>
    obtain ⟨a, kvs, X⟩ := X
    obtain ⟨z, es, k, h2⟩ := X.lies
    exact ⟨a, kvs, hv _ _ X.v, ⟨z, es, k, hm _ X.mem _ h2⟩, DictOf.at X.is (hm _ X.mem), X.kv, X.mem, X.nl, X.nc⟩
theorem OwnOk.keeps (x : OwnOk C sc r bc mu h O) (hk : ∀ b o, h.get? b = some o → h'.get? b = some o) : OwnOk C sc r bc mu h' O :=
  x.gen (fun _ _ y => y.keeps hk) (fun a _ o e => hk a o e) fun _ _ y => y.mono fun b o _ e => hk b o e

theorem FOk.keeps (x : FOk C sc r bc mu h Γ O) (hk : ∀ b o, h.get? b = some o → h'.get? b = some o) : FOk C sc r bc mu h' Γ O where
  ns := let ⟨m, hm⟩ := x.ns; ⟨m, hm.keeps hk⟩
  lmut := x.lmut
  cell := fun y c h1 h2 => let ⟨a, b, v, hv⟩ := x.cell y c h1 h2; ⟨a, b, v, hv.keeps hk⟩
  has := x.has
  apart := x.apart
  nol := x.nol
  cliv := fun y c e => liveUp (fun o => hk c o) (x.cliv y c e)
  live := fun a ha => liveUp (fun o => hk a o) (x.live a ha)
  disj := x.disj
  go := x.go.keeps hk
  own := x.own.keeps hk

theorem FOk.sub (x : FOk C sc r bc mu h Γ O) (hs : ∀ y d, Γ'.lookup y = some d → Γ.lookup y = some d) : FOk C sc r bc mu h Γ' O :=
  { x with go := fun y d e => x.go y d (hs y d e) }

theorem Wd.step {A : Around} (W : Wd C n A (mu ++ bc) s.heap) (st : Step mu s s') (hm : ∀ a ∈ mu', a ∈ mu ∨ s.heap.get? a = none) (F : FOk C sc r bc mu' s'.heap Γ O) : Wd C n A (mu' ++ bc) s'.heap where
  depth := W.depth
  units := W.units
  top := W.top
  base := fun a o e => st.heap a o (fun q => noSome (W.apart a (List.mem_append_left _ q)) e) (W.base a o e)
  held := by
    rcases W.held with q | ⟨a, o, vs, e, hb, ho, r, r2, r3⟩
    · exact .inl q
    · refine .inr ⟨a, o, vs, e, fun q => ?_, st.heap a o (fun q => hb (List.mem_append_left _ q)) ho, r, r2, r3⟩
      rcases List.mem_append.mp q with q | q
      · rcases hm a q with z | z
        · exact hb (List.mem_append_left _ z)
        · exact noSome z ho
      · exact hb (List.mem_append_right _ q)
  quiet := W.quiet
  live := fun a ha => (List.mem_append.mp ha).elim (F.live a) fun q => st.liv a (W.live a (List.mem_append_right _ q))
  apart := fun a ha => by
    rcases List.mem_append.mp ha with q | q
    · rcases hm a q with z | z
      · exact W.apart a (List.mem_append_left _ z)
      · exact noneBack (W.base a) z
    · exact W.apart a (List.mem_append_right _ q)

/-! chaining -/
theorem EX.nil : EX C n sc Γ O [] (.next Γ O) := by
  refine ⟨fun A s r bc mu Q E W F P => ?_⟩
  exact wpAny_execs_nil (P s mu .refl (fun a ha => .inl ha) F)

theorem EX.cons {st : Stmt} {rest : List Stmt} {out : Out} (h₁ : ES C n sc Γ O st (.next Γ' O')) (h₂ : EX C n sc Γ' O' rest out) : EX C n sc Γ O (st :: rest) out := by
  refine ⟨fun A s r bc mu Q E W F P => ?_⟩
  refine wpAny_execs_cons (h₁.run A s r bc mu _ E W F fun s' mu' st hm F' => ?_)
  refine h₂.run A s' r bc mu' Q E (W.step st hm F') F' ?_
  cases out with
  | next Γ₂ O₂ => exact fun s'' mu'' st' hm' F'' => P s'' mu'' (st.trans st' hm) (fresh_trans st hm hm') F''
  | cont Γ₂ O₂ => exact fun s'' mu'' st' hm' F'' => P s'' mu'' (st.trans st' hm) (fresh_trans st hm hm') F''
  | ret d => exact fun v s'' st' i => P v s'' (st.trans st' hm) i

theorem EX.ret {st : Stmt} {rest : List Stmt} {d : D} (h₁ : ES C n sc Γ O st (.ret d)) : EX C n sc Γ O (st :: rest) (.ret d) := by
  refine ⟨fun A s r bc mu Q E W F P => ?_⟩
  exact wpAny_execs_cons (h₁.run A s r bc mu _ E W F fun v s' st i => P v s' st i)
theorem EX.cont {st : Stmt} {rest : List Stmt} (h₁ : ES C n sc Γ O st (.cont Γ' O')) : EX C n sc Γ O (st :: rest) (.cont Γ' O') := by
  refine ⟨fun A s r bc mu Q E W F P => ?_⟩
  exact wpAny_execs_cons (h₁.run A s r bc mu _ E W F fun s' mu' st hm F' => P s' mu' st hm F')

/-- fewer names are known -/
theorem EX.weak {ss : List Stmt} {out : Out} (h : EX C n sc Γ' O ss out) (hs : ∀ y d, Γ'.lookup y = some d → Γ.lookup y = some d) : EX C n sc Γ O ss out :=
  ⟨fun A s r bc mu Q E W F P => h.run A s r bc mu Q E W (F.sub hs) P⟩
theorem ES.outNext {st : Stmt} (h : ES C n sc Γ O st (.next Γ' O')) {Γ₂ : Gm} (hs : ∀ y d, Γ₂.lookup y = some d → Γ'.lookup y = some d) : ES C n sc Γ O st (.next Γ₂ O') :=
  ⟨fun A s r bc mu Q E W F P => h.run A s r bc mu Q E W F fun s' mu' st hm F' => P s' mu' st hm (F'.sub hs)⟩
theorem EX.outNext {ss : List Stmt} (h : EX C n sc Γ O ss (.next Γ' O')) {Γ₂ : Gm} (hs : ∀ y d, Γ₂.lookup y = some d → Γ'.lookup y = some d) : EX C n sc Γ O ss (.next Γ₂ O') :=
  ⟨fun A s r bc mu Q E W F P => h.run A s r bc mu Q E W F fun s' mu' st hm F' => P s' mu' st hm (F'.sub hs)⟩
theorem EX.outCont {ss : List Stmt} (h : EX C n sc Γ O ss (.cont Γ' O')) {Γ₂ : Gm} (hs : ∀ y d, Γ₂.lookup y = some d → Γ'.lookup y = some d) : EX C n sc Γ O ss (.cont Γ₂ O') :=
  ⟨fun A s r bc mu Q E W F P => h.run A s r bc mu Q E W F fun s' mu' st hm F' => P s' mu' st hm (F'.sub hs)⟩

theorem EVO.of {e : Expr} {d : D} (h : EV C n sc Γ e d) : EVO C n sc Γ O e d :=
  ⟨fun A s r bc mu Q E W F K => h.run A s r (mu ++ bc) Q E W F.go K⟩
theorem EBO.of {e : Expr} {b : Bool} (h : EB C n sc Γ e b) : EBO C n sc Γ O e b :=
  ⟨fun A s r bc mu Q E W F K => h.run A s r (mu ++ bc) Q E W F.go K⟩

/-! stores -/
theorem OwnOk.store {x : Str} {p : Addr} (hO : O.name? ≠ some x) (hpO : p = r.L ∨ ∃ y, r.cs.lookup y = some p) (hp : p ∈ mu) (hs : Heap.SameBut p h h')
    (hvar : ∀ y u, y ≠ x → VarAt sc r h y u → VarAt sc r h' y u) (X : OwnOk C sc r bc mu h O) : OwnOk C sc r bc mu h' O := by
  have same : ∀ a o, a ∉ mu ++ bc → h.get? a = some o → h'.get? a = some o := fun a o ha e => (hs.2 a (fun q => ha (List.mem_append_left _ (q ▸ hp)))).trans e
  have nep : ∀ {a : Addr}, a ≠ r.L → (∀ y c, r.cs.lookup y = some c → c ≠ a) → a ≠ p := fun {a} h1 h2 => hpO.elim (fun q => q ▸ h1) fun ⟨z, q⟩ e => h2 z p q e.symm
  cases O with
  | none => trivial
  | lst y ds =>
    obtain ⟨a, vs, k, X⟩ := X
    exact ⟨a, vs, k, { X with v := hvar y _ (fun e => hO (e ▸ rfl)) X.v, o := (hs.2 a (nep X.nl X.nc)).trans X.o, all := X.all.mono same }⟩
  | rows y dss last =>
    obtain ⟨a, vs, k, a2, vs2, k2, X⟩ := X
    exact ⟨a, vs, k, a2, vs2, k2, { X with v := hvar y _ (fun e => hO (e ▸ rfl)) X.v, o := (hs.2 a (nep X.nl fun y c q => (X.nc y c q).1)).trans X.o, o₂ := (hs.2 a2 (nep X.nl₂ fun y c q => (X.nc y c q).2)).trans X.o₂, all := X.all.mono same, all₂ := X.all₂.mono same }⟩
  | dct y ds =>
    obtain ⟨a, kvs, X⟩ := X
    obtain ⟨z, es, k, h2⟩ := X.lies
    exact ⟨a, kvs, { X with v := hvar y _ (fun e => hO (e ▸ rfl)) X.v, lies := ⟨z, es, k, (hs.2 a (nep X.nl X.nc)).trans h2⟩, is := DictOf.at X.is fun o e => (hs.2 a (nep X.nl X.nc)).trans e }⟩

/-- what a store at the place p leaves -/
theorem FOk.put {x : Str} {p : Addr} {tk : Nat} (F : FOk C sc r bc mu s.heap Γ O) (hp : p ∈ mu) (hs : Heap.SameBut p s.heap h') (hlive : (h'.get? p).isSome = true)
    (hns : ∃ m, h'.Ns r.L m) (hcell : ∀ y c, r.cs.lookup y = some c → sc.names.lookup y = some .cell → ∃ v, h'.IsCell c v) (hvar : ∀ y u, y ≠ x → VarAt sc r s.heap y u → VarAt sc r h' y u)
    (hown : OwnOk C sc r bc mu h' O') (hg : ∀ y d, Γ'.lookup y = some d → (y ≠ x ∧ Γ.lookup y = some d) ∨ ∃ u, VarAt sc r h' y u ∧ DIn C (mu ++ bc) h' u d) :
    Step mu s { s with heap := h', toks := tk } ∧ FOk C sc r bc mu h' Γ' O' := by
  have same : ∀ a o, a ∉ mu → s.heap.get? a = some o → h'.get? a = some o := fun a o ha e => (hs.2 a (fun q => ha (q ▸ hp))).trans e
  have same' : ∀ a o, a ∉ mu ++ bc → s.heap.get? a = some o → h'.get? a = some o := fun a o ha e => same a o (fun q => ha (List.mem_append_left _ q)) e
  have liv : ∀ a, (s.heap.get? a).isSome = true → (h'.get? a).isSome = true := fun a e => by
    by_cases q : a = p
    · subst q; exact hlive
    · rw [hs.2 a q]; exact e
  refine ⟨⟨h', tk, rfl, same, liv⟩, ⟨hns, F.lmut, fun y c h1 h2 => ⟨(F.cell y c h1 h2).1, (F.cell y c h1 h2).2.1, hcell y c h1 h2⟩, F.has, F.apart, F.nol, fun y c e => liv c (F.cliv y c e), fun a ha => liv a (F.live a ha), F.disj, ?_, hown⟩⟩
  intro y d' e
  rcases hg y d' e with ⟨hy, e⟩ | q
  · obtain ⟨u, hu, hd⟩ := F.go y d' e
    exact ⟨u, hvar y u hy hu, hd.mono same'⟩
  · exact q

theorem FOk.storeV {x : Str} {v : Value} {A : Around} {E : Value → Shared → Prop} {Q : Unit → Shared → Prop} (hf : sc.kind = .function) (hx : sc.names.lookup x = some .local ∨ sc.names.lookup x = some .cell)
    (F : FOk C sc r bc mu s.heap Γ O)
    (K : ∀ (p : Addr) (h' : Heap) (tk : Nat), p ∈ mu → (p = r.L ∨ ∃ y, r.cs.lookup y = some p ∧ sc.names.lookup y = some .cell) → Heap.SameBut p s.heap h' → (h'.get? p).isSome = true → (∃ m, h'.Ns r.L m) →
      (∀ y c, r.cs.lookup y = some c → sc.names.lookup y = some .cell → ∃ v, h'.IsCell c v) → (∀ y u, y ≠ x → VarAt sc r s.heap y u → VarAt sc r h' y u) → VarAt sc r h' x v → Q () { s with heap := h', toks := tk }) :
    wpAny (model C.prog C.w) A (storeName (En sc r) x v) Q E s := by
  obtain ⟨m, hm⟩ := F.ns
  rcases hx with hx | hx
  · refine wpAny_storeName_local (env := En sc r) hx hm (fun h' hn hs => ?_) (by show (sc.kind == .class || (sc.kind == .module && _)) = false; rw [hf]; rfl)
    refine K r.L h' _ F.lmut (.inl rfl) hs ?_ ⟨_, hn⟩ ?_ ?_ ?_
    · obtain ⟨o, _, _, ho, _⟩ := hn
      show (h'.get? (En sc r).locals).isSome = true
      rw [ho]; rfl
    · intro y c h1 h2
      obtain ⟨_, hc, u, hu⟩ := F.cell y c h1 h2
      exact ⟨u, hu.sameBut hs hc⟩
    · intro y u hy hv
      rcases hv with ⟨hl, m', hm', e⟩ | ⟨hl, c, hc, hu⟩
      · have := VarAt.unique_ns hm hm'
        subst this
        exact .inl ⟨hl, _, hn, by simp only [if_neg hy]; exact e⟩
      · exact .inr ⟨hl, c, hc, hu.sameBut hs (F.nol y c hc)⟩
    · exact .inl ⟨hx, _, hn, by simp⟩
  · obtain ⟨c, hc⟩ := Option.isSome_iff_exists.mp (F.has x hx)
    obtain ⟨hcm, hcL, v₀, hv₀⟩ := F.cell x c hc hx
    refine wpAny_storeName_cell (env := En sc r) hf hx hc hv₀ (fun h' hc' hs => ?_)
    refine K c h' _ hcm (.inr ⟨x, hc, hx⟩) hs ?_ ⟨m, hm.sameBut hs (Ne.symm hcL)⟩ ?_ ?_ ?_
    · obtain ⟨o, ho, _⟩ := hc'; rw [ho]; rfl
    · intro y c' h1 h2
      by_cases hyx : c' = c
      · subst hyx; exact ⟨_, hc'⟩
      · obtain ⟨_, _, u, hu⟩ := F.cell y c' h1 h2
        exact ⟨u, hu.sameBut hs hyx⟩
    · intro y u hy hv
      rcases hv with ⟨hl, m', hm', e⟩ | ⟨hl, c', hc'', hu⟩
      · exact .inl ⟨hl, m', hm'.sameBut hs (Ne.symm hcL), e⟩
      · exact .inr ⟨hl, c', hc'', hu.sameBut hs fun e => hy (name_of_addr F.apart (mem_of_lookup hc'') (e ▸ mem_of_lookup hc))⟩
    · exact .inr ⟨.inl hx, c, hc, hc'⟩

theorem FOk.store {x : Str} {v : Value} {d : D} {A : Around} {E : Value → Shared → Prop} {Q : Unit → Shared → Prop} (hf : sc.kind = .function) (hx : sc.names.lookup x = some .local ∨ sc.names.lookup x = some .cell)
    (hO : O.name? ≠ some x) (F : FOk C sc r bc mu s.heap Γ O) (i : DIn C (mu ++ bc) s.heap v d)
    (K : ∀ s', Step mu s s' → FOk C sc r bc mu s'.heap ((x, d) :: Γ) O → Q () s') : wpAny (model C.prog C.w) A (storeName (En sc r) x v) Q E s := by
  refine F.storeV hf hx fun p h' tk hp hpO hs hlive hns hcell hvar hx' => ?_
  have hh := F.put (x := x) (tk := tk) (Γ' := (x, d) :: Γ) hp hs hlive hns hcell hvar (OwnOk.store hO (hpO.imp id fun ⟨y, e, _⟩ => ⟨y, e⟩) hp hs hvar F.own) ?_
  · exact K _ hh.1 hh.2
  · intro y d' e
    rw [List.lookup_cons] at e
    by_cases hy : y = x
    · subst hy
      rw [beq_self_eq_true] at e
      cases e
      exact .inr ⟨v, hx', i.mono fun a o ha e => (hs.2 a (fun q => ha (List.mem_append_left _ (q ▸ hp)))).trans e⟩
    · rw [beq_eq_false_iff_ne.mpr hy] at e
      exact .inl ⟨hy, e⟩
end
end Mine

-- Kit7
namespace Mine

section
variable {C : Cfg} {n : Nat} {sc : Scope} {Γ Γ' : Gm} {O O' : Own} {r : Rt} {bc mu mu' : List Addr} {h h' : Heap} {s s' s'' : Shared}

theorem Post.step {out : Out} {Q : Flow → Shared → Prop} (st : Step mu s s') (hm : ∀ a ∈ mu', a ∈ mu ∨ s.heap.get? a = none) (P : Post C sc r bc mu s Q out) : Post C sc r bc mu' s' Q out := by
  cases out with
  | next Γ₂ O₂ => exact fun s'' mut'' st' hm' F'' => P s'' mut'' (st.trans st' hm) (fresh_trans st hm hm') F''
  | cont Γ₂ O₂ => exact fun s'' mut'' st' hm' F'' => P s'' mut'' (st.trans st' hm) (fresh_trans st hm hm') F''
  | ret d => exact fun v s'' st' i => P v s'' (st.trans st' hm) i
theorem Post.kp {out : Out} {Q : Flow → Shared → Prop} (k : Kp s s') (P : Post C sc r bc mu s Q out) : Post C sc r bc mu s' Q out :=
  P.step (.of_kp k) fun _ ha => .inl ha

theorem ES.assign {x : Str} {p pos : Pos} {e : Expr} {d : D} (h : EVO C n sc Γ O e d) (hf : sc.kind = .function) (hx : sc.names.lookup x = some .local ∨ sc.names.lookup x = some .cell) (hO : O.name? ≠ some x)
    (hs : ∀ r, swapsWith e (some (.Name x p)) pos.line (En sc r) = pure false := by intro _; rfl) : ES C n sc Γ O (.Assign [.Name x p] e pos) (.next ((x, d) :: Γ) O) := by
  refine ⟨fun A s r bc mu Q E W F P => ?_⟩
  refine wpAny_Assign_Name (h.run A s r bc mu _ E W F fun v s₁ k₁ i₁ => ?_) (hs r)
  refine (F.keeps k₁.heap).store hf hx hO i₁ fun s₂ st F₂ => ?_
  exact P s₂ mu ((Step.of_kp k₁).trans st fun _ ha => .inl ha) (fun _ ha => .inl ha) F₂

theorem ES.assign2 {x y : Str} {p p' pos : Pos} {e : Expr} {d : D} (h : EVO C n sc Γ O e d) (hf : sc.kind = .function) (hx : sc.names.lookup x = some .local ∨ sc.names.lookup x = some .cell) (hO : O.name? ≠ some x)
    (hy : sc.names.lookup y = some .local ∨ sc.names.lookup y = some .cell) (hO' : O.name? ≠ some y)
    (hw : ∀ r, swappedStores [.Name x p, .Name y p'] e (En sc r) = pure none := by intro _; rfl) : ES C n sc Γ O (.Assign [.Name x p, .Name y p'] e pos) (.next ((y, d) :: (x, d) :: Γ) O) := by
  refine ⟨fun A s r bc mu Q E W F P => ?_⟩
  refine wpAny_Assign_two (h.run A s r bc mu _ E W F fun v s₁ k₁ i₁ => ?_) rfl (hw r)
  refine wpAny_assign_Name ((F.keeps k₁.heap).store hf hx hO i₁ fun s₂ st F₂ => ?_)
  refine wpAny_assign_Name (F₂.store hf hy hO' (i₁.mono fun a o ha e => st.heap a o (fun q => ha (List.mem_append_left _ q)) e) fun s₃ st₃ F₃ => ?_)
  exact P s₃ mu (((Step.of_kp k₁).trans st fun _ ha => .inl ha).trans st₃ fun _ ha => .inl ha) (fun _ ha => .inl ha) F₃

theorem ES.ret {e : Expr} {pos : Pos} {d : D} (h : EVO C n sc Γ O e d) : ES C n sc Γ O (.Return (some e) pos) (.ret d) := by
  refine ⟨fun A s r bc mu Q E W F P => ?_⟩
  refine wpAny_Return_some (h.run A s r bc mu _ E W F fun v s₁ k₁ i₁ => ?_)
  exact P v s₁ (.of_kp k₁) (i₁.less fun a ha => List.mem_append_right _ ha)

theorem ES.continue {pos : Pos} : ES C n sc Γ O (.Continue pos) (.cont Γ O) := by
  refine ⟨fun A s r bc mu Q E W F P => ?_⟩
  exact wpAny_Continue (P s mu .refl (fun _ ha => .inl ha) F)

theorem ES.iff {t : Expr} {b o : List Stmt} {pos : Pos} {c : Bool} {out : Out} (ht : EBO C n sc Γ O t c) (h1 : c = true → EX C n sc Γ O b out) (h2 : c = false → EX C n sc Γ O o out) : ES C n sc Γ O (.If t b o pos) out := by
  refine ⟨fun A s r bc mu Q E W F P => ?_⟩
  refine wpAny_If (ht.run A s r bc mu _ E W F fun s₁ k₁ => ?_)
  cases c with
  | true => exact (h1 rfl).run A s₁ r bc mu Q E (W.keeps k₁.heap) (F.keeps k₁.heap) (P.kp k₁)
  | false => exact (h2 rfl).run A s₁ r bc mu Q E (W.keeps k₁.heap) (F.keeps k₁.heap) (P.kp k₁)

/-- x += e -/
theorem ES.aug {x : Str} {p pos : Pos} {op : Operator} {e : Expr} {d₁ d₂ d : D} (hx : Γ.lookup x = some d₁) (he : EVO C n sc Γ O e d₂) (o : OP2 C n (inplaceOp op) d₁ d₂ d) (hf : sc.kind = .function)
    (hl : sc.names.lookup x = some .local) (hO : O.name? ≠ some x) : ES C n sc Γ O (.AugAssign (.Name x p) op e pos) (.next ((x, d) :: Γ) O) := by
  refine ⟨fun A s r bc mu Q E W F P => ?_⟩
  obtain ⟨v₁, hv, i₁⟩ := F.go x d₁ hx
  refine wpAny_AugAssign_Name ?_
  rcases hv with ⟨_, m, hn, hm⟩ | ⟨hl' | hl', _⟩
  · refine wpAny_loadName_local (env := En sc r) hf hl hn hm ?_
    refine he.run A s r bc mu _ E W F fun v₂ s₂ k₂ i₂ => ?_
    refine o A s₂ (mu ++ bc) v₁ v₂ _ E (W.keeps k₂.heap) (i₁.mono fun a o _ e => k₂.heap a o e) i₂ fun v s₃ k₃ i₃ => ?_
    refine ((F.keeps k₂.heap).keeps k₃.heap).store hf (.inl hl) hO i₃ fun s₄ st F₄ => ?_
    exact P s₄ mu ((Step.of_kp (k₂.trans k₃)).trans st fun _ ha => .inl ha) (fun _ ha => .inl ha) F₄
  · rw [hl] at hl'; cases hl'
  · rw [hl] at hl'; cases hl'

/-! the owned object -/
theorem FOk.grow {A : Around} (W : Wd C n A (mu ++ bc) s.heap) (F : FOk C sc r bc mu s.heap Γ .none) (o : Obj) (ho : o.isFreed = false) : FOk C sc r bc (s.heap.objs.size :: mu) (s.heap.push o) Γ .none := by
  have hk : ∀ b x, s.heap.get? b = some x → (s.heap.push o).get? b = some x := fun _ _ e => Heap.get?_push_of_some _ e
  have F' := F.keeps hk
  have nofr : s.heap.get? s.heap.objs.size = none := by
    cases e : s.heap.get? s.heap.objs.size with
    | none => rfl
    | some x => exact absurd (Heap.lt_size e) (Nat.lt_irrefl _)
  refine ⟨F'.ns, List.mem_cons_of_mem _ F.lmut, fun y c h1 h2 => ?_, F.has, F.apart, F.nol, F'.cliv, fun a ha => ?_, fun a ha => ?_, ?_, trivial⟩
  · obtain ⟨a, b, v⟩ := F'.cell y c h1 h2; exact ⟨List.mem_cons_of_mem _ a, b, v⟩
  · rcases List.mem_cons.mp ha with q | q
    · rw [q, Heap.get?_push_size _ ho]; rfl
    · exact F'.live a q
  · rcases List.mem_cons.mp ha with q | q
    · rw [q]; exact fun z => W.fresh (List.mem_append_right _ z)
    · exact F.disj a q
  · intro y d e
    obtain ⟨v, hv, hd⟩ := F.go y d e
    refine ⟨v, hv.keeps hk, (hd.more fun a ha => ?_).mono fun a o _ e => hk a o e⟩
    rcases List.mem_append.mp ha with q | q
    · rcases List.mem_cons.mp q with q | q
      · right; rw [q]; exact nofr
      · left; exact List.mem_append_left _ q
    · left; exact List.mem_append_right _ q

theorem get_fresh : s.heap.get? s.heap.objs.size = none := by
  cases e : s.heap.get? s.heap.objs.size with
  | none => rfl
  | some x => exact absurd (Heap.lt_size e) (Nat.lt_irrefl _)

theorem FOk.place (F : FOk C sc r bc mu s.heap Γ O) {q : Addr} (hq : q = r.L ∨ ∃ y, r.cs.lookup y = some q ∧ sc.names.lookup y = some .cell) : q ∈ mu := by
  rcases hq with e | ⟨y, e, k⟩
  · rw [e]; exact F.lmut
  · exact (F.cell y q e k).1
theorem FOk.ne_fresh (F : FOk C sc r bc mu s.heap Γ O) {q : Addr} (hq : q ∈ mu) : q ≠ s.heap.objs.size := fun z => by
  have := F.live q hq
  rw [z, get_fresh] at this; cases this

/-- x = [] : a list to be filled -/
theorem ES.newList {x : Str} {p p' pos : Pos} (hf : sc.kind = .function) (hx : sc.names.lookup x = some .local) (hΓ : Γ.lookup x = none) :
    ES C n sc Γ .none (.Assign [.Name x p] (.List [] p') pos) (.next Γ (.lst x [])) := by
  refine ⟨fun A s r bc mu Q E W F P => ?_⟩
  refine wpAny_Assign_Name (wpAny_List (wpAny_items_nil ⟨by simp, ?_⟩)) rfl
  have F₁ := F.grow W (lobj [] 0) rfl
  refine FOk.storeV (s := { s with heap := s.heap.push (lobj [] 0) }) hf (.inl hx) F₁ fun q h' tk hp hpO hs hlive hns hcell hvar hx' => ?_
  have hqa : q ≠ s.heap.objs.size := F.ne_fresh (F.place hpO)
  have hput := FOk.put (s := { s with heap := s.heap.push (lobj [] 0) }) (x := x) (tk := tk) (Γ' := Γ) (O' := .lst x []) F₁ hp hs hlive hns hcell hvar
    ⟨s.heap.objs.size, [], 0, hx', (hs.2 _ (Ne.symm hqa)).trans (Heap.get?_push_size _ rfl), .nil, List.mem_cons_self, Ne.symm (F.ne_fresh F.lmut), fun y c hc e => by have := F.cliv y c hc; rw [e, get_fresh] at this; cases this⟩
    (fun y d e => .inl ⟨fun z => (by rw [z, hΓ] at e; cases e), e⟩)
  refine P _ _ ((Step.of_kp (Kp.push _)).trans hput.1 fun a ha => ?_) (fun a ha => ?_) hput.2
  · rcases List.mem_cons.mp ha with z | z
    · right; rw [z]; exact get_fresh
    · exact .inl z
  · rcases List.mem_cons.mp ha with z | z
    · right; rw [z]; exact get_fresh
    · exact .inl z
end
end Mine

-- Kit8
namespace Mine

section
variable {C : Cfg} {n : Nat} {sc : Scope} {Γ Γ' : Gm} {O O' : Own} {r : Rt} {bc mu mu' : List Addr} {h h' : Heap} {s s' s'' : Shared}

theorem VarAt.sameBut {p : Addr} {x : Str} {v : Value} (y : VarAt sc r h x v) (hs : Heap.SameBut p h h') (hL : p ≠ r.L) (hc : ∀ y c, r.cs.lookup y = some c → c ≠ p) : VarAt sc r h' x v :=
  y.imp (fun ⟨a, m, hn, e⟩ => ⟨a, m, hn.sameBut hs (Ne.symm hL), e⟩) fun ⟨a, c, e, hv⟩ => ⟨a, c, e, hv.sameBut hs (hc _ _ e)⟩

theorem FOk.touch {p : Addr} {tk : Nat} (F : FOk C sc r bc mu s.heap Γ O) (hp : p ∈ mu) (hL : p ≠ r.L) (hc : ∀ y c, r.cs.lookup y = some c → c ≠ p) (hs : Heap.SameBut p s.heap h') (hlive : (h'.get? p).isSome = true)
    (hown : OwnOk C sc r bc mu h' O') : Step mu s { s with heap := h', toks := tk } ∧ FOk C sc r bc mu h' Γ O' := by
  have same : ∀ a o, a ∉ mu → s.heap.get? a = some o → h'.get? a = some o := fun a o ha e => (hs.2 a (fun q => ha (q ▸ hp))).trans e
  have same' : ∀ a o, a ∉ mu ++ bc → s.heap.get? a = some o → h'.get? a = some o := fun a o ha e => same a o (fun q => ha (List.mem_append_left _ q)) e
  have liv : ∀ a, (s.heap.get? a).isSome = true → (h'.get? a).isSome = true := fun a e => by
    by_cases q : a = p
    · subst q; exact hlive
    · rw [hs.2 a q]; exact e
  refine ⟨⟨h', tk, rfl, same, liv⟩, ⟨let ⟨m, hm⟩ := F.ns; ⟨m, hm.sameBut hs (Ne.symm hL)⟩, F.lmut, fun y c h1 h2 => ?_, F.has, F.apart, F.nol, fun y c e => liv c (F.cliv y c e), fun a ha => liv a (F.live a ha), F.disj, ?_, hown⟩⟩
  · obtain ⟨a, b, v, hv⟩ := F.cell y c h1 h2
    exact ⟨a, b, v, hv.sameBut hs (hc y c h1)⟩
  · intro y d e
    obtain ⟨v, hv, hd⟩ := F.go y d e
    exact ⟨v, hv.sameBut hs hL hc, hd.mono same'⟩

theorem VarAt.load {M : Model} {A : Around} {E : Value → Shared → Prop} {Q : Value → Shared → Prop} {x : Str} {v : Value} {pos : Pos} (y : VarAt sc r s.heap x v) (hk : sc.kind = .function) (K : Q v s)
    (hd : (x == ("__debug__" : Str)) = false) (hc : (x == ("__classdict__" : Str)) = false) : wpAny M A (eval (.Name x pos) (En sc r)) Q E s := by
  refine wpAny_Name ?_ hd
  rcases y with ⟨hl, m, hn, hm⟩ | ⟨hl | hl, c, hcs, hcell⟩
  · exact wpAny_loadName_local (env := En sc r) hk hl hn hm K
  · exact wpAny_loadName_cell (env := En sc r) hk hl hcs hcell K
  · exact wpAny_loadName_free (env := En sc r) hk hl hcs hcell K hc

/-- x.append(e) -/
theorem ES.append {x : Str} {p ap cp pos : Pos} {e : Expr} {ds : List D} {d : D} (he : EVO C n sc Γ (.lst x ds) e d) (hf : sc.kind = .function) (hsz : ds.length ≤ 10000000)
    (hst : ∀ env, starEach [e] env = [(false, eval e env)] := by intro _; rfl) (hline : (ap.endLine == cp.line) = true := by rfl)
    (hd : (x == ("__debug__" : Str)) = false := by decide +kernel) (hc : (x == ("__classdict__" : Str)) = false := by decide +kernel) :
    ES C n sc Γ (.lst x ds) (.Expr (.Call (.Attribute (.Name x p) (Str.ofString "append") ap) [e] [] cp) pos) (.next Γ (.lst x (ds ++ [d]))) := by
  refine ⟨fun A s r bc mu Q E W F P => ?_⟩
  refine wpAny_Expr_any (Call_method1 rfl (hst _) hline ?_) ?_ rfl
  · obtain ⟨a, vs, k, hv, ho, hall, ha, haL, hac⟩ := F.own
    refine hv.load hf ?_ hd hc
    refine ⟨"list", "list.append", PySem.F.plainAttrs_list, PySem.F.slot_list_append, PySem.F.type_list_append, ⟨_, ho, rfl⟩, fun b e => by cases e; exact ⟨_, ho, rfl⟩, ?_⟩
    refine Calls.callWith_builtin rfl (Calls.evalArgs_plain (Calls.spliced_cons ?_))
    refine he.run A s r bc mu _ E W F fun v s₁ k₁ i₁ => Calls.spliced_nil ?_
    have ho₁ := k₁.heap _ _ ho
    have hlen := hall.length
    refine wpAny_list_append_plain (l := a) (items := vs.toArray) ⟨k, ho₁⟩ (fun h' hl hs => ?_) (by rw [List.size_toArray, hlen, sizeLine_eq]; omega)
    obtain ⟨k', hl⟩ := hl
    have hall₁ := hall.mono (h' := s₁.heap) fun a o _ e => k₁.heap a o e
    have same' : ∀ b o, b ∉ mu ++ bc → s₁.heap.get? b = some o → h'.get? b = some o := fun b o hb e => (hs.2 b (fun q => hb (List.mem_append_left _ (q ▸ ha)))).trans e
    have F₁ := F.keeps k₁.heap
    have := F₁.touch (tk := s₁.toks) (O' := .lst x (ds ++ [d])) ha haL hac hs (by rw [hl]; rfl)
      ⟨a, vs ++ [v], k', (hv.keeps k₁.heap).sameBut hs haL hac, by rw [hl]; simp, (hall₁.append (.cons i₁ .nil)).mono same', ha, haL, hac⟩
    exact P _ mu ((Step.of_kp k₁).trans this.1 fun _ q => .inl q) (fun _ q => .inl q) this.2
  · show interactive (En sc r) = false
    unfold interactive
    show (sc.kind == .module && _) = false
    rw [hf]; rfl

/-- the owned list is done: it is plain data from here on -/
theorem FOk.freeze {x : Str} {ds : List D} (F : FOk C sc r bc mu s.heap Γ (.lst x ds)) : ∃ mu', (∀ a ∈ mu', a ∈ mu) ∧ FOk C sc r bc mu' s.heap ((x, .list ds) :: Γ) .none := by
  obtain ⟨a, vs, k, hv, ho, hall, ha, haL, hac⟩ := F.own
  refine ⟨mu.filter (· != a), fun b hb => (List.mem_filter.mp hb).1, ?_⟩
  have hin : ∀ b, b ∈ mu.filter (· != a) ++ bc → b ∈ mu ++ bc := fun b hb => by
    rcases List.mem_append.mp hb with q | q
    · exact List.mem_append_left _ (List.mem_filter.mp q).1
    · exact List.mem_append_right _ q
  refine ⟨F.ns, List.mem_filter.mpr ⟨F.lmut, by simpa using Ne.symm haL⟩, fun y c h1 h2 => ?_, F.has, F.apart, F.nol, F.cliv, fun b hb => F.live b (List.mem_filter.mp hb).1, fun b hb => F.disj b (List.mem_filter.mp hb).1, ?_, trivial⟩
  · obtain ⟨q1, q2, q3⟩ := F.cell y c h1 h2
    exact ⟨List.mem_filter.mpr ⟨q1, by simpa using hac y c h1⟩, q2, q3⟩
  · intro y d e
    rw [List.lookup_cons] at e
    by_cases hy : y = x
    · subst hy
      rw [beq_self_eq_true] at e
      cases e
      refine ⟨.ref a, hv, .list (n := k) (fun q => ?_) ho (hall.less hin)⟩
      rcases List.mem_append.mp q with z | z
      · have := (List.mem_filter.mp z).2; simp at this
      · exact F.disj a ha z
    · rw [beq_eq_false_iff_ne.mpr hy] at e
      obtain ⟨v, hv', hd⟩ := F.go y d e
      exact ⟨v, hv', hd.less hin⟩

theorem Wd.less {A : Around} {bad bad' : List Addr} (W : Wd C n A bad h) (hs : ∀ a, a ∈ bad' → a ∈ bad) : Wd C n A bad' h :=
  ⟨W.depth, W.units, W.top, W.base, W.held.imp id fun ⟨a, o, vs, y⟩ => ⟨a, o, vs, { y with nb := fun q => y.nb (hs a q) }⟩, W.quiet, fun a ha => W.live a (hs a ha), fun a ha => W.apart a (hs a ha)⟩

theorem app_sub {mu mu' bc : List Addr} (hs : ∀ a ∈ mu', a ∈ mu) : ∀ a, a ∈ mu' ++ bc → a ∈ mu ++ bc := fun a ha => by
  rcases List.mem_append.mp ha with q | q
  · exact List.mem_append_left _ (hs a q)
  · exact List.mem_append_right _ q

theorem EX.freeze {x : Str} {ds : List D} {ss : List Stmt} {out : Out} (h : EX C n sc ((x, .list ds) :: Γ) .none ss out) : EX C n sc Γ (.lst x ds) ss out := by
  refine ⟨fun A s r bc mu Q E W F P => ?_⟩
  obtain ⟨mu', hm, F'⟩ := F.freeze
  exact h.run A s r bc mu' Q E (W.less (app_sub hm)) F' (P.step .refl fun a ha => .inl (hm a ha))

noncomputable def atomic : D → Bool
  | .none => true
  | .bool _ => true
  | .int _ => true
  | .str _ => true
  | _ => false
theorem DIn.atom {bad bad' : List Addr} {v : Value} {d : D} (x : DIn C bad h v d) (hd : atomic d = true) : DIn C bad' h' v d := by
  cases d with
  | none => rw [show v = .none from x.inv]; exact .none
  | bool b => rw [x.boolInv]; exact .bool b
  | int i => obtain ⟨t, rfl⟩ := x.intInv; exact .int i t
  | str l => obtain ⟨t, rfl⟩ := x.strInv; exact .str l t
  | _ => cases hd

/-- an owned list is read for the while of an expression -/
theorem EVO.borrow {x : Str} {ds : List D} {e : Expr} {d : D} (h : EV C n sc ((x, .list ds) :: Γ) e d) (hd : atomic d = true) : EVO C n sc Γ (.lst x ds) e d := by
  refine ⟨fun A s r bc mu Q E W F K => ?_⟩
  obtain ⟨mu', hm, F'⟩ := F.freeze
  exact h.run A s r (mu' ++ bc) Q E (W.less (app_sub hm)) F'.go fun v s' k i => K v s' k (i.atom hd)
theorem EBO.borrow {x : Str} {ds : List D} {e : Expr} {b : Bool} (h : EB C n sc ((x, .list ds) :: Γ) e b) : EBO C n sc Γ (.lst x ds) e b := by
  refine ⟨fun A s r bc mu Q E W F K => ?_⟩
  obtain ⟨mu', hm, F'⟩ := F.freeze
  exact h.run A s r (mu' ++ bc) Q E (W.less (app_sub hm)) F'.go K

/-! while -/
inductive WL (C : Cfg) (n : Nat) (sc : Scope) (test : Expr) (body : List Stmt) : Nat → Gm → Own → Gm → Own → Prop
  | done {k : Nat} {Γ : Gm} {O : Own} : EBO C n sc Γ O test false → WL C n sc test body k Γ O Γ O
  | turn {k : Nat} {Γ Γ₁ Γ' : Gm} {O O₁ O' : Own} : EBO C n sc Γ O test true → EX C n sc Γ O body (.next Γ₁ O₁) → WL C n sc test body k Γ₁ O₁ Γ' O' → WL C n sc test body (k + 1) Γ O Γ' O'

theorem WL.inv {test : Expr} {body : List Stmt} {k : Nat} (w : WL C n sc test body k Γ O Γ' O') : (EBO C n sc Γ O test false ∧ Γ' = Γ ∧ O' = O) ∨ ∃ k' Γ₁ O₁, k = k' + 1 ∧ EBO C n sc Γ O test true ∧ EX C n sc Γ O body (.next Γ₁ O₁) ∧ WL C n sc test body k' Γ₁ O₁ Γ' O' := by
  cases w with
  | done a => exact .inl ⟨a, rfl, rfl⟩
  | turn a b c => exact .inr ⟨_, _, _, rfl, a, b, c⟩
structure WhileIs (C : Cfg) (n : Nat) (sc : Scope) (test : Expr) (body : List Stmt) (Γ' : Gm) (O' : Own) (r : Rt) (bc mu : List Addr) (s : Shared) (k : Nat) (s' : Shared) (Γ₁ : Gm) (O₁ : Own) (mu₁ : List Addr) : Prop where
  wl : WL C n sc test body k Γ₁ O₁ Γ' O'
  step : Step mu s s'
  hm : ∀ a ∈ mu₁, a ∈ mu ∨ s.heap.get? a = none
  F : FOk C sc r bc mu₁ s'.heap Γ₁ O₁
theorem ES.while {test : Expr} {body : List Stmt} {pos : Pos} {k : Nat} (w : WL C n sc test body k Γ O Γ' O') : ES C n sc Γ O (.While test body [] pos) (.next Γ' O') := by
  refine ⟨fun A s r bc mu Q E W F P => ?_⟩
  refine wpAny_While (codeAny_whileLoop (fun k s' => ∃ Γ₁ O₁ mu₁, WhileIs C n sc test body Γ' O' r bc mu s k s' Γ₁ O₁ mu₁) ?_ k ⟨Γ, O, mu, w, .refl, fun _ q => .inl q, F⟩)
  rintro k s₁ ⟨Γ₁, O₁, mu₁, w₁, st₁, hm₁, F₁⟩
  have W₁ := W.step st₁ hm₁ F₁
  rcases w₁.inv with ⟨ht, rfl, rfl⟩ | ⟨k', Γ₂, O₂, rfl, ht, hb, hw⟩
  · exact ht.run A s₁ r bc mu₁ _ _ W₁ F₁ fun s₂ k₂ => wpAny_execs_nil (P s₂ mu₁ (st₁.trans (mu' := mu₁) (Step.of_kp k₂) hm₁) hm₁ (F₁.keeps k₂.heap))
  · refine ht.run A s₁ r bc mu₁ _ _ W₁ F₁ fun s₂ k₂ => hb.run A s₂ r bc mu₁ _ _ (W₁.keeps k₂.heap) (F₁.keeps k₂.heap) fun s₃ mu₃ st₃ hm₃ F₃ => ?_
    have st₂ := st₁.trans (mu' := mu₁) (Step.of_kp k₂) hm₁
    exact ⟨_, Nat.lt_succ_self _, _, _, mu₃, hw, st₂.trans st₃ hm₁, fresh_trans st₂ hm₁ hm₃, F₃⟩
end
end Mine

-- Kit9
namespace Mine

/-- what a raise asks of the exception that is being handled around -/
noncomputable def HeldAt (A : Around) (h : Heap) : Prop :=
  A.handled = none ∨ ∃ a o vs, A.handled = some (.ref a) ∧ h.get? a = some o ∧ o.data = .fields vs ∧ vs[2]? = some .none
theorem Held.at {A : Around} {bad : List Addr} {h : Heap} (x : Held A bad h) : HeldAt A h :=
  x.imp id fun ⟨a, o, vs, e, _, ho, hd, h2, _⟩ => ⟨a, o, vs, e, ho, hd, h2⟩
noncomputable def heldAddrs (A : Around) : List Addr := match A.handled with
  | some (.ref a) => [a]
  | _ => []
theorem HeldAt.keeps {A : Around} {h h' : Heap} (x : HeldAt A h) (hk : ∀ b ∈ heldAddrs A, ∀ o, h.get? b = some o → h'.get? b = some o) : HeldAt A h' :=
  x.imp id fun ⟨a, o, vs, e, ho, r⟩ => ⟨a, o, vs, e, hk a (by unfold heldAddrs; rw [e]; exact List.mem_cons_self) o ho, r⟩
theorem HeldAt.in1 {A : Around} {h : Heap} (x : HeldAt A h) : HeldAt A.in1 h := x

theorem entry_unchain : entryFor table "proto.unchain" = some Builtin.«proto.unchain» := entryFor_of_fast (by kernel_rfl)

section
variable {prog : Program} {w : World} {A : Around} {E : Value → Shared → Prop} {s : Shared}

/-- a new exception is raised, whatever is handled around -/
theorem raiseNewAt {α : Type} {Q : α → Shared → Prop} {e : Addr} {x : Obj} {xs : Array Value} (hself : s.heap.get? e = some x) (hxs : x.data = .fields xs) (hsz : 2 < xs.size) (hh : HeldAt A s.heap)
    (hne : ∀ a, A.handled = some (.ref a) → a ≠ e)
    (hE : ∀ h' : Heap, (∀ b o, b ≠ e → s.heap.get? b = some o → h'.get? b = some o) → (∃ o, h'.get? e = some o ∧ o.cls = x.cls) → E (.ref e) { s with heap := h' }) :
    wpAny (model prog w) A (raiseNew (.ref e) : Sem α) Q E s := by
  unfold raiseNew
  refine wpAny_bind (wpAny_handled ?_)
  rcases hh with hh | ⟨a, o, vs, hh, ho, hd, h2⟩
  · rw [hh]
    exact wpAny_bind (wpAny_pure (wpAny_throw (hE _ (fun _ _ _ q => q) ⟨x, hself, rfl⟩)))
  · rw [hh]
    have hae := hne a hh
    have hb : (Value.ref a != Value.ref e) = true := by
      simp only [bne_iff_ne, ne_eq, Value.ref.injEq]; exact hae
    simp only [hb, if_true]
    refine wpAny_bind (wpAny_holding (wpAny_runValue (codeAny_builtin entry_unchain ?_)))
    show wpAny _ _ (field (.ref a) 2 >>= _) _ _ _
    refine wpAny_bind (wpAny_field ho hd h2 ?_)
    show wpAny _ _ (if (Value.none == Value.none) = true then _ else _) _ _ _
    rw [if_pos (by rfl)]
    refine wpAny_pure ?_
    refine wpAny_bind ?_
    unfold updateField
    refine wpAny_bind (wpAny_load hself ?_)
    rw [hxs]
    dsimp only
    rw [if_pos hsz]
    refine wpAny_update hself (wpAny_throw (hE _ (fun b o hbe q => ?_) ⟨_, Heap.get?_update_self _ hself (Obj.isFreed_of_fields (Obj.data_mapFields hxs _)), (Obj.cls_mapFields ..)⟩))
    exact (Heap.get?_update_ne _ _ _ _ hbe).trans q

/-- a new StopIteration is raised, whatever is handled around -/
theorem raiseStop {α : Type} {Q : α → Shared → Prop} (hh : HeldAt A s.heap)
    (hE : ∀ (e : Addr) (h' : Heap), (∀ b o, s.heap.get? b = some o → h'.get? b = some o) → (∃ o, h'.get? e = some o ∧ o.cls = .type "StopIteration") → E (.ref e) { s with heap := h' }) :
    wpAny (model prog w) A (newExc (.type "StopIteration") [] >>= fun e => (raiseNew e : Sem α)) Q E s := by
  refine wpAny_bind ?_
  simp only [newExc, newTuple]
  refine wpAny_bind (wpAny_newObj_type ?_ (by size_fits))
  refine wpAny_bind (m := firstArgMember _ _) (wpAny_of_eq (a := Value.none) (by first | rfl | (simp only [firstArgMember]; rfl)) ?_)
  refine wpAny_newObj_type ?_ (by size_fits)
  have push2 : ∀ (o₁ o₂ : Obj) b o, s.heap.get? b = some o → ((s.heap.push o₁).push o₂).get? b = some o := fun o₁ o₂ b o e => Heap.get?_push_of_some _ (Heap.get?_push_of_some _ e)
  refine raiseNewAt (Heap.get?_push_size _ rfl) rfl (by simp; omega) ?_ ?_ ?_
  · exact hh.imp id fun ⟨a, o, vs, q, ho, r⟩ => ⟨a, o, vs, q, push2 _ _ _ _ ho, r⟩
  · intro a ha q
    rcases hh with hh | ⟨b, o, vs, hh, ho, _⟩
    · rw [hh] at ha; cases ha
    · rw [hh] at ha; cases ha
      have := Heap.lt_size (Heap.get?_push_of_some (h := s.heap) { cls := .type "tuple", data := .seq #[] } ho)
      rw [q] at this
      exact Nat.lt_irrefl _ this
  · intro h' hk hc
    refine hE _ h' (fun b o q => hk b o (fun z => ?_) (push2 _ _ _ _ q)) hc
    have := Heap.lt_size (Heap.get?_push_of_some (h := s.heap) { cls := .type "tuple", data := .seq #[] } q)
    rw [z] at this
    exact Nat.lt_irrefl _ this

theorem endNext {it : Addr} {T id : String} {B : Builtin} {Q : Option Value → Shared → Prop} (hT : s.TypeIs (.ref it) T) (slot : Slot T (Str.ofString "__next__") id) (entry : entryFor table id = some B) (args : argsOk id ⟨[.ref it], []⟩)
    (h : wpAny (model prog w) A.in1 (B ⟨[.ref it], []⟩) (fun _ _ => False) (fun e s' => (∃ a, e = .ref a ∧ s'.TypeIs (.ref a) "StopIteration") ∧ Q none s') s) : wpAny (model prog w) A (pyNext (.ref it)) Q E s := by
  unfold pyNext
  refine wpAny_bind (wpAny_attempt (wpAny_callSpecial?_slot (name := Str.ofString "__next__") hT slot (wpAny_call_entry slot hT entry ?_ args)))
  refine wpAny_mono h (fun _ _ q => q.elim) fun e s' q => ?_
  obtain ⟨⟨a, rfl, ht⟩, hq⟩ := q
  exact wpAny_bind (wpAny_isInstance (T := "StopIteration") (b := true) ht isSubtype_stop (wpAny_pure hq))

theorem list_end {it l : Addr} {i : Nat} {items : Array Value} {Q : Option Value → Shared → Prop} (hh : HeldAt A s.heap) (hit : s.heap.IsListIter it l i) (hl : s.heap.IsList l items) (hx : items[i]? = none)
    (hna : ∀ a, A.handled = some (.ref a) → a ≠ it)
    (hQ : ∀ h', Heap.ExtBut it s.heap h' → Q none { s with heap := h' }) : wpAny (model prog w) A (pyNext (.ref it)) Q E s := by
  obtain ⟨o, ho, hc, hd⟩ := id hit
  obtain ⟨ol, hol, _, nl, hdl⟩ := hl
  refine endNext hit.typeIs slot_listiter_next entry_listiter_next (args_listiter_next _) ?_
  show wpAny _ _ (field (.ref it) 0 >>= _) _ _ s
  refine wpAny_bind (wpAny_field ho hd (x := .ref l) rfl ?_)
  show wpAny _ _ (if (Value.ref l == Value.none) = true then _ else _) _ _ s
  rw [if_neg (show ¬ ((Value.ref l == Value.none) = true) from Bool.false_ne_true)]
  show wpAny _ _ (field (.ref it) 1 >>= _) _ _ s
  refine wpAny_bind (wpAny_field ho hd (x := .int i 0) rfl ?_)
  show wpAny _ _ (seqItems? (.ref l) >>= _) _ _ s
  refine wpAny_bind (wpAny_seqItems hol hdl ?_)
  simp only [Int.toNat_natCast, hx]
  refine wpAny_bind (wpAny_rule (wpAny_bind (wpAny_setField ho hd (by simp) ?_)))
  refine raiseStop ?_ ?_
  · refine (hh.in1).imp id fun ⟨a, o', vs, q, ho', r⟩ => ⟨a, o', vs, q, (Heap.get?_update_ne _ _ _ _ (hna a q)).trans ho', r⟩
  · intro e h' hk hc'
    exact ⟨⟨e, rfl, hc'⟩, hQ h' fun b x hb q => hk b x ((Heap.get?_update_ne _ _ _ _ hb).trans q)⟩

theorem tuple_end {it l : Addr} {i : Nat} {items : Array Value} {Q : Option Value → Shared → Prop} (hh : HeldAt A s.heap) (hit : s.heap.IsTupleIter it l i) (hl : s.heap.IsTuple l items) (hx : items[i]? = none)
    (hna : ∀ a, A.handled = some (.ref a) → a ≠ it)
    (hQ : ∀ h', Heap.ExtBut it s.heap h' → Q none { s with heap := h' }) : wpAny (model prog w) A (pyNext (.ref it)) Q E s := by
  obtain ⟨o, ho, hc, hd⟩ := id hit
  obtain ⟨ol, hol, _, nl, hdl⟩ := hl
  refine endNext hit.typeIs F.slot_tuple_iterator_next F.entry_tuple_iterator_next (F.args_tuple_iterator_next_1 _) ?_
  show wpAny _ _ (field (.ref it) 0 >>= _) _ _ s
  refine wpAny_bind (wpAny_field ho hd (x := .ref l) rfl ?_)
  show wpAny _ _ (if (Value.ref l == Value.none) = true then _ else _) _ _ s
  rw [if_neg (show ¬ ((Value.ref l == Value.none) = true) from Bool.false_ne_true)]
  show wpAny _ _ (field (.ref it) 1 >>= _) _ _ s
  refine wpAny_bind (wpAny_field ho hd (x := .int i 0) rfl ?_)
  show wpAny _ _ (seqItems? (.ref l) >>= _) _ _ s
  refine wpAny_bind (wpAny_seqItems hol hdl ?_)
  simp only [Int.toNat_natCast, hx]
  refine wpAny_bind (wpAny_rule (wpAny_bind (wpAny_setField ho hd (by simp) ?_)))
  refine raiseStop ?_ ?_
  · refine (hh.in1).imp id fun ⟨a, o', vs, q, ho', r⟩ => ⟨a, o', vs, q, (Heap.get?_update_ne _ _ _ _ (hna a q)).trans ho', r⟩
  · intro e h' hk hc'
    exact ⟨⟨e, rfl, hc'⟩, hQ h' fun b x hb q => hk b x ((Heap.get?_update_ne _ _ _ _ hb).trans q)⟩

theorem str_end {it : Addr} {x : Str} {t : Tok} {i : Nat} {Q : Option Value → Shared → Prop} (hh : HeldAt A s.heap) (hit : s.heap.IsStrIter it "str_ascii_iterator" x t i) (hx : x.cps[i]? = none)
    (hna : ∀ a, A.handled = some (.ref a) → a ≠ it)
    (hQ : ∀ h', Heap.ExtBut it s.heap h' → Q none { s with heap := h' }) : wpAny (model prog w) A (pyNext (.ref it)) Q E s := by
  obtain ⟨o, ho, hc, hd⟩ := id hit
  refine endNext hit.typeIs F.slot_str_ascii_iterator_next F.entry_str_ascii_iterator_next (F.args_str_ascii_iterator_next_1 _) ?_
  show wpAny _ _ (field (.ref it) 0 >>= _) _ _ s
  refine wpAny_bind (wpAny_field ho hd (x := .str x t) rfl ?_)
  show wpAny _ _ (field (.ref it) 1 >>= _) _ _ s
  refine wpAny_bind (wpAny_field ho hd (x := .int i 0) rfl ?_)
  simp only [Int.toNat_natCast, hx]
  refine wpAny_bind (wpAny_rule (wpAny_bind (wpAny_setField ho hd (by simp) (wpAny_bind (wpAny_letGo ?_)))))
  refine raiseStop ?_ ?_
  · refine (hh.in1).imp id fun ⟨a, o', vs, q, ho', r⟩ => ⟨a, o', vs, q, (Heap.get?_update_ne _ _ _ _ (hna a q)).trans ho', r⟩
  · intro e h' hk hc'
    exact ⟨⟨e, rfl, hc'⟩, hQ h' fun b x hb q => hk b x ((Heap.get?_update_ne _ _ _ _ hb).trans q)⟩

theorem range_end {it : Addr} {x left step : Int} {Q : Option Value → Shared → Prop} (hh : HeldAt A s.heap) (hit : IsRangeIter s.heap it x left step) (hleft : left ≤ 0)
    (hQ : ∀ h', Heap.ExtBut it s.heap h' → Q none { s with heap := h' }) : wpAny (model prog w) A (pyNext (.ref it)) Q E s := by
  refine endNext (T := "range_iterator") ⟨_, hit, rfl⟩ F.slot_range_iterator_next F.entry_range_iterator_next (F.args_range_iterator_next_1 _) ?_
  show wpAny _ _ (field (.ref it) 0 >>= _) _ _ s
  refine wpAny_bind (wpAny_field hit rfl (x := rawInt x) rfl ?_)
  show wpAny _ _ (field (.ref it) 1 >>= _) _ _ s
  refine wpAny_bind (wpAny_field hit rfl (x := rawInt left) rfl ?_)
  show wpAny _ _ (field (.ref it) 2 >>= _) _ _ s
  refine wpAny_bind (wpAny_field hit rfl (x := rawInt step) rfl ?_)
  show wpAny _ _ (if left ≤ 0 then _ else _) _ _ s
  rw [if_pos hleft]
  refine wpAny_bind (wpAny_rule ?_)
  refine wpAny_bind ?_
  refine raiseStop hh.in1 ?_
  intro e h' hk hc'
  exact ⟨⟨e, rfl, hc'⟩, hQ h' fun b x _ q => hk b x q⟩
end
end Mine

-- Kit10
namespace Mine

/-- an iterator of these kinds owns no tuple that a target could take -/
theorem letOwnT {prog : Program} {w : World} {A : Around} {E : Value → Shared → Prop} {s : Shared} {I : Addr} {o : Obj} {nm : String} {v : Value} {Q : Unit → Shared → Prop} (ho : s.heap.get? I = some o) (hc : o.cls = .type nm)
    (hn : ["enumerate", "zip", "dict_itemiterator", "dict_reverseitemiterator", "odict_iterator", "itertools.zip_longest", "itertools.pairwise"].contains nm = false) (hQ : Q () s) :
    wpAny (model prog w) A (letOwnedTupleGo (.Tuple [] 0 default) (.ref I) v) Q E s := by
  cases v with
  | ref a =>
    refine wpAny_bind (wpAny_load ho ?_)
    rw [hc]
    cases hd : o.data with
    | fields vs =>
      simp only [hn, Bool.false_and, Bool.false_eq_true, if_false]
      exact wpAny_pure hQ
    | _ => exact wpAny_pure hQ
  | _ => exact wpAny_pure hQ
theorem letOwn {prog : Program} {w : World} {A : Around} {E : Value → Shared → Prop} {s : Shared} {I : Addr} {o : Obj} {nm : String} {target : Expr} {v : Value} {Q : Unit → Shared → Prop} (ho : s.heap.get? I = some o) (hc : o.cls = .type nm)
    (hn : ["enumerate", "zip", "dict_itemiterator", "dict_reverseitemiterator", "odict_iterator", "itertools.zip_longest", "itertools.pairwise"].contains nm = false) (hQ : Q () s) :
    wpAny (model prog w) A (letOwnedTupleGo target (.ref I) v) Q E s := by
  cases target with
  | Tuple _ _ _ => exact letOwnT ho hc hn hQ
  | List _ _ => exact letOwnT ho hc hn hQ
  | _ => exact wpAny_pure hQ

/-- an iterator that the walk has made, and what it will give -/
structure It (C : Cfg) (A : Around) (bad : List Addr) (s s' : Shared) (I : Addr) (ds : List D) (fp : List Addr) (P : Nat → Value → Prop) (St : Nat → Heap → Prop) : Prop where
  kp : Kp s s'
  new : s.heap.get? I = none
  liv : (s'.heap.get? I).isSome = true
  wk : Walks C.prog C.w A I fp [I] ds.length P St
  st : St 0 s'.heap
  alive : ∀ i h, St i h → (h.get? I).isSome = true
  fps : ∀ b ∈ fp, b = I ∨ (b ∉ bad ∧ (s'.heap.get? b).isSome = true)
  dat : ∀ i v, P i v → ∃ d, ds[i]? = some d ∧ DIn C bad s.heap v d
  own : ∀ i (t : Shared) (target : Expr) (v : Value) (Q : Unit → Shared → Prop) (E : Value → Shared → Prop), St i t.heap → Q () t → wpAny (model C.prog C.w) A (letOwnedTupleGo target (.ref I) v) Q E t

noncomputable def ITER (C : Cfg) (n : Nat) (d : D) (ds : List D) : Prop :=
  ∀ (A : Around) (s : Shared) (bad : List Addr) (v : Value) (Q : Value → Shared → Prop) (E : Value → Shared → Prop), Wd C n A bad s.heap → DIn C bad s.heap v d →
    (∀ I s' fp P St, It C A bad s s' I ds fp P St → Q (.ref I) s') → wpAny (model C.prog C.w) A (pyIter v) Q E s

section
variable {C : Cfg} {n : Nat} {A : Around} {bad : List Addr} {s : Shared}

theorem held_fp (W : Wd C n A bad s.heap) : ∀ b ∈ heldAddrs A, b ∉ bad ∧ (s.heap.get? b).isSome = true := by
  intro b hb
  unfold heldAddrs at hb
  rcases W.held with e | ⟨a, o, vs, e, hbad, ho, _⟩
  · rw [e] at hb; cases hb
  · rw [e] at hb
    rcases List.mem_cons.mp hb with q | q
    · rw [q]; exact ⟨hbad, by rw [ho]; rfl⟩
    · cases q

theorem heldNe {h : Heap} {I : Addr} {o : Obj} {vs : Array Value} (hh : HeldAt A h) (ho : h.get? I = some o) (hd : o.data = .fields vs) (h2 : vs[2]? ≠ some .none) : ∀ a, A.handled = some (.ref a) → a ≠ I := by
  intro a ha q
  rcases hh with e | ⟨b, o', vs', e, ho', hd', h2'⟩
  · rw [e] at ha; cases ha
  · rw [e] at ha; cases ha
    rw [q, ho] at ho'; cases ho'
    rw [hd] at hd'; cases hd'
    exact h2 h2'
theorem heldMem {a : Addr} (h : a ∈ heldAddrs A) : A.handled = some (.ref a) := by
  unfold heldAddrs at h
  split at h
  · rename_i b e
    rcases List.mem_cons.mp h with q | q
    · rw [q]; exact e
    · cases q
  · cases h

theorem ITER.list {ds : List D} : ITER C n (.list ds) ds := by
  intro A s bad v Q E W i K
  obtain ⟨a, vs, k, rfl, hb, ho, r⟩ := i.lstInv
  have hl : s.heap.IsList a vs.toArray := ⟨_, ho, rfl, _, rfl⟩
  refine wpAny_pyIter_list hl ?_
  have hne : a ≠ s.heap.objs.size := fun q => by have := Heap.lt_size ho; rw [q] at this; exact Nat.lt_irrefl _ this
  have hit0 : (s.heap.push { cls := .type "list_iterator", data := .fields #[.ref a, .int 0 0] }).IsListIter s.heap.objs.size a 0 := ⟨_, Heap.get?_push_size _ rfl, rfl, rfl⟩
  have nohold : ∀ (h : Heap) (i : Nat), HeldAt A h → h.IsListIter s.heap.objs.size a i → ∀ b, A.handled = some (.ref b) → b ≠ s.heap.objs.size := fun h i hh ⟨o, ho', _, hd⟩ => heldNe hh ho' hd (by simp)
  refine K s.heap.objs.size _ (s.heap.objs.size :: a :: heldAddrs A) (fun i v => vs[i]? = some v)
    (fun i h => (h.IsListIter s.heap.objs.size a i ∧ h.IsList a vs.toArray) ∧ HeldAt A h) ⟨Kp.push _, get_fresh, by rw [Heap.get?_push_size _ rfl]; rfl, ?_, ?_, ?_, ?_, ?_, ?_⟩
  · rw [← r.length]
    refine ⟨fun b hb => by simp at hb; simp [hb], fun i h h' st hk => ?_, fun i s₁ Q E hi st hQ => ?_, fun s₁ Q E st hQ => ?_, fun i s₁ Q E st hQ => wpAny_pyIter_listiter st.1.1 hQ⟩
    · obtain ⟨⟨⟨o1, h1, r1⟩, ⟨o2, h2, r2⟩⟩, hh⟩ := st
      exact ⟨⟨⟨o1, hk _ (by simp) _ h1, r1⟩, ⟨o2, hk _ (by simp) _ h2, r2⟩⟩, hh.keeps fun b hb o e => hk b (by simp [hb]) o e⟩
    · refine wpAny_pyNext_list_item st.1.1 st.1.2 (x := vs[i]) (by simp [hi]) fun h' hit' hs' => ?_
      refine hQ _ h' s₁.toks (by simp [hi]) ⟨⟨hit', st.1.2.extBut hs'.extBut hne⟩, st.2.keeps fun b hb o e => hs'.extBut b o (nohold _ _ st.2 st.1.1 b (heldMem hb)) e⟩ fun b o hb e => hs'.extBut b o (fun h => hb (by simp [h])) e
    · exact list_end st.2 st.1.1 st.1.2 (by simp) (nohold _ _ st.2 st.1.1) fun h' he' => hQ h' s₁.toks fun b o hb e => he' b o (fun h => hb (by simp [h])) e
  · exact ⟨⟨hit0, hl.push _⟩, W.held.at.keeps fun b _ o e => Heap.get?_push_of_some _ e⟩
  · intro i h st
    obtain ⟨⟨⟨o, ho', _⟩, _⟩, _⟩ := st
    rw [ho']; rfl
  · intro b hb
    rcases List.mem_cons.mp hb with q | q
    · exact .inl q
    · right
      rcases List.mem_cons.mp q with q | q
      · rw [q]; exact ⟨‹_›, by rw [Heap.get?_push_of_some _ ho]; rfl⟩
      · obtain ⟨h1, h2⟩ := held_fp W b q
        obtain ⟨o, e⟩ := Option.isSome_iff_exists.mp h2
        exact ⟨h1, by rw [Heap.get?_push_of_some _ e]; rfl⟩
  · intro i v hv
    obtain ⟨d, hd, hi⟩ := r.get' hv
    exact ⟨d, hd, hi⟩
  · intro i t target v Q E st hQ
    obtain ⟨⟨⟨o, ho', hc, _⟩, _⟩, _⟩ := st
    exact letOwn ho' hc (by decide) hQ

theorem ITER.tuple {ds : List D} : ITER C n (.tuple ds) ds := by
  intro A s bad v Q E W i K
  obtain ⟨a, vs, k, rfl, hb, ho, r⟩ := i.tupInv
  have hl : s.heap.IsTuple a vs.toArray := ⟨_, ho, rfl, _, rfl⟩
  refine wpAny_pyIter_tuple hl ?_
  have hne : a ≠ s.heap.objs.size := fun q => by have := Heap.lt_size ho; rw [q] at this; exact Nat.lt_irrefl _ this
  have hit0 : (s.heap.push { cls := .type "tuple_iterator", data := .fields #[.ref a, .int 0 0] }).IsTupleIter s.heap.objs.size a 0 := ⟨_, Heap.get?_push_size _ rfl, rfl, rfl⟩
  have nohold : ∀ (h : Heap) (i : Nat), HeldAt A h → h.IsTupleIter s.heap.objs.size a i → ∀ b, A.handled = some (.ref b) → b ≠ s.heap.objs.size := fun h i hh ⟨o, ho', _, hd⟩ => heldNe hh ho' hd (by simp)
  refine K s.heap.objs.size _ (s.heap.objs.size :: a :: heldAddrs A) (fun i v => vs[i]? = some v)
    (fun i h => (h.IsTupleIter s.heap.objs.size a i ∧ h.IsTuple a vs.toArray) ∧ HeldAt A h) ⟨Kp.push _, get_fresh, by rw [Heap.get?_push_size _ rfl]; rfl, ?_, ?_, ?_, ?_, ?_, ?_⟩
  · rw [← r.length]
    refine ⟨fun b hb => by simp at hb; simp [hb], fun i h h' st hk => ?_, fun i s₁ Q E hi st hQ => ?_, fun s₁ Q E st hQ => ?_, fun i s₁ Q E st hQ => wpAny_pyIter_tupleiter st.1.1 hQ⟩
    · obtain ⟨⟨⟨o1, h1, r1⟩, ⟨o2, h2, r2⟩⟩, hh⟩ := st
      exact ⟨⟨⟨o1, hk _ (by simp) _ h1, r1⟩, ⟨o2, hk _ (by simp) _ h2, r2⟩⟩, hh.keeps fun b hb o e => hk b (by simp [hb]) o e⟩
    · refine wpAny_pyNext_tuple_item st.1.1 st.1.2 (x := vs[i]) (by simp [hi]) fun h' hit' hs' => ?_
      refine hQ _ h' s₁.toks (by simp [hi]) ⟨⟨hit', st.1.2.extBut hs'.extBut hne⟩, st.2.keeps fun b hb o e => hs'.extBut b o (nohold _ _ st.2 st.1.1 b (heldMem hb)) e⟩ fun b o hb e => hs'.extBut b o (fun h => hb (by simp [h])) e
    · exact tuple_end st.2 st.1.1 st.1.2 (by simp) (nohold _ _ st.2 st.1.1) fun h' he' => hQ h' s₁.toks fun b o hb e => he' b o (fun h => hb (by simp [h])) e
  · exact ⟨⟨hit0, hl.push _⟩, W.held.at.keeps fun b _ o e => Heap.get?_push_of_some _ e⟩
  · intro i h st
    obtain ⟨⟨⟨o, ho', _⟩, _⟩, _⟩ := st
    rw [ho']; rfl
  · intro b hb
    rcases List.mem_cons.mp hb with q | q
    · exact .inl q
    · right
      rcases List.mem_cons.mp q with q | q
      · rw [q]; exact ⟨‹_›, by rw [Heap.get?_push_of_some _ ho]; rfl⟩
      · obtain ⟨h1, h2⟩ := held_fp W b q
        obtain ⟨o, e⟩ := Option.isSome_iff_exists.mp h2
        exact ⟨h1, by rw [Heap.get?_push_of_some _ e]; rfl⟩
  · intro i v hv
    obtain ⟨d, hd, hi⟩ := r.get' hv
    exact ⟨d, hd, hi⟩
  · intro i t target v Q E st hQ
    obtain ⟨⟨⟨o, ho', hc, _⟩, _⟩, _⟩ := st
    exact letOwn ho' hc (by decide) hQ

/-- a text's signs -/
theorem ITER.str {l : List Nat} (hl : ∀ c ∈ l, c < 128) : ITER C n (.str l) (l.map fun c => .str [c]) := by
  intro A s bad v Q E W i K
  obtain ⟨t, rfl⟩ := i.strInv
  refine wpAny_pyIter_ascii (by simpa using hl) ?_
  have hit0 : (s.heap.push { cls := .type "str_ascii_iterator", data := .fields #[.str (T l) t, .int 0 0] }).IsStrIter s.heap.objs.size "str_ascii_iterator" (T l) t 0 := ⟨_, Heap.get?_push_size _ rfl, rfl, rfl⟩
  have nohold : ∀ (h : Heap) (i : Nat), HeldAt A h → h.IsStrIter s.heap.objs.size "str_ascii_iterator" (T l) t i → ∀ b, A.handled = some (.ref b) → b ≠ s.heap.objs.size := fun h i hh ⟨o, ho', _, hd⟩ => heldNe hh ho' hd (by simp)
  refine K s.heap.objs.size _ (s.heap.objs.size :: heldAddrs A) (SignAt (T l))
    (fun i h => h.IsStrIter s.heap.objs.size "str_ascii_iterator" (T l) t i ∧ HeldAt A h) ⟨Kp.push _, get_fresh, by rw [Heap.get?_push_size _ rfl]; rfl, ?_, ?_, ?_, ?_, ?_, ?_⟩
  · rw [List.length_map]
    refine ⟨fun b hb => by simp at hb; simp [hb], fun i h h' st hk => ?_, fun i s₁ Q E hi st hQ => ?_, fun s₁ Q E st hQ => ?_, fun i s₁ Q E st hQ => wpAny_pyIter_striter_ascii st.1 hQ⟩
    · obtain ⟨⟨o1, h1, r1⟩, hh⟩ := st
      exact ⟨⟨o1, hk _ (by simp) _ h1, r1⟩, hh.keeps fun b hb o e => hk b (by simp [hb]) o e⟩
    · refine wpAny_pyNext_ascii_item st.1 (c := l[i]) (by simp [hi]) fun h' hit' hs' => ?_
      refine hQ _ h' (s₁.toks + 1) ⟨_, _, by simp [hi], rfl⟩ ⟨hit', st.2.keeps fun b hb o e => hs'.extBut b o (nohold _ _ st.2 st.1 b (heldMem hb)) e⟩ fun b o hb e => hs'.extBut b o (fun h => hb (by simp [h])) e
    · exact str_end st.2 st.1 (by simp) (nohold _ _ st.2 st.1) fun h' he' => hQ h' s₁.toks fun b o hb e => he' b o (fun h => hb (by simp [h])) e
  · exact ⟨hit0, W.held.at.keeps fun b _ o e => Heap.get?_push_of_some _ e⟩
  · intro i h st
    obtain ⟨⟨o, ho', _⟩, _⟩ := st
    rw [ho']; rfl
  · intro b hb
    rcases List.mem_cons.mp hb with q | q
    · exact .inl q
    · right
      obtain ⟨h1, h2⟩ := held_fp W b q
      obtain ⟨o, e⟩ := Option.isSome_iff_exists.mp h2
      exact ⟨h1, by rw [Heap.get?_push_of_some _ e]; rfl⟩
  · intro i v hv
    obtain ⟨c, u, hc, rfl⟩ := hv
    refine ⟨.str [c], ?_, .str [c] u⟩
    simp only [List.getElem?_map]
    have : l[i]? = some c := by simpa using hc
    rw [this]; rfl
  · intro i t target v Q E st hQ
    obtain ⟨⟨o, ho', hc, _⟩, _⟩ := st
    exact letOwn ho' hc (by decide) hQ
end
end Mine

-- Kit11
namespace Mine

/-- what a loop's head gives, item by item -/
structure EI (C : Cfg) (n : Nat) (sc : Scope) (Γ : Gm) (e : Expr) (ds : List D) : Prop where
  run : ∀ (A : Around) (s : Shared) (r : Rt) (bad : List Addr) (Q : Value → Shared → Prop) (E : Value → Shared → Prop), Wd C n A bad s.heap → GOk C sc r bad s.heap Γ →
    (∀ I s₀ s' fp P St, Kp s s₀ → It C A bad s₀ s' I ds fp P St → Q (.ref I) s') → wpAny (model C.prog C.w) A (eval e (En sc r)) (fun x s₁ => wpAny (model C.prog C.w) A (pyIter x) Q E s₁) E s

section
variable {C : Cfg} {n : Nat} {sc : Scope} {Γ Γ' : Gm} {O O' : Own} {r : Rt} {bc mu mu' : List Addr} {h h' : Heap} {s s' s'' : Shared}

theorem EI.of {e : Expr} {d : D} {ds : List D} (h : EV C n sc Γ e d) (i : ITER C n d ds) : EI C n sc Γ e ds := by
  refine ⟨fun A s r bad Q E W G K => ?_⟩
  refine h.run A s r bad _ E W G fun v s₁ k₁ i₁ => ?_
  exact i A s₁ bad v Q E (W.keeps k₁.heap) i₁ fun I s' fp P St it => K I s₁ s' fp P St k₁ it

/-- the for's turns -/
inductive FL (C : Cfg) (n : Nat) (sc : Scope) (x : Str) (body : List Stmt) : List D → Gm → Own → Out → Prop
  | done {Γ : Gm} {O : Own} : FL C n sc x body [] Γ O (.next Γ O)
  | next {d : D} {ds : List D} {Γ Γ₁ : Gm} {O O₁ : Own} {out : Out} : EX C n sc ((x, d) :: Γ) O body (.next Γ₁ O₁) → O.name? ≠ some x → FL C n sc x body ds Γ₁ O₁ out → FL C n sc x body (d :: ds) Γ O out
  | cont {d : D} {ds : List D} {Γ Γ₁ : Gm} {O O₁ : Own} {out : Out} : EX C n sc ((x, d) :: Γ) O body (.cont Γ₁ O₁) → O.name? ≠ some x → FL C n sc x body ds Γ₁ O₁ out → FL C n sc x body (d :: ds) Γ O out
  | ret {d d' : D} {ds : List D} {Γ : Gm} {O : Own} : EX C n sc ((x, d) :: Γ) O body (.ret d') → O.name? ≠ some x → FL C n sc x body (d :: ds) Γ O (.ret d')

/-- what the turns say of a list of items -/
noncomputable def FLv (C : Cfg) (n : Nat) (sc : Scope) (x : Str) (body : List Stmt) (Γ : Gm) (O : Own) (out : Out) : List D → Prop
  | [] => out = .next Γ O
  | d :: ds => O.name? ≠ some x ∧ ((∃ Γ₁ O₁, EX C n sc ((x, d) :: Γ) O body (.next Γ₁ O₁) ∧ FL C n sc x body ds Γ₁ O₁ out) ∨ (∃ Γ₁ O₁, EX C n sc ((x, d) :: Γ) O body (.cont Γ₁ O₁) ∧ FL C n sc x body ds Γ₁ O₁ out) ∨ ∃ d', out = .ret d' ∧ EX C n sc ((x, d) :: Γ) O body (.ret d'))
theorem FL.inv {x : Str} {body : List Stmt} {ds : List D} {out : Out} (f : FL C n sc x body ds Γ O out) : FLv C n sc x body Γ O out ds := by
  cases f with
  | done => rfl
  | next a b c => exact ⟨b, .inl ⟨_, _, a, c⟩⟩
  | cont a b c => exact ⟨b, .inr (.inl ⟨_, _, a, c⟩)⟩
  | ret a b => exact ⟨b, .inr (.inr ⟨_, rfl, a⟩)⟩

theorem inMore {mu bc : List Addr} {b : Addr} (hb : h.get? b = none) : ∀ a, a ∈ mu ++ b :: bc → a ∈ mu ++ bc ∨ h.get? a = none := fun a ha => by
  rcases List.mem_append.mp ha with q | q
  · exact .inl (List.mem_append_left _ q)
  · rcases List.mem_cons.mp q with q | q
    · exact .inr (q ▸ hb)
    · exact .inl (List.mem_append_right _ q)
theorem inLess {mu bc : List Addr} {b : Addr} : ∀ a, a ∈ mu ++ bc → a ∈ mu ++ b :: bc := fun a ha => by
  rcases List.mem_append.mp ha with q | q
  · exact List.mem_append_left _ q
  · exact List.mem_append_right _ (List.mem_cons_of_mem _ q)
theorem inHere {mu bc : List Addr} {b : Addr} : b ∈ mu ++ b :: bc := List.mem_append_right _ List.mem_cons_self
theorem FOk.bcMore {b : Addr} (F : FOk C sc r bc mu h Γ O) (hb : h.get? b = none) (hk : ∀ a o, h.get? a = some o → h'.get? a = some o) : FOk C sc r (b :: bc) mu h' Γ O := by
  have F' := F.keeps hk
  refine ⟨F'.ns, F.lmut, F'.cell, F.has, F.apart, F.nol, F'.cliv, F'.live, fun a ha q => ?_, fun y d e => ?_, F.own.gen (fun _ _ y => y.keeps hk) (fun a _ o e => hk a o e) fun _ _ x => (x.more (inMore hb)).mono fun a o _ e => hk a o e⟩
  · rcases List.mem_cons.mp q with q | q
    · exact noLive (q ▸ hb) (F.live a ha)
    · exact F.disj a ha q
  · obtain ⟨v, hv, hd⟩ := F.go y d e
    exact ⟨v, hv.keeps hk, (hd.more (inMore hb)).mono fun a o _ e => hk a o e⟩

theorem FOk.bcLess {b : Addr} (F : FOk C sc r (b :: bc) mu h Γ O) : FOk C sc r bc mu h Γ O := by
  refine ⟨F.ns, F.lmut, F.cell, F.has, F.apart, F.nol, F.cliv, F.live, fun a ha q => F.disj a ha (List.mem_cons_of_mem _ q), fun y d e => ?_, F.own.gen (fun _ _ y => y) (fun _ _ _ e => e) fun _ _ x => x.less inLess⟩
  obtain ⟨v, hv, hd⟩ := F.go y d e
  exact ⟨v, hv, hd.less inLess⟩

theorem Wd.bcMore {A : Around} {b : Addr} (W : Wd C n A (mu ++ bc) h) (hb : h.get? b = none) (hk : ∀ a o, h.get? a = some o → h'.get? a = some o) (hl : (h'.get? b).isSome = true) : Wd C n A (mu ++ b :: bc) h' := by
  have W' := W.keeps hk
  refine ⟨W.depth, W.units, W.top, W'.base, W.held.imp id fun ⟨a, o, vs, y⟩ => ⟨a, o, vs, { y with nb := fun q => (inMore hb a q).elim y.nb fun z => noSome z y.lies, lies := hk a o y.lies }⟩, W.quiet, fun a ha => ?_, fun a ha => ?_⟩
  · rcases List.mem_append.mp ha with q | q
    · exact W'.live a (List.mem_append_left _ q)
    · rcases List.mem_cons.mp q with q | q
      · exact q ▸ hl
      · exact W'.live a (List.mem_append_right _ q)
  · rcases List.mem_append.mp ha with q | q
    · exact W.apart a (List.mem_append_left _ q)
    · rcases List.mem_cons.mp q with q | q
      · exact q ▸ noneBack (W.base b) hb
      · exact W.apart a (List.mem_append_right _ q)

theorem FOk.iter {I : Addr} (F : FOk C sc r (I :: bc) mu h Γ O) (hI : ∀ y c, r.cs.lookup y = some c → c ≠ I) (hk : ∀ b o, b ≠ I → h.get? b = some o → h'.get? b = some o) : FOk C sc r (I :: bc) mu h' Γ O := by
  have hnI : ∀ a ∈ mu, a ≠ I := fun a ha q => F.disj a ha (q ▸ List.mem_cons_self)
  have hkb : ∀ a o, a ∉ mu ++ I :: bc → h.get? a = some o → h'.get? a = some o := fun a o ha e => hk a o (fun q => ha (q ▸ inHere)) e
  have hvar : ∀ x v, VarAt sc r h x v → VarAt sc r h' x v := fun _ _ y => y.imp
    (fun ⟨a, m, hn, e⟩ => ⟨a, m, hn.at' fun o q => hk _ o (hnI _ F.lmut) q, e⟩) fun ⟨a, c, e, o, ho, hd⟩ => ⟨a, c, e, o, hk _ o (hI _ c e) ho, hd⟩
  refine ⟨F.ns.imp fun m hm => hm.at' fun o q => hk _ o (hnI _ F.lmut) q, F.lmut, fun y c h1 h2 => ?_, F.has, F.apart, F.nol, fun y c e => liveUp (fun o => hk c o (hI y c e)) (F.cliv y c e), fun a ha => liveUp (fun o => hk a o (hnI a ha)) (F.live a ha), F.disj, fun y d e => ?_, F.own.gen hvar (fun a ha o e => hk a o (hnI a ha) e) fun _ _ x => x.mono hkb⟩
  · obtain ⟨q1, q2, v, o, ho, hd⟩ := F.cell y c h1 h2
    exact ⟨q1, q2, v, o, hk _ o (hI y c h1) ho, hd⟩
  · obtain ⟨v, hv, hd⟩ := F.go y d e
    exact ⟨v, hvar _ _ hv, hd.mono hkb⟩

theorem Wd.iter {A : Around} {I : Addr} {bad : List Addr} (W : Wd C n A bad h) (hIb : I ∈ bad) (hk : ∀ b o, b ≠ I → h.get? b = some o → h'.get? b = some o) (hl : (h'.get? I).isSome = true) : Wd C n A bad h' := by
  refine ⟨W.depth, W.units, W.top, fun a o e => hk a o (fun q => noSome (W.apart I hIb) (q ▸ e)) (W.base a o e), W.held.keeps fun b o hb e => hk b o (fun q => hb (q ▸ hIb)) e, W.quiet, fun a ha => ?_, W.apart⟩
  by_cases q : a = I
  · exact q ▸ hl
  · exact liveUp (fun o => hk a o q) (W.live a ha)

/-- between two turns of a for -/
structure ForIs (C : Cfg) (n : Nat) (sc : Scope) (x : Str) (body : List Stmt) (ds : List D) (out : Out) (A : Around) (r : Rt) (bc mu : List Addr) (I : Addr) (St : Nat → Heap → Prop) (s' : Shared) (k : Nat) (s₁ : Shared) (i : Nat) (Γ₁ : Gm) (O₁ : Own) (mu₁ : List Addr) : Prop where
  num : k = ds.length + 1 - i
  fl : FL C n sc x body (ds.drop i) Γ₁ O₁ out
  st : St i s₁.heap
  F : FOk C sc r (I :: bc) mu₁ s₁.heap Γ₁ O₁
  step : Step (I :: mu) s' s₁
  hm : ∀ a ∈ mu₁, a ∈ mu ∨ s'.heap.get? a = none
  le : i ≤ ds.length
  W : Wd C n A (mu₁ ++ I :: bc) s₁.heap
/-- from the loop's start to the state before it -/
theorem Step.fromLoop {I : Addr} {s₂ : Shared} (kk : Kp s s') (hIs : s.heap.get? I = Option.none) (st : Step (I :: mu) s' s₂) : Step mu s s₂ := by
  obtain ⟨h', tk, rfl, k1, l1⟩ := st
  obtain ⟨h0, tk0, rfl, k2⟩ := kk
  refine ⟨h', tk, rfl, fun a o ha e => k1 a o (fun q => ?_) (k2 a o e), fun a e => l1 a (liveUp (fun o => k2 a o) e)⟩
  rcases List.mem_cons.mp q with q | q
  · exact noSome (q ▸ hIs) e
  · exact ha q
/-- a step past the iterator's own -/
theorem Step.item {I : Addr} {s₁ : Shared} {h₂ : Heap} {tk₂ : Nat} (st : Step (I :: mu) s' s₁) (hk : ∀ b o, b ≠ I → s₁.heap.get? b = some o → h₂.get? b = some o) (hl : (h₂.get? I).isSome = true) : Step (I :: mu) s' { s₁ with heap := h₂, toks := tk₂ } := by
  obtain ⟨ha, ta, rfl, k1, l1⟩ := st
  refine ⟨h₂, tk₂, rfl, fun a o hn e => hk a o (fun q => hn (q ▸ List.mem_cons_self)) (k1 a o hn e), fun a e => ?_⟩
  by_cases q : a = I
  · exact q ▸ hl
  · exact liveUp (fun o => hk a o q) (l1 a e)
theorem drop_at {α : Type} {ds : List α} {i : Nat} {d : α} (hd : ds[i]? = some d) : ds.drop i = d :: ds.drop (i + 1) := by
  obtain ⟨hlt, e⟩ := List.getElem?_eq_some_iff.mp hd
  rw [List.drop_eq_getElem_cons hlt, e]

/-- a for over what its head gives -/
theorem ES.for {x : Str} {p pos : Pos} {iter : Expr} {body : List Stmt} {ds : List D} {out : Out} (hi : EI C n sc Γ iter ds) (hf : sc.kind = .function) (hx : sc.names.lookup x = some .local)
    (fl : FL C n sc x body ds Γ O out)
    (hs : ∀ r v, foldedSetIterable iter (En sc r) v = pure v := by intro _ _; rfl) : ES C n sc Γ O (.For (.Name x p) iter body [] pos) out := by
  refine ⟨fun A s r bc mu Q E W F P => ?_⟩
  refine wpAny_For ?_ (hs r)
  refine hi.run A s r (mu ++ bc) _ E W F.go fun I s₀ s' fp PP St k₀ it => ?_
  have hIs : s.heap.get? I = none := noneBack (fun o => k₀.heap I o) it.new
  have kk := k₀.trans it.kp
  have hIc : ∀ y c, r.cs.lookup y = some c → c ≠ I := fun y c e q => noLive (q ▸ hIs) (F.cliv y c e)
  have hIm : I ∉ mu := fun q => noLive hIs (F.live I q)
  have F0 : FOk C sc r (I :: bc) mu s'.heap Γ O := F.bcMore hIs kk.heap
  have W0 : Wd C n A (mu ++ I :: bc) s'.heap := W.bcMore hIs kk.heap it.liv
  refine codeAny_forLoop (fun k s₁ => ∃ i Γ₁ O₁ mu₁, ForIs C n sc x body ds out A r bc mu I St s' k s₁ i Γ₁ O₁ mu₁) ?_ (ds.length + 1) ⟨0, Γ, O, mu, rfl, fl, it.st, F0, .refl, fun _ q => .inl q, Nat.zero_le _, W0⟩ ?_
  · rintro k s₁ ⟨i, Γ₁, O₁, mu₁, hk, fl₁, st₁, F₁, step₁, hm₁, hile, W₁⟩
    have hImu₁ : I ∉ mu₁ := fun q => F₁.disj I q List.mem_cons_self
    have fpk : ∀ b ∈ fp, b ∉ mu₁ := fun b hb q => by
      rcases it.fps b hb with z | ⟨z1, z2⟩
      · exact hImu₁ (z ▸ q)
      · exact (hm₁ b q).elim (fun y => z1 (List.mem_append_left _ y)) fun y => noLive y z2
    rcases Nat.lt_or_ge i ds.length with hlt | hge
    · -- a turn
      refine it.wk.item i s₁ _ _ hlt st₁ fun v h₂ tk₂ hP st₂ hk₂ => ?_
      have hk₂' : ∀ b o, b ≠ I → s₁.heap.get? b = some o → h₂.get? b = some o := fun b o hb e => hk₂ b o (fun z => hb (List.mem_singleton.mp z)) e
      have F₂ : FOk C sc r (I :: bc) mu₁ h₂ Γ₁ O₁ := F₁.iter hIc hk₂'
      have W₂ : Wd C n A (mu₁ ++ I :: bc) h₂ := W₁.iter inHere hk₂' (it.alive _ _ st₂)
      obtain ⟨d, hd, hdv⟩ := it.dat i v hP
      rw [drop_at hd] at fl₁
      have hdv₂ : DIn C (mu₁ ++ I :: bc) h₂ v d := by
        refine hdv.gen rfl rfl fun a o ha e => ?_
        have hI' : a ≠ I := fun q => noSome (q ▸ it.new) e
        have e' := it.kp.heap a o e
        refine ⟨fun q => ?_, hk₂' a o hI' (step₁.heap a o (fun q => ?_) e')⟩
        · rcases List.mem_append.mp q with q | q
          · exact (hm₁ a q).elim (fun z => ha (List.mem_append_left _ z)) fun z => noSome z e'
          · exact (List.mem_cons.mp q).elim hI' fun z => ha (List.mem_append_right _ z)
        · exact (List.mem_cons.mp q).elim hI' fun z => ha (List.mem_append_left _ z)
      obtain ⟨hO₁, fl₁⟩ := fl₁.inv
      refine wpAny_assign_Name (FOk.store (s := { s₁ with heap := h₂, toks := tk₂ }) hf (.inl hx) hO₁ F₂ hdv₂ fun s₃ step₃ F₃ => ?_)
      have W₃ : Wd C n A (mu₁ ++ I :: bc) s₃.heap := Wd.step (s := { s₁ with heap := h₂, toks := tk₂ }) W₂ step₃ (fun _ q => .inl q) F₃
      have st₃ : St (i + 1) s₃.heap := it.wk.frame _ _ _ st₂ fun b hb o e => step₃.heap b o (fpk b hb) e
      have hm₁' : ∀ a ∈ mu₁, a ∈ I :: mu ∨ s'.heap.get? a = none := fun a ha => (hm₁ a ha).imp (fun q => List.mem_cons_of_mem _ q) id
      have step₃' : Step (I :: mu) s' s₃ := (step₁.item (tk₂ := tk₂) hk₂' (it.alive _ _ st₂)).trans step₃ hm₁'
      have finish : ∀ {s₄ : Shared} {mu₄ : List Addr} {Γ₄ : Gm} {O₄ : Own}, Step mu₁ s₃ s₄ → (∀ a ∈ mu₄, a ∈ mu₁ ∨ s₃.heap.get? a = none) → FOk C sc r (I :: bc) mu₄ s₄.heap Γ₄ O₄ → FL C n sc x body (ds.drop (i + 1)) Γ₄ O₄ out →
          ∃ m, m < k ∧ ∃ i Γ₁ O₁ mu₁, ForIs C n sc x body ds out A r bc mu I St s' m s₄ i Γ₁ O₁ mu₁ := by
        intro s₄ mu₄ Γ₄ O₄ step₄ hm₄ F₄ fl₄
        exact ⟨ds.length + 1 - (i + 1), by rw [hk, Nat.succ_sub (Nat.le_of_lt hlt)]; exact Nat.lt_succ_of_le (Nat.le_of_eq (Nat.succ_sub_succ _ _)), i + 1, Γ₄, O₄, mu₄, rfl, fl₄, it.wk.frame _ _ _ st₃ fun b hb o e => step₄.heap b o (fpk b hb) e, F₄, step₃'.trans step₄ hm₁',
          fun a ha => (hm₄ a ha).elim (hm₁ a) fun q => .inr (step₃'.none a q), hlt, W₃.step step₄ hm₄ F₄⟩
      rcases fl₁ with ⟨_, _, hb, fl₂⟩ | ⟨_, _, hb, fl₂⟩ | ⟨d', rfl, hb⟩
      · exact hb.run A s₃ r (I :: bc) mu₁ _ _ W₃ F₃ fun s₄ mu₄ step₄ hm₄ F₄ => finish step₄ hm₄ F₄ fl₂
      · exact hb.run A s₃ r (I :: bc) mu₁ _ _ W₃ F₃ fun s₄ mu₄ step₄ hm₄ F₄ => finish step₄ hm₄ F₄ fl₂
      · exact hb.run A s₃ r (I :: bc) mu₁ _ _ W₃ F₃ fun u s₄ step₄ i₄ => P u s₄ (Step.fromLoop kk hIs (step₃'.trans step₄ hm₁')) (i₄.less fun a ha => List.mem_cons_of_mem _ ha)
    · -- the end
      have hie : i = ds.length := Nat.le_antisymm hile hge
      subst hie
      rw [List.drop_length] at fl₁
      obtain rfl : out = .next Γ₁ O₁ := fl₁.inv
      refine it.wk.done s₁ _ _ st₁ fun h₂ tk₂ hk₂ => ?_
      have hk₂' : ∀ b o, b ≠ I → s₁.heap.get? b = some o → h₂.get? b = some o := fun b o hb e => hk₂ b o (fun z => hb (List.mem_singleton.mp z)) e
      refine wpAny_execs_nil (P _ mu₁ ?_ (fun a ha => (hm₁ a ha).imp id fun e => noneBack (fun o => kk.heap a o) e) (F₁.iter hIc hk₂').bcLess)
      obtain ⟨ha, ta, rfl, k1, l1⟩ := Step.fromLoop kk hIs step₁
      exact ⟨h₂, tk₂, rfl, fun a o hn e => hk₂' a o (fun q => noSome (q ▸ hIs) e) (k1 a o hn e), fun a e => liveUp (fun o => hk₂' a o fun q => noLive (q ▸ hIs) e) (l1 a e)⟩
  · intro v; rfl
end
end Mine

-- Kit12
namespace Mine

/-! a comprehension's own block -/
theorem newCompEnv {M : Model} {A : Around} {E : Value → Shared → Prop} {s : Shared} {scope : Scope} {globals : Addr} {cl : List (Str × Addr)} {qual : Str} {outer : Env} {Q : Env → Shared → Prop}
    (hQ : Q { scope := scope, locals := s.heap.objs.size, globals := globals, cells := cellsFrom (s.heap.objs.size + 1) scope.names cl, qual := qual, func := none, code := outer.code, frame := outer.frame, builtins := outer.builtins }
      { s with heap := pushCells (s.heap.push { cls := .type "dict", data := .dict #[] }) scope.names }) :
    wpAny M A (newFunctionEnv scope globals cl [] qual none .none (some outer)) Q E s := by
  simp only [newFunctionEnv, Option.isSome_some, if_true]
  refine wpAny_bind (wpAny_alloc ?_)
  refine wpAny_bind (wpAny_layCells _ (fun name kind cells => by cases hkc : kind == NameKind.cell <;> simp [hkc]) _ _ _ _ ?_)
  rw [show ({ s with heap := s.heap.push { cls := .type "dict", data := .dict #[] } } : Shared).heap.objs.size = s.heap.objs.size + 1 from Heap.size_push ..]
  exact wpAny_bind (wpAny_pure (wpAny_pure hQ))

theorem pushCells_size : ∀ (names : List (Str × NameKind)) (h : Heap), h.objs.size ≤ (pushCells h names).objs.size
  | [], _ => Nat.le_refl _
  | (_, kind) :: r, h => by
    unfold pushCells
    split
    · exact Nat.le_trans (by rw [Heap.size_push]; exact Nat.le_succ _) (pushCells_size r _)
    · exact pushCells_size r h

theorem cellsFrom_old : ∀ (names : List (Str × NameKind)) (k : Nat) (cl : List (Str × Addr)) (x : Str), (x, NameKind.cell) ∉ names → (cellsFrom k names cl).lookup x = cl.lookup x
  | [], _, _, _, _ => rfl
  | (y, kind) :: r, k, cl, x, h => by
    unfold cellsFrom
    split
    · rename_i hk
      have hk : kind = .cell := by simpa using hk
      subst hk
      have hxy : x ≠ y := fun e => h (by rw [e]; exact List.mem_cons_self)
      rw [cellsFrom_old r (k + 1) ((y, k) :: cl) x fun q => h (List.mem_cons_of_mem _ q), List.lookup_cons, beq_eq_false_iff_ne.mpr hxy]
    · exact cellsFrom_old r k cl x fun q => h (List.mem_cons_of_mem _ q)

/-- a cell's place is an old one, or a new and empty one -/
theorem cellsFrom_mem : ∀ (names : List (Str × NameKind)) (h : Heap) (lo : Nat) (cl : List (Str × Addr)) (old : List (Str × Addr)), lo ≤ h.objs.size → (∀ p ∈ cl, p ∈ old ∨ (lo ≤ p.2 ∧ h.IsCell p.2 none)) →
    ∀ p ∈ cellsFrom h.objs.size names cl, p ∈ old ∨ (lo ≤ p.2 ∧ (pushCells h names).IsCell p.2 none)
  | [], _, _, _, _, _, hcl, p, hp => hcl p hp
  | (y, kind) :: r, h, lo, cl, old, hlo, hcl, p, hp => by
    unfold pushCells
    unfold cellsFrom at hp
    split at hp
    · rename_i hk
      rw [if_pos hk]
      have := cellsFrom_mem r (h.push { cls := .type "cell", data := .cell none }) lo ((y, h.objs.size) :: cl) old (by rw [Heap.size_push]; omega) (fun q hq => ?_) p (by rw [Heap.size_push]; exact hp)
      · exact this
      · rcases List.mem_cons.mp hq with e | e
        · right; rw [e]; exact ⟨hlo, ⟨_, Heap.get?_push_size _ rfl, rfl⟩⟩
        · exact (hcl q e).imp id fun ⟨a, b⟩ => ⟨a, b.keeps fun b o e => Heap.get?_push_of_some _ e⟩
    · rename_i hk
      rw [if_neg hk]
      exact cellsFrom_mem r h lo cl old hlo hcl p hp

theorem cellsFrom_new : ∀ (names : List (Str × NameKind)) (k : Nat) (cl : List (Str × Addr)) (x : Str), (x, NameKind.cell) ∈ names → ∃ c, (cellsFrom k names cl).lookup x = some c ∧ k ≤ c
  | [], _, _, _, h => by cases h
  | (y, kind) :: r, k, cl, x, h => by
    unfold cellsFrom
    by_cases hr : (x, NameKind.cell) ∈ r
    · split
      · obtain ⟨c, h1, h2⟩ := cellsFrom_new r (k + 1) ((y, k) :: cl) x hr
        exact ⟨c, h1, by omega⟩
      · exact cellsFrom_new r k cl x hr
    · rcases List.mem_cons.mp h with e | e
      · cases e
        rw [if_pos (by rfl), cellsFrom_old r _ _ _ hr, List.lookup_cons, beq_self_eq_true]
        exact ⟨k, rfl, Nat.le_refl _⟩
      · exact absurd e hr

/-- the cells that a comprehension takes from around -/
noncomputable def closOf (cs : List (Str × Addr)) : List (Str × NameKind) → List (Str × Addr) → List (Str × Addr)
  | [], acc => acc
  | (x, kind) :: r, acc => if kind == .free then closOf cs r ((x, (cs.lookup x).getD 0) :: acc) else closOf cs r acc

theorem closure_go {env : Env} (f : Str × NameKind → List (Str × Addr) → Sem (ForInStep (List (Str × Addr))))
    (hf : ∀ name kind cells, f (name, kind) cells = if kind == .free then (do let a ← cellOf env name; pure (.yield ((name, a) :: cells))) else pure (.yield cells)) :
    ∀ (names : List (Str × NameKind)) (acc : List (Str × Addr)), (∀ x, (x, NameKind.free) ∈ names → (env.cells.lookup x).isSome = true) → forIn names acc f = pure (closOf env.cells names acc)
  | [], acc, _ => by rw [List.forIn_nil]; rfl
  | (x, kind) :: r, acc, h => by
    rw [List.forIn_cons, hf]
    unfold closOf
    have ih := closure_go f hf r
    by_cases hk : kind = .free
    · subst hk
      obtain ⟨c, hc⟩ := Option.isSome_iff_exists.mp (h x List.mem_cons_self)
      have e : cellOf env x = pure c := by unfold cellOf; rw [hc]
      rw [if_pos (by rfl), if_pos (by rfl), e, hc]
      exact ih _ fun y hy => h y (List.mem_cons_of_mem _ hy)
    · have hk' : ¬ ((kind == NameKind.free) = true) := by simpa using hk
      rw [if_neg hk', if_neg hk']
      exact ih _ fun y hy => h y (List.mem_cons_of_mem _ hy)

theorem closureFor_clos {scope : Scope} {env : Env} (h : ∀ x, (x, NameKind.free) ∈ scope.names → (env.cells.lookup x).isSome = true) : closureFor scope env = pure (closOf env.cells scope.names []) := by
  simp only [closureFor]
  rw [closure_go _ (fun name kind cells => by cases hk : kind == NameKind.free <;> simp [hk]) scope.names [] h]
  rfl

theorem closOf_mem : ∀ (names : List (Str × NameKind)) (cs acc : List (Str × Addr)), (∀ x, (x, NameKind.free) ∈ names → (cs.lookup x).isSome = true) → (∀ p ∈ acc, cs.lookup p.1 = some p.2) → ∀ p ∈ closOf cs names acc, cs.lookup p.1 = some p.2
  | [], _, _, _, h, p, hp => h p hp
  | (x, kind) :: r, cs, acc, hf, h, p, hp => by
    unfold closOf at hp
    split at hp
    · rename_i hk
      have hk : kind = .free := by simpa using hk
      subst hk
      refine closOf_mem r cs _ (fun y hy => hf y (List.mem_cons_of_mem _ hy)) (fun q hq => ?_) p hp
      rcases List.mem_cons.mp hq with e | e
      · rw [e]
        obtain ⟨c, hc⟩ := Option.isSome_iff_exists.mp (hf x List.mem_cons_self)
        show cs.lookup x = some ((cs.lookup x).getD 0)
        rw [hc]; rfl
      · exact h q e
    · exact closOf_mem r cs acc (fun y hy => hf y (List.mem_cons_of_mem _ hy)) h p hp

theorem closOf_name : ∀ (names : List (Str × NameKind)) (cs acc : List (Str × Addr)) (p : Str × Addr), p ∈ closOf cs names acc → p ∈ acc ∨ (p.1, NameKind.free) ∈ names
  | [], _, _, _, h => .inl h
  | (x, kind) :: r, cs, acc, p, hp => by
    unfold closOf at hp
    split at hp
    · rename_i hk
      have hk : kind = .free := by simpa using hk
      subst hk
      rcases closOf_name r cs _ p hp with q | q
      · rcases List.mem_cons.mp q with e | e
        · right; rw [e]; exact List.mem_cons_self
        · exact .inl e
      · exact .inr (List.mem_cons_of_mem _ q)
    · exact (closOf_name r cs acc p hp).imp id fun q => List.mem_cons_of_mem _ q

theorem closOf_has : ∀ (names : List (Str × NameKind)) (cs acc : List (Str × Addr)) (x : Str), ((x, NameKind.free) ∈ names ∨ (acc.lookup x).isSome = true) → ((closOf cs names acc).lookup x).isSome = true
  | [], _, _, _, h => h.elim (fun e => by cases e) id
  | (y, kind) :: r, cs, acc, x, h => by
    unfold closOf
    split
    · rename_i hk
      refine closOf_has r cs _ x ?_
      by_cases hxy : x = y
      · right; rw [hxy, List.lookup_cons, beq_self_eq_true]; rfl
      · rcases h with h | h
        · rcases List.mem_cons.mp h with e | e
          · cases e; exact absurd rfl hxy
          · exact .inl e
        · right; rw [List.lookup_cons, beq_eq_false_iff_ne.mpr hxy]; exact h
    · rename_i hk
      refine closOf_has r cs acc x ?_
      rcases h with h | h
      · rcases List.mem_cons.mp h with e | e
        · cases e; exact absurd rfl hk
        · exact .inl e
      · exact .inr h

/-- the scope a comprehension's block bears in the model -/
noncomputable def rl (scope sc : Scope) : Scope :=
  { scope with names := scope.names.map fun (n, k) => if (k == .free && sc.kind == .function && sc.names.lookup n == some .cell) then (n, .cell) else (n, k) }
theorem relabel_En (scope sc : Scope) (r : Rt) : relabel scope (En sc r) = rl scope sc := rfl

theorem rl_local {scope sc : Scope} {x : Str} (h : scope.names.lookup x = some .local) : (rl scope sc).names.lookup x = some .local := lookup_relabel_local (env := En sc ⟨0, [], Str.empty, none, .none, none⟩) h
end Mine

-- Kit13
namespace Mine

theorem lsnoc {vs : List Value} {v : Value} {k : Nat} : lobj (vs ++ [v]) k = { cls := .type "list", data := .seq (vs.toArray.push v) k } := by simp

/-- the comprehension's block: its dict, its new cells -/
structure InC (scope : Scope) (r : Rt) (ow : List Addr) (h : Heap) : Prop where
  ns : ∃ m, h.Ns r.L m
  lo : r.L ∈ ow
  cell : ∀ x, (x, NameKind.cell) ∈ scope.names → ∃ c v, r.cs.lookup x = some c ∧ c ∈ ow ∧ c ≠ r.L ∧ h.IsCell c v

theorem InC.at {scope : Scope} {r : Rt} {ow : List Addr} {h h' : Heap} (x : InC scope r ow h) (hk : ∀ a ∈ ow, ∀ o, h.get? a = some o → h'.get? a = some o) : InC scope r ow h' :=
  ⟨let ⟨m, hm⟩ := x.ns; ⟨m, hm.at' fun o e => hk _ x.lo o e⟩, x.lo, fun y hy => let ⟨c, v, h1, h2, h3, o, ho, hd⟩ := x.cell y hy; ⟨c, v, h1, h2, h3, o, hk c h2 o ho, hd⟩⟩

/-- the target of a comprehension takes an item -/
noncomputable def TG (C : Cfg) (n : Nat) (scope sc : Scope) (target : Expr) (d : D) (binds : Gm) : Prop :=
  ∀ (A : Around) (s : Shared) (r : Rt) (ow bad : List Addr) (v : Value) (Q : Unit → Shared → Prop) (E : Value → Shared → Prop),
    Wd C n A bad s.heap → InC scope r ow s.heap → (∀ a ∈ ow, a ∈ bad) → DIn C bad s.heap v d →
    (∀ s', Step ow s s' → InC scope r ow s'.heap → (∀ x d', binds.lookup x = some d' → ∃ u, VarAt sc r s'.heap x u ∧ DIn C bad s'.heap u d') → Q () s') →
    wpAny (model C.prog C.w) A (assign target (En sc r) v) Q E s

inductive IFS (C : Cfg) (n : Nat) (sc : Scope) (Γ : Gm) : List Expr → Bool → Prop
  | nil : IFS C n sc Γ [] true
  | one {e : Expr} {b : Bool} : EB C n sc Γ e b → IFS C n sc Γ [e] b

/-- the turns of a comprehension -/
inductive CL (C : Cfg) (n : Nat) (scope sc : Scope) (target : Expr) (ifs : List Expr) (elt : Expr) (Γf : Gm) : List D → List D → Prop
  | nil : CL C n scope sc target ifs elt Γf [] []
  | keep {d d' : D} {binds : Gm} {ds ds' : List D} : TG C n scope sc target d binds → IFS C n sc (binds ++ Γf) ifs true → EV C n sc (binds ++ Γf) elt d' → CL C n scope sc target ifs elt Γf ds ds' → CL C n scope sc target ifs elt Γf (d :: ds) (d' :: ds')
  | skip {d : D} {binds : Gm} {ds ds' : List D} : TG C n scope sc target d binds → IFS C n sc (binds ++ Γf) ifs false → CL C n scope sc target ifs elt Γf ds ds' → CL C n scope sc target ifs elt Γf (d :: ds) ds'

noncomputable def CLv (C : Cfg) (n : Nat) (scope sc : Scope) (target : Expr) (ifs : List Expr) (elt : Expr) (Γf : Gm) (ds' : List D) : List D → Prop
  | [] => ds' = []
  | d :: ds => ∃ binds, TG C n scope sc target d binds ∧ ((∃ d' ds'', ds' = d' :: ds'' ∧ IFS C n sc (binds ++ Γf) ifs true ∧ EV C n sc (binds ++ Γf) elt d' ∧ CL C n scope sc target ifs elt Γf ds ds'') ∨ (IFS C n sc (binds ++ Γf) ifs false ∧ CL C n scope sc target ifs elt Γf ds ds'))
theorem CL.inv {C : Cfg} {n : Nat} {scope sc : Scope} {target : Expr} {ifs : List Expr} {elt : Expr} {Γf : Gm} {ds ds' : List D} (x : CL C n scope sc target ifs elt Γf ds ds') : CLv C n scope sc target ifs elt Γf ds' ds := by
  cases x with
  | nil => rfl
  | keep a b c d => exact ⟨_, a, .inl ⟨_, _, rfl, b, c, d⟩⟩
  | skip a b c => exact ⟨_, a, .inr ⟨b, c⟩⟩
theorem IFS.run {C : Cfg} {n : Nat} {sc : Scope} {Γ : Gm} {ifs : List Expr} {b : Bool} (x : IFS C n sc Γ ifs b) (A : Around) (s : Shared) (r : Rt) (bad : List Addr) (Q : Bool → Shared → Prop) (E : Value → Shared → Prop) (W : Wd C n A bad s.heap) (G : GOk C sc r bad s.heap Γ) (K : ∀ s', Kp s s' → Q b s') :
    wpAny (model C.prog C.w) A (forIn ifs true fun c ok => if ok = true then do let ok ← isTrue c (En sc r) (eval c (En sc r)); pure (ForInStep.yield ok) else pure (ForInStep.yield ok)) Q E s := by
  cases x with
  | nil => exact wpAny_tests_nil (K s .rfl')
  | one ht => exact wpAny_tests_one (ht.run A s r _ _ E W G K)

section
variable {C : Cfg} {n : Nat} {scope sc : Scope}

theorem Step.lv {mu : List Addr} {s : Shared} {h' : Heap} {p : Addr} {tk : Nat} (hp : p ∈ mu) (hs : Heap.SameBut p s.heap h') (hl : (h'.get? p).isSome = true) : Step mu s { s with heap := h', toks := tk } :=
  ⟨h', tk, rfl, fun a o ha e => (hs.2 a (fun q => ha (q ▸ hp))).trans e, fun a e => by
    by_cases q : a = p
    · subst q; exact hl
    · rw [hs.2 a q]; exact e⟩

theorem TG.name {x : Str} {p : Pos} {d : D} (hf : sc.kind = .function) (hx : sc.names.lookup x = some .local) (_hsx : True := trivial) : TG C n scope sc (.Name x p) d [(x, d)] := by
  intro A s r ow bad v Q E W IC hob i K
  obtain ⟨m, hm⟩ := IC.ns
  refine wpAny_assign_Name (wpAny_storeName_local (env := En sc r) hx hm (fun h' hn hs => ?_) (by show (sc.kind == .class || (sc.kind == .module && _)) = false; rw [hf]; rfl))
  have hn' : h'.Ns r.L _ := hn
  have hl : (h'.get? r.L).isSome = true := by obtain ⟨o, _, _, ho, _⟩ := hn'; rw [ho]; rfl
  refine K _ (Step.lv IC.lo hs hl) ⟨⟨_, hn'⟩, IC.lo, fun y hy => ?_⟩ fun y d' e => ?_
  · obtain ⟨c, u, h1, h2, h3, h4⟩ := IC.cell y hy
    exact ⟨c, u, h1, h2, h3, h4.sameBut hs h3⟩
  · rw [List.lookup_cons] at e
    by_cases hy : y = x
    · subst hy
      rw [beq_self_eq_true] at e
      cases e
      exact ⟨v, .inl ⟨hx, _, hn', by simp⟩, i.mono fun a o ha e => (hs.2 a (fun q => ha (by rw [q]; exact hob _ IC.lo))).trans e⟩
    · rw [beq_eq_false_iff_ne.mpr hy] at e; cases e

theorem TG.cell {x : Str} {p : Pos} {d : D} (hf : sc.kind = .function) (hx : sc.names.lookup x = some .cell) (hc : (x, NameKind.cell) ∈ scope.names) (hone : ∀ y, (y, NameKind.cell) ∈ scope.names → y = x) : TG C n scope sc (.Name x p) d [(x, d)] := by
  intro A s r ow bad v Q E W IC hob i K
  obtain ⟨m, hm⟩ := IC.ns
  obtain ⟨c, u, h1, h2, h3, h4⟩ := IC.cell x hc
  refine wpAny_assign_Name (wpAny_storeName_cell (env := En sc r) hf hx h1 h4 (fun h' hc' hs => ?_))
  have hl : (h'.get? c).isSome = true := by obtain ⟨o, ho, _⟩ := hc'; rw [ho]; rfl
  refine K _ (Step.lv (tk := s.toks) h2 hs hl) ⟨⟨m, hm.sameBut hs (Ne.symm h3)⟩, IC.lo, fun y hy => ?_⟩ fun y d' e => ?_
  · have := hone y hy
    subst this
    exact ⟨c, _, h1, h2, h3, hc'⟩
  · rw [List.lookup_cons] at e
    by_cases hy : y = x
    · subst hy
      rw [beq_self_eq_true] at e
      cases e
      exact ⟨v, .inr ⟨.inl hx, c, h1, hc'⟩, i.mono fun a o ha e => (hs.2 a (fun q => ha (by rw [q]; exact hob _ h2))).trans e⟩
    · rw [beq_eq_false_iff_ne.mpr hy] at e; cases e

theorem TG.pair {x y : Str} {p p' pos : Pos} {k : Nat} {d e : D} (hq : C.q = true) (hf : sc.kind = .function) (hx : sc.names.lookup x = some .local) (hy : sc.names.lookup y = some .local) (hxy : x ≠ y) :
    TG C n scope sc (.Tuple [.Name x p, .Name y p'] k pos) (.tuple [d, e]) [(y, e), (x, d)] := by
  intro A s r ow bad v Q E W IC hob i K
  obtain ⟨a, vs, kk, rfl, hb, ho, all⟩ := i.tupInv
  obtain ⟨v1, v2, rfl, i1, i2⟩ := all.two
  refine wpAny_assign_Tuple (W.quiet hq) (items := #[v1, v2]) ⟨_, ho, rfl, _, rfl⟩ rfl rfl fun h' he => ?_
  have hk : ∀ b o, s.heap.get? b = some o → h'.get? b = some o := fun b o q => he b o (fun z => by rw [z, get_fresh] at q; cases q) q
  have hkp : Kp s { s with heap := h' } := ⟨h', s.toks, rfl, hk⟩
  show wpAny (model C.prog C.w) A (holding [v2] (assign (.Name x p) (En sc r) v1) >>= fun _ => holding [] (assign (.Name y p') (En sc r) v2) >>= fun _ => pure ()) _ _ _
  refine wpAny_bind (wpAny_holding ?_)
  refine TG.name (C := C) (n := n) (scope := scope) (d := d) hf hx trivial A { s with heap := h' } r ow bad v1 _ E (W.keeps hk) (IC.at fun b _ o e => hk b o e) hob (i1.mono fun b o _ e => hk b o e) fun s₁ st₁ IC₁ hb₁ => ?_
  refine wpAny_bind (wpAny_holding ?_)
  have W₁ : Wd C n A bad s₁.heap := by
    have W0 := W.keeps hk
    refine ⟨W0.depth, W0.units, W0.top, fun b o e => st₁.heap b o (fun q => ?_) (W0.base b o e), W0.held.keeps fun b o hbb e => st₁.heap b o (fun q => hbb (hob b q)) e, W0.quiet, fun b hbb => st₁.liv b (W0.live b hbb), W0.apart⟩
    have := W0.apart b (hob b q); rw [this] at e; cases e
  have i2' : DIn C bad s₁.heap v2 e := (i2.mono fun b o _ e => hk b o e).mono fun b o hbb e => st₁.heap b o (fun q => hbb (hob b q)) e
  obtain ⟨m, hm⟩ := IC₁.ns
  refine wpAny_assign_Name (wpAny_storeName_local (env := En sc r) hy hm (fun h₂ hn hs => ?_) (by show (sc.kind == .class || (sc.kind == .module && _)) = false; rw [hf]; rfl))
  have hn' : h₂.Ns r.L _ := hn
  have hl : (h₂.get? r.L).isSome = true := by obtain ⟨o, _, _, ho, _⟩ := hn'; rw [ho]; rfl
  have st₂ : Step ow s₁ { s₁ with heap := h₂, toks := s₁.toks + 1 } := Step.lv IC.lo hs hl
  refine wpAny_pure (K _ (((Step.of_kp hkp).trans st₁ fun _ q => .inl q).trans st₂ fun _ q => .inl q) ⟨⟨_, hn'⟩, IC.lo, fun z hz => ?_⟩ fun z d' ez => ?_)
  · obtain ⟨c, u, h1, h2, h3, h4⟩ := IC₁.cell z hz
    exact ⟨c, u, h1, h2, h3, h4.sameBut hs h3⟩
  · have same : ∀ b o, b ∉ bad → s₁.heap.get? b = some o → h₂.get? b = some o := fun b o hbb q => (hs.2 b (fun z => hbb (by rw [z]; exact hob _ IC.lo))).trans q
    rw [List.lookup_cons] at ez
    by_cases hzy : z = y
    · subst hzy
      rw [beq_self_eq_true] at ez
      cases ez
      exact ⟨v2, .inl ⟨hy, _, hn', by simp⟩, i2'.mono same⟩
    · rw [beq_eq_false_iff_ne.mpr hzy] at ez
      obtain ⟨u, hu, hd⟩ := hb₁ z d' ez
      refine ⟨u, ?_, hd.mono same⟩
      rcases hu with ⟨hl', m', hm', em⟩ | ⟨hl', c, hc, o, ho, hdd⟩
      · have := VarAt.unique_ns hm hm'
        subst this
        exact .inl ⟨hl', _, hn', by simp only [if_neg hzy]; exact em⟩
      · -- the name bound first is local
        have hzx : z = x := by
          rw [List.lookup_cons] at ez
          by_cases q : z = x
          · exact q
          · rw [beq_eq_false_iff_ne.mpr q] at ez; cases ez
        rw [hzx, hx] at hl'
        rcases hl' with q | q <;> cases q
end
end Mine

-- Kit14
namespace Mine

theorem compLoopT {prog : Program} {w : World} {A : Around} {R : Result → Shared → Prop} {s : Shared} {elt target iter : Expr} {ifs : List Expr} {scope : Scope} {pos : Pos} {it acc : Value} {env : Env} (Inv : Nat → Shared → Prop)
    (turn : ∀ n s, Inv n s → ∀ E, wpAny (model prog w) A (pyNext it) (fun r s₁ => match r with
      | none => R (.ok .next) s₁
      | some v => wpAny (model prog w) A (letOwnedTupleGo target it v) (fun _ s₁' => wpAny (model prog w) A (assign target env v) (fun _ s₂ =>
          wpAny (model prog w) A (forIn ifs true fun c r => if r = true then do let ok ← isTrue c env (eval c env); pure (ForInStep.yield ok) else pure (ForInStep.yield r)) (fun ok s₃ =>
            if ok = true then wpAny (model prog w) A (eval elt env) (fun x s₄ =>
              wpAny (model prog w) A (call (.builtin "list.append") [acc, x]) (fun _ s₅ => ∃ m, m < n ∧ Inv m s₅) E s₄) E s₃
            else ∃ m, m < n ∧ Inv m s₃) E s₂) E s₁') E s₁) E s)
    (n : Nat) (h : Inv n s) : codeAny (model prog w) A (.compLoop (.ListComp elt [⟨target, iter, ifs, 0⟩] scope pos) 0 it acc env) R s := by
  refine codeAny_loop rfl Inv (fun n s hI => ?_) n h
  show wpAny _ A ((compTurn (.ListComp elt [⟨target, iter, ifs, 0⟩] scope pos) 0 it acc env).onRaise (fun x => do noteFrame x env; theTreesLotGoes x)) _ _ s
  refine wpAny_noted ?_
  rw [compTurn_list]
  refine wpAny_bind (wpAny_standAt (wpAny_bind (wpAny_mono (turn n s hI _) (fun r s₁ h₁ => ?_) fun _ _ h' => h')))
  cases r with
  | none => exact wpAny_pure h₁
  | some v =>
    refine wpAny_bind (wpAny_mono h₁ (fun _ s₁' h₁' => ?_) fun _ _ h' => h')
    refine wpAny_bind (wpAny_mono h₁' (fun _ s₂ h₂ => wpAny_bind (wpAny_mono h₂ (fun ok s₃ h₃ => ?_) fun _ _ h' => h')) fun _ _ h' => h')
    cases ok with
    | false => exact wpAny_pure ⟨rfl, h₃⟩
    | true =>
      exact wpAny_bind (wpAny_bind (wpAny_mono h₃ (fun x s₄ h₄ => wpAny_bind (wpAny_mono h₄ (fun _ s₅ h₅ => wpAny_pure (wpAny_pure ⟨rfl, h₅⟩)) fun _ _ h' => h')) fun _ _ h' => h'))

/-- what a comprehension's block sees of the names around -/
noncomputable def Seen (scope sc : Scope) (Γ Γf : Gm) : Prop :=
  (∀ y d, Γf.lookup y = some d → Γ.lookup y = some d ∧ (y, NameKind.free) ∈ scope.names ∧ (y, NameKind.cell) ∉ scope.names ∧ (sc.names.lookup y = some .cell ∨ sc.names.lookup y = some .free) ∧
    ((rl scope sc).names.lookup y = some .cell ∨ (rl scope sc).names.lookup y = some .free)) ∧
  (∀ x, (x, NameKind.free) ∈ scope.names → ∃ d, Γ.lookup x = some d ∧ (sc.names.lookup x = some .cell ∨ sc.names.lookup x = some .free))

section
variable {C : Cfg} {n : Nat} {scope sc : Scope} {Γ Γf : Gm} {target iter elt : Expr} {ifs : List Expr} {ds ds' : List D}

theorem Wd.upTo {A : Around} {bad ow : List Addr} {s s' : Shared} (W : Wd C n A bad s.heap) (st : Step ow s s') (hob : ∀ a ∈ ow, a ∈ bad) : Wd C n A bad s'.heap :=
  ⟨W.depth, W.units, W.top, fun b o e => st.heap b o (fun q => noSome (W.apart b (hob b q)) e) (W.base b o e), W.held.keeps fun b o hb e => st.heap b o (fun q => hb (hob b q)) e, W.quiet,
    fun b hb => st.liv b (W.live b hb), W.apart⟩

theorem Wd.extra {A : Around} {bad extra : List Addr} {h h' : Heap} (W : Wd C n A bad h) (hk : ∀ a o, h.get? a = some o → h'.get? a = some o) (hn : ∀ a ∈ extra, h.get? a = none) (hl : ∀ a ∈ extra, (h'.get? a).isSome = true) :
    Wd C n A (extra ++ bad) h' :=
  have W' := W.keeps hk
  ⟨W.depth, W.units, W.top, W'.base, W.held.imp id fun ⟨a, o, vs, y⟩ => ⟨a, o, vs, { y with nb := fun q => (List.mem_append.mp q).elim (fun z => noSome (hn a z) y.lies) y.nb, lies := hk a o y.lies }⟩, W.quiet,
    fun a ha => (List.mem_append.mp ha).elim (hl a) (W'.live a), fun a ha => (List.mem_append.mp ha).elim (fun q => noneBack (W.base a) (hn a q)) (W.apart a)⟩

theorem DIn.extra {bad extra : List Addr} {h h' : Heap} {v : Value} {d : D} (i : DIn C bad h v d) (hn : ∀ a ∈ extra, h.get? a = Option.none) (hk : ∀ a o, a ∉ extra → a ∉ bad → h.get? a = some o → h'.get? a = some o) : DIn C (extra ++ bad) h' v d :=
  i.gen rfl rfl fun a o ha e => have nx : a ∉ extra := fun q => noSome (hn a q) e
    ⟨fun q => (List.mem_append.mp q).elim nx ha, hk a o nx ha e⟩

/-- the block of a comprehension, entered -/
structure CompUp (C : Cfg) (n : Nat) (A : Around) (bad : List Addr) (scope : Scope) (r : Rt) (ds : List D) (s : Shared) (I : Addr) (s₀ s' : Shared) (fp : List Addr) (PP : Nat → Value → Prop) (St : Nat → Heap → Prop) (acc : Addr) (ow : List Addr) (r' : Rt) (h4 : Heap) : Prop where
  it : It C A bad s₀ s' I ds fp PP St
  k₀ : Kp s s₀
  k4 : ∀ b o, s'.heap.get? b = some o → h4.get? b = some o
  acc4 : h4.get? acc = some (lobj [] 0)
  rL : r'.L = acc + 1
  owL : acc + 1 ∈ ow
  IC : InC scope r' ow h4
  new₀ : ∀ a ∈ I :: acc :: ow, s₀.heap.get? a = none
  W4 : Wd C n A ((I :: acc :: ow) ++ bad) h4
  nIow : I ∉ ow
  naow : acc ∉ ow
  nIa : I ≠ acc
  fpf : ∀ b ∈ fp, b ≠ acc ∧ b ∉ ow
  cells : ∀ y c, r.cs.lookup y = some c → (y, NameKind.free) ∈ scope.names → (y, NameKind.cell) ∉ scope.names → r'.cs.lookup y = some c

section
variable {A : Around} {bad : List Addr} {r : Rt} {s : Shared} {I : Addr} {s₀ s' : Shared} {fp : List Addr} {PP : Nat → Value → Prop} {St : Nat → Heap → Prop} {acc : Addr} {ow : List Addr} {r' : Rt} {h4 : Heap}
theorem CompUp.new (X : CompUp C n A bad scope r ds s I s₀ s' fp PP St acc ow r' h4) (a : Addr) (ha : a ∈ I :: acc :: ow) : s.heap.get? a = none := noneBack (X.k₀.heap a) (X.new₀ a ha)
theorem CompUp.kS (X : CompUp C n A bad scope r ds s I s₀ s' fp PP St acc ow r' h4) (b : Addr) (o : Obj) (e : s.heap.get? b = some o) : h4.get? b = some o := X.k4 b o (X.it.kp.heap b o (X.k₀.heap b o e))
theorem CompUp.acc_mem (_ : CompUp C n A bad scope r ds s I s₀ s' fp PP St acc ow r' h4) : acc ∈ I :: acc :: ow := List.mem_cons_of_mem _ List.mem_cons_self
theorem CompUp.ow_mem (_ : CompUp C n A bad scope r ds s I s₀ s' fp PP St acc ow r' h4) {a : Addr} (ha : a ∈ ow) : a ∈ I :: acc :: ow := List.mem_cons_of_mem _ (List.mem_cons_of_mem _ ha)
theorem CompUp.st4 (X : CompUp C n A bad scope r ds s I s₀ s' fp PP St acc ow r' h4) : St 0 h4 := X.it.wk.frame _ _ _ X.it.st fun b _ o e => X.k4 b o e
end

theorem lt_none {h : Heap} {a : Nat} (ha : h.objs.size ≤ a) : h.get? a = none := by
  cases q : h.get? a with
  | none => rfl
  | some o => exact absurd (Heap.lt_size q) (Nat.not_lt.mpr ha)
theorem live_lt {h : Heap} {a : Addr} (l : (h.get? a).isSome = true) : Nat.lt a h.objs.size := by
  obtain ⟨o, e⟩ := Option.isSome_iff_exists.mp l
  exact Heap.lt_size e

theorem comp_in {A : Around} {s : Shared} {r : Rt} {bad : List Addr} {E : Value → Shared → Prop} {Q : Value → Shared → Prop} {use : Option (Value → Sem Unit)} {pos p : Pos}
    (W : Wd C n A bad s.heap) (G : GOk C sc r bad s.heap Γ) (hi : EI C n sc Γ iter ds) (hf : scope.kind = .function) (hfree : ∀ x, (x, NameKind.free) ∈ scope.names → ∃ c v, r.cs.lookup x = some c ∧ s.heap.IsCell c (some v))
    (hnames : ∀ x ∈ scope.names, x.2 = .local → scope.names.lookup x.1 = some .local) (hs : ∀ v, foldedSetIterable iter (En sc r) v = pure v)
    (K : ∀ I s₀ s' fp PP St acc ow r' h4, CompUp C n A bad scope r ds s I s₀ s' fp PP St acc ow r' h4 →
      codeAny (model C.prog C.w) A (.compLoop (.ListComp elt [⟨target, iter, ifs, 0⟩] scope pos) 0 (.ref I) (.ref acc) (En (rl scope sc) r')) (compPost (model C.prog C.w) A E use Q (.ref acc) (acc + 1)) { s' with heap := h4 }) :
    wpAny (model C.prog C.w) A (comprehension (.ListComp elt [⟨target, iter, ifs, 0⟩] scope pos) scope (En sc r) p (newList []) false (eval iter (En sc r)) use) Q E s := by
  have hfr : ∀ x, (x, NameKind.free) ∈ scope.names → (r.cs.lookup x).isSome = true := fun x hx => by
    obtain ⟨c, _, hc, _⟩ := hfree x hx
    rw [hc]; rfl
  refine wpAny_comprehension_free (g := ⟨target, iter, ifs, 0⟩) (gs := []) rfl hs (closureFor_clos (env := En sc r) hfr) hf hnames ?_
  refine hi.run A s r bad _ E W G fun I s₀ s' fp PP St k₀ it => ?_
  have kk := k₀.trans it.kp
  refine wpAny_newObj_type ?_
  refine newCompEnv ?_
  dsimp only
  -- the places
  generalize hD : s'.heap.objs.size = acc
  generalize hH3 : s'.heap.push { cls := .type "list", data := .seq ([] : List Value).toArray } = h3
  have hB : h3.objs.size = acc + 1 := by rw [← hH3, Heap.size_push, hD]
  rw [hB]
  generalize hcl : closOf (En sc r).cells scope.names [] = clo
  have hclo : closOf r.cs scope.names [] = clo := hcl
  generalize hH4 : pushCells (h3.push { cls := .type "dict", data := .dict #[] }) scope.names = h4
  generalize hcs : cellsFrom (acc + 1 + 1) scope.names clo = cs
  have hsize : (h3.push { cls := .type "dict", data := .dict #[] }).objs.size = acc + 1 + 1 := by rw [Heap.size_push, hB]
  have k34 : ∀ b o, h3.get? b = some o → h4.get? b = some o := fun b o e => hH4 ▸ pushCells_keeps _ _ _ _ (Heap.get?_push_of_some _ e)
  have k4 : ∀ b o, s'.heap.get? b = some o → h4.get? b = some o := fun b o e => k34 b o (hH3 ▸ Heap.get?_push_of_some _ e)
  have hacc4 : h4.get? acc = some (lobj [] 0) := k34 _ _ (by rw [← hH3, ← hD]; exact Heap.get?_push_size _ rfl)
  have hns4 : h4.Ns (acc + 1) fun _ => none := by
    have := (Heap.Ns.new h3 (.type "dict")).keeps (h' := h4) (fun b o e => hH4 ▸ pushCells_keeps _ _ _ _ e)
    rw [hB] at this; exact this
  have hIacc : Nat.lt I acc := hD ▸ live_lt it.liv
  have hclo_mem : ∀ q ∈ clo, r.cs.lookup q.1 = some q.2 := by rw [← hclo]; exact closOf_mem scope.names r.cs [] hfr (fun _ h => by cases h)
  have holdlt : ∀ q ∈ clo, Nat.lt q.2 acc := fun q hq => by
    rcases closOf_name scope.names r.cs [] q (hclo ▸ hq) with z | z
    · cases z
    · obtain ⟨c, v, hc, o, ho, _⟩ := hfree q.1 z
      rw [Option.some.inj ((hclo_mem q hq).symm.trans hc)]
      exact hD ▸ Heap.lt_size (kk.heap _ _ ho)
  have hcsmem : ∀ q ∈ cs, q ∈ clo ∨ (Nat.le (acc + 1 + 1) q.2 ∧ h4.IsCell q.2 none) := by
    have := cellsFrom_mem scope.names (h3.push { cls := .type "dict", data := .dict #[] }) (acc + 1 + 1) clo clo (by rw [hsize]; exact Nat.le_refl _) (fun q hq => .inl hq)
    rw [hsize, hcs, hH4] at this; exact this
  generalize how' : (acc + 1) :: (cs.filter fun q => decide (acc < q.2)).map (·.2) = ow
  have how : ∀ a ∈ ow, Nat.lt acc a ∧ (h4.get? a).isSome = true := fun a ha => by
    rw [← how'] at ha
    rcases List.mem_cons.mp ha with q | q
    · rw [q]
      obtain ⟨o, _, _, ho, _⟩ := hns4
      exact ⟨Nat.lt_succ_self _, liveOf ho⟩
    · obtain ⟨c, hc, rfl⟩ := List.mem_map.mp q
      obtain ⟨hc1, hc2⟩ := List.mem_filter.mp hc
      have hlt : acc < c.2 := of_decide_eq_true hc2
      rcases hcsmem c hc1 with z | ⟨_, o, ho, _⟩
      · exact absurd (holdlt c z) (Nat.not_lt.mpr (Nat.le_of_lt hlt))
      · exact ⟨hlt, liveOf ho⟩
  have owL : (acc + 1) ∈ ow := how' ▸ List.mem_cons_self
  have below : ∀ {b : Nat}, Nat.lt b acc → b ≠ acc ∧ b ∉ ow := fun hlt => ⟨Nat.ne_of_lt hlt, fun q => Nat.lt_irrefl _ (Nat.lt_trans hlt (how _ q).1)⟩
  have new₀ : ∀ a ∈ I :: acc :: ow, s₀.heap.get? a = none := fun a ha => by
    rcases List.mem_cons.mp ha with q | q
    · exact q ▸ it.new
    · refine noneBack (it.kp.heap a) (lt_none (hD.symm ▸ ?_))
      rcases List.mem_cons.mp q with q | q
      · exact q ▸ Nat.le_refl _
      · exact Nat.le_of_lt (how a q).1
  have X : CompUp C n A bad scope r ds s I s₀ s' fp PP St acc ow ⟨acc + 1, cs, r.q, none, r.cd, r.fr⟩ h4 := by
    refine ⟨it, k₀, k4, hacc4, rfl, owL, ⟨⟨_, hns4⟩, owL, fun x hx => ?_⟩, new₀, W.extra (fun b o e => k4 b o (kk.heap b o e)) (fun a ha => noneBack (k₀.heap a) (new₀ a ha)) (fun a ha => ?_), (below hIacc).2, fun q => Nat.lt_irrefl _ (how acc q).1, (below hIacc).1, fun b hb => below ?_, fun y c hc h1 h2 => ?_⟩
    · obtain ⟨c, hc1, hc2⟩ := cellsFrom_new scope.names (acc + 1 + 1) clo x hx
      rw [hcs] at hc1
      have hlt : Nat.lt acc c := Nat.lt_of_lt_of_le (Nat.lt_succ_of_lt (Nat.lt_succ_self _)) hc2
      rcases hcsmem (x, c) (mem_of_lookup hc1) with z | ⟨_, z⟩
      · exact absurd (holdlt _ z) (Nat.not_lt.mpr (Nat.le_of_lt hlt))
      · exact ⟨c, none, hc1, how' ▸ List.mem_cons_of_mem _ (List.mem_map.mpr ⟨(x, c), List.mem_filter.mpr ⟨mem_of_lookup hc1, decide_eq_true hlt⟩, rfl⟩), fun q => Nat.lt_irrefl _ (Nat.lt_of_lt_of_le (q ▸ Nat.lt_succ_self _) hc2), z⟩
    · rcases List.mem_cons.mp ha with q | q
      · exact q ▸ liveUp (fun o => k4 I o) it.liv
      · rcases List.mem_cons.mp q with q | q
        · exact q ▸ liveOf hacc4
        · exact (how a q).2
    · rcases it.fps b hb with q | ⟨_, q⟩
      · exact q ▸ hIacc
      · exact hD ▸ live_lt q
    · show cs.lookup y = some c
      rw [← hcs, cellsFrom_old _ _ _ _ h2]
      obtain ⟨c', hc'⟩ := Option.isSome_iff_exists.mp (closOf_has scope.names r.cs [] y (.inl h1))
      rw [hclo] at hc'
      rw [hc', ← hc, hclo_mem (y, c') (mem_of_lookup hc')]
  exact codeAny_compStart_list (K _ _ _ _ _ _ _ _ _ _ X) (it.wk.self 0 _ _ _ X.st4 (K _ _ _ _ _ _ _ _ _ _ X))

/-- between two turns of a comprehension -/
structure CompIs (C : Cfg) (n : Nat) (A : Around) (bad : List Addr) (scope : Scope) (r' : Rt) (ds ds' : List D) (I acc : Addr) (ow : List Addr) (St : Nat → Heap → Prop) (CLp : List D → List D → Prop) (Stp : Shared → Prop) (k : Nat) (s₁ : Shared) (i : Nat) (done rest : List D) (ys : List Value) (kq : Nat) : Prop where
  num : k = ds.length + 1 - i
  le : i ≤ ds.length
  cl : CLp (ds.drop i) rest
  eq : ds' = done ++ rest
  st : St i s₁.heap
  lies : s₁.heap.get? acc = some (lobj ys kq)
  all : DAll C ((I :: acc :: ow) ++ bad) s₁.heap ys done
  IC : InC scope r' ow s₁.heap
  step : Stp s₁
  W : Wd C n A ((I :: acc :: ow) ++ bad) s₁.heap
  len : done.length ≤ i
noncomputable def CompInv (C : Cfg) (n : Nat) (A : Around) (bad : List Addr) (scope : Scope) (r' : Rt) (ds ds' : List D) (I acc : Addr) (ow : List Addr) (St : Nat → Heap → Prop) (CLp : List D → List D → Prop) (Stp : Shared → Prop) (k : Nat) (s₁ : Shared) : Prop :=
  ∃ i done rest ys kq, CompIs C n A bad scope r' ds ds' I acc ow St CLp Stp k s₁ i done rest ys kq
theorem turn_lt {m i k : Nat} (hk : k = m + 1 - i) (hlt : i < m) : m + 1 - (i + 1) < k := by
  rw [hk, Nat.succ_sub (Nat.le_of_lt hlt)]; exact Nat.lt_succ_of_le (Nat.le_of_eq (Nat.succ_sub_succ _ _))

/-- a turn up to the element -/
theorem comp_turn {A : Around} {s₂ : Shared} {r' : Rt} {ow bad : List Addr} {v : Value} {E' : Value → Shared → Prop} {R : Bool → Shared → Prop} {sc' : Scope} {d : D} {binds : Gm} {b : Bool} (W₂ : Wd C n A bad s₂.heap) (IC₂ : InC scope r' ow s₂.heap) (hob : ∀ a ∈ ow, a ∈ bad) (hdv : DIn C bad s₂.heap v d)
    (seen : ∀ s₃, Step ow s₂ s₃ → ∀ y d, Γf.lookup y = some d → ∃ u, VarAt sc' r' s₃.heap y u ∧ DIn C bad s₃.heap u d) (htg : TG C n scope sc' target d binds) (hifs : IFS C n sc' (binds ++ Γf) ifs b)
    (K : ∀ s₃ s₄, Kp s₃ s₄ → Step ow s₂ s₃ → InC scope r' ow s₃.heap → GOk C sc' r' bad s₄.heap (binds ++ Γf) → Wd C n A bad s₄.heap → R b s₄) :
    wpAny (model C.prog C.w) A (assign target (En sc' r') v) (fun _ s₂ => wpAny (model C.prog C.w) A (forIn ifs true fun c r => if r = true then do let ok ← isTrue c (En sc' r') (eval c (En sc' r')); pure (ForInStep.yield ok) else pure (ForInStep.yield r)) R E' s₂) E' s₂ := by
  refine htg A s₂ r' ow bad v _ E' W₂ IC₂ hob hdv fun s₃ step₃ IC₃ hb₃ => ?_
  have W₃ : Wd C n A bad s₃.heap := W₂.upTo step₃ hob
  have G₃ : GOk C sc' r' bad s₃.heap (binds ++ Γf) := fun y dy ey => by
    rw [List.lookup_append] at ey
    cases hby : binds.lookup y with
    | some d₀ => rw [hby] at ey; cases ey; exact hb₃ y _ hby
    | none => rw [hby] at ey; exact seen s₃ step₃ y dy ey
  exact hifs.run A s₃ r' _ _ E' W₃ G₃ fun s₄ k₄ => K s₃ s₄ k₄ step₃ IC₃ (G₃.keeps k₄.heap) (W₃.keeps k₄.heap)

/-- an item is drawn -/
theorem CompUp.item {A : Around} {bad : List Addr} {r : Rt} {s : Shared} {I : Addr} {s₀ s' : Shared} {fp : List Addr} {PP : Nat → Value → Prop} {St : Nat → Heap → Prop} {acc : Addr} {ow : List Addr} {r' : Rt} {h4 : Heap}
    (X : CompUp C n A bad scope r ds s I s₀ s' fp PP St acc ow r' h4) {h₁ h₂ : Heap} {i : Nat} (st₂ : St i h₂) (hk : ∀ b o, b ∉ [I] → h₁.get? b = some o → h₂.get? b = some o) {ys : List Value} {kq : Nat} {done : List D} (hacc : h₁.get? acc = some (lobj ys kq)) (all : DAll C ((I :: acc :: ow) ++ bad) h₁ ys done) (IC : InC scope r' ow h₁) (W₁ : Wd C n A ((I :: acc :: ow) ++ bad) h₁) :
    h₂.get? acc = some (lobj ys kq) ∧ DAll C ((I :: acc :: ow) ++ bad) h₂ ys done ∧ InC scope r' ow h₂ ∧ Wd C n A ((I :: acc :: ow) ++ bad) h₂ :=
  have hk' : ∀ b o, b ≠ I → h₁.get? b = some o → h₂.get? b = some o := fun b o hb e => hk b o (fun z => hb (List.mem_singleton.mp z)) e
  ⟨hk' _ _ (Ne.symm X.nIa) hacc, all.mono fun a o ha e => hk' a o (fun q => ha (q ▸ List.mem_append_left _ List.mem_cons_self)) e, IC.at fun a ha o e => hk' a o (fun q => X.nIow (q ▸ ha)) e, W₁.iter (List.mem_append_left _ List.mem_cons_self) hk' (X.it.alive _ _ st₂)⟩

theorem comp_core {A : Around} {s : Shared} {r : Rt} {bad : List Addr} {E : Value → Shared → Prop} {Q : Value → Shared → Prop} {use : Option (Value → Sem Unit)} {pos p : Pos}
    (W : Wd C n A bad s.heap) (G : GOk C sc r bad s.heap Γ) (hi : EI C n sc Γ iter ds) (cl : CL C n scope (rl scope sc) target ifs elt Γf ds ds') (hf : scope.kind = .function) (see : Seen scope sc Γ Γf) (hsz : ds.length ≤ 10000000)
    (hnames : ∀ x ∈ scope.names, x.2 = .local → scope.names.lookup x.1 = some .local) (hs : ∀ v, foldedSetIterable iter (En sc r) v = pure v)
    (hpost : ∀ (acc blk : Addr) (s₅ : Shared) (ys : List Value) (k : Nat), Kp s s₅ → s.heap.get? acc = none → s.heap.get? blk = none → acc ≠ blk → (∃ m, s₅.heap.Ns blk m) → s₅.heap.get? acc = some (lobj ys k) → DAll C (acc :: blk :: bad) s₅.heap ys ds' →
      compPost (model C.prog C.w) A E use Q (.ref acc) blk (.ok .next) s₅) :
    wpAny (model C.prog C.w) A (comprehension (.ListComp elt [⟨target, iter, ifs, 0⟩] scope pos) scope (En sc r) p (newList []) false (eval iter (En sc r)) use) Q E s := by
  refine comp_in W G hi hf (fun x hx => ?_) hnames hs fun I s₀ s' fp PP St acc ow r' h4 X => ?_
  · obtain ⟨d, hd, hk⟩ := see.2 x hx
    obtain ⟨v, ⟨hl, _⟩ | ⟨_, c, hc, hcell⟩, _⟩ := G x d hd
    · rw [hl] at hk; rcases hk with q | q <;> cases q
    · exact ⟨c, v, hc, hcell⟩
  -- the names around, seen from the block
  have seenOk : ∀ (h : Heap), (∀ b o, b ∉ I :: acc :: ow → h4.get? b = some o → h.get? b = some o) → ∀ y d, Γf.lookup y = some d → ∃ u, VarAt (rl scope sc) r' h y u ∧ DIn C ((I :: acc :: ow) ++ bad) h u d := fun h hk y d e => by
    obtain ⟨e1, e2, e3, e4, e5⟩ := see.1 y d e
    obtain ⟨v, ⟨hl, _⟩ | ⟨_, c, hc, o, ho, hod⟩, hd⟩ := G y d e1
    · rw [hl] at e4; rcases e4 with q | q <;> cases q
    · exact ⟨v, .inr ⟨e5, c, X.cells y c hc e2 e3, o, hk c o (fun z => noSome (X.new c z) ho) (X.kS c o ho), hod⟩, hd.extra X.new fun a o' ha _ q => hk a o' ha (X.kS a o' q)⟩
  have owbad : ∀ a ∈ ow, a ∈ (I :: acc :: ow) ++ bad := fun a ha => List.mem_append_left _ (X.ow_mem ha)
  refine compLoopT (CompInv C n A bad scope r' ds ds' I acc ow St (CL C n scope (rl scope sc) target ifs elt Γf) (Step (I :: acc :: ow) { s' with heap := h4 })) ?_ (ds.length + 1)
    ⟨0, [], ds', [], 0, rfl, Nat.zero_le _, cl, rfl, X.st4, X.acc4, .nil, X.IC, .refl, X.W4, Nat.le_refl _⟩
  rintro k s₁ ⟨i, done, rest, ys, kq, hk, hile, cl₁, hds', st₁, hacc₁, hall₁, IC₁, step₁, W₁, hdl⟩ E'
  rcases Nat.lt_or_ge i ds.length with hlt | hge
  · refine X.it.wk.item i s₁ _ _ hlt st₁ fun v h₂ tk₂ hP st₂ hk₂ => ?_
    obtain ⟨hacc₂, all₂, IC₂, W₂⟩ := X.item st₂ hk₂ hacc₁ hall₁ IC₁ W₁
    have step₂ : Step (I :: acc :: ow) { s' with heap := h4 } { s₁ with heap := h₂, toks := tk₂ } := Step.item step₁ (fun b o hb e => hk₂ b o (fun z => hb (List.mem_singleton.mp z)) e) (X.it.alive _ _ st₂)
    obtain ⟨d, hd, hdv⟩ := X.it.dat i v hP
    rw [drop_at hd] at cl₁
    have hdv₂ : DIn C ((I :: acc :: ow) ++ bad) h₂ v d := hdv.extra X.new₀ fun a o ha _ e => step₂.heap a o ha (X.k4 a o (X.it.kp.heap a o e))
    refine X.it.own (i + 1) { s₁ with heap := h₂, toks := tk₂ } target v _ _ st₂ ?_
    obtain ⟨binds, htg, ⟨d', ds₂', rfl, hifs, hev, cl₂⟩ | ⟨hifs, cl₂⟩⟩ := cl₁.inv
    · refine comp_turn (s₂ := { s₁ with heap := h₂, toks := tk₂ }) W₂ IC₂ owbad hdv₂ (fun s₃ step₃ => seenOk s₃.heap fun b o hb e => step₃.heap b o (fun q => hb (X.ow_mem q)) (step₂.heap b o hb e)) htg hifs fun s₃ s₄ k₄ step₃ IC₃ G₄ W₄ => ?_
      rw [if_pos rfl]
      refine hev.run A s₄ r' _ _ E' W₄ G₄ fun u s₅ k₅ i₅ => ?_
      have k35 := k₄.trans k₅
      have all₅ : DAll C ((I :: acc :: ow) ++ bad) s₅.heap ys done := all₂.mono fun a o ha e => k35.heap a o (step₃.heap a o (fun q => ha (owbad a q)) e)
      refine wpAny_list_append_plain (l := acc) (items := ys.toArray) ⟨kq, k35.heap _ _ (step₃.heap _ _ X.naow hacc₂)⟩ (fun h₆ hl₆ hs₆ => ?_) (by rw [List.size_toArray, all₂.length, sizeLine_eq]; exact Nat.le_trans (Nat.le_trans hdl (Nat.le_trans hile hsz)) (show 10000000 ≤ 16777216 by decide))
      obtain ⟨kq', hl₆⟩ := hl₆
      have step₅ : Step (I :: acc :: ow) { s' with heap := h4 } s₅ := (step₂.trans (mu' := ow) step₃ fun a ha => .inl (X.ow_mem ha)).trans (mu' := ow) (Step.of_kp k35) fun a ha => .inl (X.ow_mem ha)
      have step₆ : Step (I :: acc :: ow) s₅ { s₅ with heap := h₆ } := Step.lv (tk := s₅.toks) X.acc_mem hs₆ (liveOf hl₆)
      exact ⟨ds.length + 1 - (i + 1), turn_lt hk hlt, i + 1, done ++ [d'], ds₂', ys ++ [u], kq', rfl, hlt, cl₂, by rw [hds', List.append_assoc]; rfl, X.it.wk.frame _ _ _ st₂ fun b hb o e => (hs₆.2 b (X.fpf b hb).1).trans (k35.heap b o (step₃.heap b o (X.fpf b hb).2 e)), by rw [hl₆, lsnoc],
        (all₅.append (.cons i₅ .nil)).mono fun b o hb e => (hs₆.2 b (fun q => hb (List.mem_append_left _ (by rw [q]; exact X.acc_mem)))).trans e, (IC₃.at fun a _ o e => k35.heap a o e).at fun a ha o e => (hs₆.2 a (fun q => X.naow (q ▸ ha))).trans e, step₅.trans step₆ fun _ q => .inl q,
        Wd.upTo (s := s₅) (W₄.keeps k₅.heap) step₆ (fun a ha => List.mem_append_left _ ha), by rw [List.length_append]; exact Nat.succ_le_succ hdl⟩
    · refine comp_turn (s₂ := { s₁ with heap := h₂, toks := tk₂ }) W₂ IC₂ owbad hdv₂ (fun s₃ step₃ => seenOk s₃.heap fun b o hb e => step₃.heap b o (fun q => hb (X.ow_mem q)) (step₂.heap b o hb e)) htg hifs fun s₃ s₄ k₄ step₃ IC₃ G₄ W₄ => ?_
      rw [if_neg Bool.false_ne_true]
      exact ⟨ds.length + 1 - (i + 1), turn_lt hk hlt, i + 1, done, rest, ys, kq, rfl, hlt, cl₂, hds', X.it.wk.frame _ _ _ st₂ fun b hb o e => k₄.heap b o (step₃.heap b o (X.fpf b hb).2 e), k₄.heap _ _ (step₃.heap _ _ X.naow hacc₂), all₂.mono fun a o ha e => k₄.heap a o (step₃.heap a o (fun q => ha (owbad a q)) e), IC₃.at fun a _ o e => k₄.heap a o e,
        (step₂.trans (mu' := ow) step₃ fun a ha => .inl (X.ow_mem ha)).trans (mu' := ow) (Step.of_kp k₄) fun a ha => .inl (X.ow_mem ha), W₄, Nat.le_succ_of_le hdl⟩
  · obtain rfl : i = ds.length := Nat.le_antisymm hile hge
    rw [List.drop_length] at cl₁
    obtain rfl : rest = [] := cl₁.inv
    rw [List.append_nil] at hds'
    subst hds'
    refine X.it.wk.done s₁ _ _ st₁ fun h₂ tk₂ hk₂ => ?_
    have hk₂' : ∀ b o, b ≠ I → s₁.heap.get? b = some o → h₂.get? b = some o := fun b o hb e => hk₂ b o (fun z => hb (List.mem_singleton.mp z)) e
    have kS : Kp s { s₁ with heap := h₂, toks := tk₂ } := by
      obtain ⟨ha, ta, rfl, k1, l1⟩ := step₁
      obtain ⟨h0, t0, e0, k00⟩ := X.k₀.trans X.it.kp
      subst e0
      exact ⟨h₂, tk₂, rfl, fun b o e => have nb : b ∉ I :: acc :: ow := fun q => noSome (X.new b q) e
        hk₂' b o (fun q => nb (q ▸ List.mem_cons_self)) (k1 b o nb (X.kS b o e))⟩
    refine hpost acc (acc + 1) { s₁ with heap := h₂, toks := tk₂ } ys kq kS (X.new _ X.acc_mem) (X.new _ (X.ow_mem X.owL)) (Nat.ne_of_lt (Nat.lt_succ_self _)) ?_ (hk₂' _ _ (Ne.symm X.nIa) hacc₁) ?_
    · obtain ⟨m, hm⟩ := IC₁.ns
      rw [X.rL] at hm
      exact ⟨m, hm.at' fun o e => hk₂' _ o (fun q => X.nIow (q ▸ X.owL)) e⟩
    · refine hall₁.gen rfl rfl fun a o ha e => ⟨fun q => ha ?_, hk₂' a o (fun q => ha (q ▸ List.mem_append_left _ List.mem_cons_self)) e⟩
      rcases List.mem_cons.mp q with q | q
      · rw [q]; exact List.mem_append_left _ X.acc_mem
      · rcases List.mem_cons.mp q with q | q
        · rw [q]; exact List.mem_append_left _ (X.ow_mem X.owL)
        · exact List.mem_append_right _ q
end
end Mine

-- Kit15
namespace Mine

section
variable {C : Cfg} {n : Nat} {scope sc : Scope} {Γ Γf : Gm} {O : Own} {target iter elt : Expr} {ifs : List Expr} {ds ds' : List D}

theorem EV.comp {pos : Pos} (hi : EI C n sc Γ iter ds) (cl : CL C n scope (rl scope sc) target ifs elt Γf ds ds') (hf : scope.kind = .function) (see : Seen scope sc Γ Γf) (hsz : ds.length ≤ 10000000)
    (hnames : ∀ x ∈ scope.names, x.2 = .local → scope.names.lookup x.1 = some .local) (hs : ∀ r v, foldedSetIterable iter (En sc r) v = pure v := by intro _ _; rfl) :
    EV C n sc Γ (.ListComp elt [⟨target, iter, ifs, 0⟩] scope pos) (.list ds') := by
  refine ⟨fun A s r bad Q E W G K => ?_⟩
  rw [eval_ListComp]
  refine comp_core (use := none) W G hi cl hf see hsz hnames (hs r) fun acc blk s₅ ys k kp ha hb hab hns hacc hall => ?_
  obtain ⟨m, hm⟩ := hns
  refine ⟨m, hm, fun h' hs' => ?_⟩
  have hacc' : h'.get? acc = some (lobj ys k) := (hs'.2 acc hab).trans hacc
  refine K _ _ ?_ (.list (n := k) (fun q => ?_) hacc' ?_)
  · obtain ⟨h5, t5, rfl, k5⟩ := kp
    exact ⟨h', t5, rfl, fun b o e => (hs'.2 b (fun q => by rw [q, hb] at e; cases e)).trans (k5 b o e)⟩
  · have := W.live acc q; rw [ha] at this; cases this
  · exact (hall.mono fun b o hbb e => (hs'.2 b (fun q => hbb (by rw [q]; exact List.mem_cons_of_mem _ List.mem_cons_self))).trans e).less fun b hb => List.mem_cons_of_mem _ (List.mem_cons_of_mem _ hb)

/-- y = [.. for ..], on one line: the model stores before it lets the block's names go -/
theorem ES.assignComp {y : Str} {py pos spos : Pos} (hi : EI C n sc Γ iter ds) (cl : CL C n scope (rl scope sc) target ifs elt Γf ds ds') (hf : scope.kind = .function) (see : Seen scope sc Γ Γf) (hsz : ds.length ≤ 10000000)
    (hnames : ∀ x ∈ scope.names, x.2 = .local → scope.names.lookup x.1 = some .local) (hff : sc.kind = .function) (hy : sc.names.lookup y = some .local ∨ sc.names.lookup y = some .cell) (hO : O.name? ≠ some y)
    (hsw : ∀ r, swapsWith (.ListComp elt [⟨target, iter, ifs, 0⟩] scope pos) (some (.Name y py)) spos.line (En sc r) = pure true) (hs : ∀ r v, foldedSetIterable iter (En sc r) v = pure v := by intro _ _; rfl) :
    ES C n sc Γ O (.Assign [.Name y py] (.ListComp elt [⟨target, iter, ifs, 0⟩] scope pos) spos) (.next ((y, .list ds') :: Γ) O) := by
  refine ⟨fun A s r bc mu Q E W F P => ?_⟩
  rw [exec_Assign_Name_used _ _ _ _ (hsw r)]
  refine wpAny_bind (wpAny_standAt (wpAny_bind ?_))
  show wpAny _ A (do let _ ← comprehension (.ListComp elt [⟨target, iter, ifs, 0⟩] scope pos) scope (En sc r) _ (PySem.newList []) false (eval iter (En sc r)) (some (PySem.assign (.Name y py) (En sc r)))) _ _ s
  refine wpAny_bind (wpAny_mono (Q := fun _ s' => Q .next s') (comp_core (use := some (PySem.assign (.Name y py) (En sc r))) W F.go hi cl hf see hsz hnames (hs r) fun acc blk s₅ ys k kp ha hb hab hns hacc hall => ?_) (fun _ s' hq => wpAny_pure (wpAny_pure hq)) fun _ _ e => e)
  show wpAny _ A (PySem.assign (.Name y py) (En sc r) (.ref acc)) _ _ _
  have hbm : blk ∉ mu := fun q => by have := F.live blk q; rw [hb] at this; cases this
  have ham : acc ∉ mu ++ bc := fun q => by have := W.live acc q; rw [ha] at this; cases this
  have F₅ := F.bcMore (b := blk) hb kp.heap
  have i₅ : DIn C (mu ++ blk :: bc) s₅.heap (.ref acc) (.list ds') := by
    refine .list (n := k) (fun q => ?_) hacc (hall.less fun b hbb => ?_)
    · rcases List.mem_append.mp q with z | z
      · exact ham (List.mem_append_left _ z)
      · rcases List.mem_cons.mp z with z | z
        · exact hab z
        · exact ham (List.mem_append_right _ z)
    · rcases List.mem_append.mp hbb with z | z
      · exact List.mem_cons_of_mem _ (List.mem_cons_of_mem _ (List.mem_append_left _ z))
      · rcases List.mem_cons.mp z with z | z
        · rw [z]; exact List.mem_cons_of_mem _ List.mem_cons_self
        · exact List.mem_cons_of_mem _ (List.mem_cons_of_mem _ (List.mem_append_right _ z))
  refine wpAny_assign_Name (F₅.store hff hy hO i₅ fun s₆ st F₆ => ?_)
  obtain ⟨m, hm⟩ := hns
  refine ⟨m, hm.at' fun o e => st.heap _ o hbm e, fun h' hs' => ?_⟩
  have hbc : ∀ z c, r.cs.lookup z = some c → c ≠ blk := fun z c e q => by have := F.cliv z c e; rw [q, hb] at this; cases this
  have F₇ : FOk C sc r (blk :: bc) mu h' ((y, .list ds') :: Γ) O := F₆.iter hbc fun b o hbb e => (hs'.2 b hbb).trans e
  refine P { s₆ with heap := h' } mu ?_ (fun _ q => .inl q) F₇.bcLess
  obtain ⟨h6, t6, rfl, k6, l6⟩ := (Step.of_kp (mu := mu) kp).trans st fun _ q => .inl q
  refine ⟨h', t6, rfl, fun b o hbb e => (hs'.2 b (fun q => by rw [q, hb] at e; cases e)).trans (k6 b o hbb e), fun b e => ?_⟩
  rw [hs'.2 b (fun q => by rw [q, hb] at e; cases e)]
  exact l6 b e
end
end Mine

-- Kit16
namespace Mine

theorem bindL_skip {kindOf : Str → Option NameKind} : ∀ (binds : List (Str × Value)) (m : Str → Option Value) (x : Str), x ∉ binds.map (·.1) → bindL kindOf binds m x = m x
  | [], _, _, _ => rfl
  | (y, u) :: r, m, x, h => by
    unfold bindL
    have hxy : x ≠ y := fun e => h (by rw [e]; exact List.mem_cons_self)
    rw [bindL_skip r _ x fun q => h (List.mem_cons_of_mem _ q)]
    split
    · simp [hxy]
    · rfl
theorem bindL_get {kindOf : Str → Option NameKind} : ∀ (binds : List (Str × Value)) (m : Str → Option Value) (x : Str) (v : Value), (binds.map (·.1)).Nodup → (x, v) ∈ binds → kindOf x = some .local → bindL kindOf binds m x = some v
  | [], _, _, _, _, h, _ => by cases h
  | (y, u) :: r, m, x, v, hn, h, hk => by
    unfold bindL
    obtain ⟨h1, h2⟩ := List.nodup_cons.mp hn
    rcases List.mem_cons.mp h with e | e
    · cases e
      rw [bindL_skip r _ _ h1, if_pos hk]
      simp
    · exact bindL_get r _ x v h2 e hk
theorem bindC_skip {kindOf : Str → Option NameKind} : ∀ (binds : List (Str × Value)) (m : Str → Option Value) (x : Str), x ∉ binds.map (·.1) → bindC kindOf binds m x = m x
  | [], _, _, _ => rfl
  | (y, u) :: r, m, x, h => by
    unfold bindC
    have hxy : x ≠ y := fun e => h (by rw [e]; exact List.mem_cons_self)
    rw [bindC_skip r _ x fun q => h (List.mem_cons_of_mem _ q)]
    split
    · rfl
    · simp [hxy]
theorem bindC_get {kindOf : Str → Option NameKind} : ∀ (binds : List (Str × Value)) (m : Str → Option Value) (x : Str) (v : Value), (binds.map (·.1)).Nodup → (x, v) ∈ binds → kindOf x = some .cell → bindC kindOf binds m x = some v
  | [], _, _, _, _, h, _ => by cases h
  | (y, u) :: r, m, x, v, hn, h, hk => by
    unfold bindC
    obtain ⟨h1, h2⟩ := List.nodup_cons.mp hn
    rcases List.mem_cons.mp h with e | e
    · cases e
      rw [bindC_skip r _ _ h1, if_neg (by rw [hk]; decide)]
      simp
    · exact bindC_get r _ x v h2 e hk

theorem zip_lookup {C : Cfg} {bad : List Addr} {h : Heap} : ∀ {ps : List Str} {vs : List Value} {ds : List D} {x : Str} {d : D}, DAll C bad h vs ds → (ps.zip ds).lookup x = some d → ps.length = ds.length → ∃ v, (x, v) ∈ ps.zip vs ∧ DIn C bad h v d
  | [], _, _, _, _, _, e, _ => by simp at e
  | p :: ps, _, ds, x, d, all, e, hl => by
    cases ds with
    | nil => cases hl
    | cons d' ds =>
      obtain ⟨v', us, rfl, i, r⟩ := all.consInv
      rw [List.zip_cons_cons, List.lookup_cons] at e
      by_cases hx : x = p
      · subst hx
        rw [beq_self_eq_true] at e
        cases e
        exact ⟨_, List.mem_cons_self, i⟩
      · rw [beq_eq_false_iff_ne.mpr hx] at e
        obtain ⟨v, hv, hd⟩ := zip_lookup r e (Nat.succ.inj hl)
        exact ⟨v, List.mem_cons_of_mem _ hv, hd⟩

structure FnIs (h : Heap) (a : Addr) (ps : List Str) (sc : Scope) (body : List Stmt) (o : Obj) (fd : FuncData) : Prop where
  lies : h.get? a = some o
  data : o.data = .func fd
  code : h.CodeRec fd.code fd.qualname
  body : fd.body = .stmts body
  scope : fd.scope = sc
  globals : fd.globals = mainGlobals
  builtins : fd.builtins = builtinsNs
  closure : fd.closure = []
  bind : ∀ vs : List Value, vs.length = ps.length → bindArgs fd ⟨vs, []⟩ = pure (ps.zip vs)
/-- the def at an address: its parameters, its block -/
structure FnAt (C : Cfg) (a : Addr) (ps : List Str) (sc : Scope) (body : List Stmt) : Prop where
  ex : ∃ o fd, FnIs C.b0 a ps sc body o fd
  nodup : ps.Nodup
  kinds : ∀ x ∈ ps, sc.names.lookup x = some .local ∨ sc.names.lookup x = some .cell
  fn : sc.kind = .function
  co : sc.isCoroutine = false
  gen : sc.isGenerator = false

section
variable {C : Cfg} {n : Nat} {sc : Scope}

/-- the frame of a call -/
theorem frame_in {fd : FuncData} {A : Around} {s s₁ : Shared} {bad : List Addr} {a : Addr} {ps : List Str} {vs : List Value} {ds : List D} (W : Wd C (n + 1) A bad s.heap) (hsc : fd.scope = sc) (hg : fd.globals = mainGlobals) (hb : fd.builtins = builtinsNs)
    (hn : ps.Nodup) (hk : ∀ x ∈ ps, sc.names.lookup x = some .local ∨ sc.names.lookup x = some .cell) (hlen : ps.length = ds.length) (all : DAll C bad s.heap vs ds)
    (X : InCallC s (callEnvC fd s.heap.objs.size a).locals (bindL (callEnvC fd s.heap.objs.size a).kindOf (ps.zip vs) fun _ => none) (callEnvC fd s.heap.objs.size a).cells
        (bindC (callEnvC fd s.heap.objs.size a).kindOf (ps.zip vs) fun _ => none) s₁) :
    ∃ r mu, callEnvC fd s.heap.objs.size a = En sc r ∧ (∀ b ∈ mu, s.heap.get? b = none) ∧ FOk C sc r bad mu s₁.heap (ps.zip ds) .none ∧ Wd C n (A.deeper (callEnvC fd s.heap.objs.size a)) (mu ++ bad) s₁.heap ∧ Kp s s₁ := by
  have henv : callEnvC fd s.heap.objs.size a = En sc ⟨s.heap.objs.size, cellsFrom (s.heap.objs.size + 1) sc.names [], fd.qualname ++ ".<locals>.", some a, fd.code, some s.heap.objs.size⟩ := by
    unfold callEnvC newEnv En
    rw [hsc, hg, hb]
  rw [henv] at X ⊢
  have hfresh : ∀ b ∈ (s.heap.objs.size :: (cellsFrom (s.heap.objs.size + 1) sc.names []).filterMap fun p => (cellsFrom (s.heap.objs.size + 1) sc.names []).lookup p.1), s.heap.get? b = none := by
    intro b hb'
    refine lt_none ?_
    rcases List.mem_cons.mp hb' with q | q
    · rw [q]; exact Nat.le_refl _
    · obtain ⟨c, _, hc⟩ := List.mem_filterMap.mp q
      exact Nat.le_of_lt (X.above c.1 b (mem_of_lookup hc))
  obtain ⟨h₁, tk, rfl⟩ := X.toInCall.same
  have keep : ∀ b o, s.heap.get? b = some o → h₁.get? b = some o := X.toInCall.keep
  have kp : Kp s { s with heap := h₁, toks := tk } := ⟨h₁, tk, rfl, keep⟩
  have hall : DAll C ((s.heap.objs.size :: (cellsFrom (s.heap.objs.size + 1) sc.names []).filterMap fun p => (cellsFrom (s.heap.objs.size + 1) sc.names []).lookup p.1) ++ bad) h₁ vs ds :=
    (all.more fun b hb' => (List.mem_append.mp hb').elim (fun q => .inr (hfresh b q)) fun q => .inl q).mono fun b o _ e => keep b o e
  have hns : h₁.Ns s.heap.objs.size _ := X.toInCall.ns
  have hlive : ∀ b ∈ (s.heap.objs.size :: (cellsFrom (s.heap.objs.size + 1) sc.names []).filterMap fun p => (cellsFrom (s.heap.objs.size + 1) sc.names []).lookup p.1), (h₁.get? b).isSome = true := by
    intro b hb'
    rcases List.mem_cons.mp hb' with q | q
    · obtain ⟨o, _, _, ho, _⟩ := hns; rw [q, ho]; rfl
    · obtain ⟨c, _, hc⟩ := List.mem_filterMap.mp q
      obtain ⟨o, ho, _⟩ := X.cell c.1 b hc
      show (h₁.get? b).isSome = true
      rw [ho]; rfl
  refine ⟨_, (s.heap.objs.size :: (cellsFrom (s.heap.objs.size + 1) sc.names []).filterMap fun p => (cellsFrom (s.heap.objs.size + 1) sc.names []).lookup p.1), rfl, hfresh, ?_, ?_, kp⟩
  · refine ⟨⟨_, hns⟩, List.mem_cons_self, fun x c h1 h2 => ⟨List.mem_cons_of_mem _ (List.mem_filterMap.mpr ⟨(x, c), mem_of_lookup h1, h1⟩), Nat.ne_of_gt (X.above x c (mem_of_lookup h1)), _, X.cell x c h1⟩, fun x hx => cellsFrom_some _ _ _ (.inl hx), X.apart,
      fun y c e => Nat.ne_of_gt (X.above y c (mem_of_lookup e)), fun y c e => by obtain ⟨o, ho, _⟩ := X.cell y c e; show (h₁.get? c).isSome = true; rw [ho]; rfl, hlive, fun b hb' q => ?_, fun x d e => ?_, trivial⟩
    · exact noLive (hfresh b hb') (W.live b q)
    · obtain ⟨v, hv, hd⟩ := zip_lookup hall e hlen
      refine ⟨v, ?_, hd⟩
      have hxp : x ∈ ps := (List.of_mem_zip hv).1
      have hnd : ((ps.zip vs).map (·.1)).Nodup := by
        have : (ps.zip vs).map (·.1) = ps := List.map_fst_zip (by rw [hlen, all.length]; exact Nat.le_refl _)
        rw [this]; exact hn
      rcases hk x hxp with q | q
      · exact .inl ⟨q, _, hns, bindL_get _ _ x v hnd hv q⟩
      · obtain ⟨c, hc⟩ := Option.isSome_iff_exists.mp (cellsFrom_some (x := x) sc.names (s.heap.objs.size + 1) [] (.inl q))
        refine .inr ⟨.inl q, c, hc, ?_⟩
        have := X.cell x c hc
        rw [bindC_get _ _ x v hnd hv q] at this
        exact this
  · have W' := W.extra keep hfresh hlive
    refine ⟨?_, ?_, W'.top, W'.base, Held.deep (A := A) rfl W'.held, W'.quiet, W'.live, W'.apart⟩
    · have := W.depth; show A.depth + 1 + n ≤ 900; omega
    · have := W.units; show A.units + 3 + 20 * n ≤ 9000; omega

/-- a call, entered -/
structure CallUp (C : Cfg) (n : Nat) (A : Around) (bad : List Addr) (sc : Scope) (s : Shared) (Γ : Gm) (r : Rt) (mu : List Addr) (s₁ : Shared) : Prop where
  fresh : ∀ b ∈ mu, s.heap.get? b = none
  F : FOk C sc r bad mu s₁.heap Γ .none
  W : Wd C n (A.deeper (En sc r)) (mu ++ bad) s₁.heap
  kp : Kp s s₁
  fr : r.fr = some r.L
  cs : r.cs = cellsFrom (s.heap.objs.size + 1) sc.names []

theorem call_in {a : Addr} {ps : List Str} {body : List Stmt} {ds : List D} (f : FnAt C a ps sc body) (hlen : ps.length = ds.length) {A : Around} {s : Shared} {bad : List Addr} {vs : List Value} {Q : Value → Shared → Prop} {E : Value → Shared → Prop} (W : Wd C (n + 1) A bad s.heap) (all : DAll C bad s.heap vs ds)
    (K : ∀ r mu s₁, CallUp C n A bad sc s (ps.zip ds) r mu s₁ → wpAny (model C.prog C.w) (A.deeper (En sc r)) (execs body (En sc r)) (fun f s' => Q (match f with | .ret v => v | _ => .none) s')
      (fun e s' => wpAny (model C.prog C.w) (A.deeper (En sc r)) (leaving (En sc r) e) (fun _ s'' => E e s'') (fun e' s'' => E e' s'') s') s₁) : wpAny (model C.prog C.w) A (call (.ref a) vs) Q E s := by
  obtain ⟨o, fd, ho, hd, hcr, hbody, hsc, hg, hb, hclo, hbind⟩ := f.ex
  refine wpAny_call (codeAny_call_cells (fd := fd) (body := body) (binds := ps.zip vs) (Nat.lt_of_le_of_lt (Nat.le_trans (Nat.le_add_right _ _) W.depth) (show 900 < 1000 by decide)) (W.base a o ho) hd (W.top.lim.keeps W.base) (hcr.keeps W.base) hbody (hbind vs (all.length.trans hlen.symm)) hclo (fun x hx => ?_) (fun s₁ X => ?_) (by rw [hsc]; exact f.co) (by rw [hsc]; exact f.gen) (by rw [hsc]; exact f.fn))
  · rw [hsc]
    exact (f.kinds x.1 ((List.of_mem_zip hx).1)).imp id fun q => ⟨q, cellsFrom_some _ _ _ (.inl q)⟩
  · obtain ⟨r, mu, henv, hfresh, F, W', kp⟩ := frame_in W hsc hg hb f.nodup f.kinds hlen all X
    have hfrL : r.fr = some r.L := by
      have e1 : (callEnvC fd s.heap.objs.size a).frame = some (callEnvC fd s.heap.objs.size a).locals := rfl
      rw [henv] at e1; exact e1
    have hcs : r.cs = cellsFrom (s.heap.objs.size + 1) sc.names [] := by
      have e1 : (callEnvC fd s.heap.objs.size a).cells = cellsFrom (s.heap.objs.size + 1) fd.scope.names [] := rfl
      rw [henv, hsc] at e1; exact e1
    rw [henv] at W' ⊢
    exact K r mu s₁ ⟨hfresh, F, W', kp, hfrL, hcs⟩
theorem CallUp.back {A : Around} {s : Shared} {bad : List Addr} {Γ : Gm} {r : Rt} {mu : List Addr} {s₁ s' : Shared} (X : CallUp C n A bad sc s Γ r mu s₁) (st : Step mu s₁ s') : Kp s s' := by
  obtain ⟨h₁, t₁, rfl, k₁⟩ := X.kp
  obtain ⟨h₂, t₂, rfl, k₂, _⟩ := st
  exact ⟨h₂, t₂, rfl, fun b o e => k₂ b o (fun q => noSome (X.fresh b q) e) (k₁ b o e)⟩

/-- a def, by its block -/
theorem FN.of {a : Addr} {ps : List Str} {body : List Stmt} {ds : List D} {d : D} (f : FnAt C a ps sc body) (hlen : ps.length = ds.length) (h : EX C n sc (ps.zip ds) .none body (.ret d)) : FN C (n + 1) a ds d := by
  intro A s bad vs Q E W all K
  exact call_in f hlen W all fun r mu s₁ X => h.run _ s₁ r bad mu _ _ X.W X.F fun v s' st i => K v s' (X.back st) i
end
end Mine

-- Kit17
namespace Mine

section
variable {C : Cfg} {n : Nat} {sc : Scope} {Γ : Gm} {O : Own}

/-- the dict at the address a maps texts to ints -/
noncomputable def TabAt (C : Cfg) (a : Addr) (tg : List Nat → Option Int) : Prop :=
  (a == sysModules) = false ∧ (∃ es k, C.b0.get? a = some { cls := .type "dict", data := .dict es k }) ∧ ∃ f : Str → Option Value, Heap.MapOf (strKind C.prog C.w) C.b0 a f ∧ ∀ l, (tg l = none → f (T l) = none) ∧ ∀ i, tg l = some i → ∃ t, f (T l) = some (.int i t)

theorem MapOf.at {knd : KeyKind C.prog C.w Str} {h h' : Heap} {a : Addr} {f : Str → Option Value} (x : Heap.MapOf knd h a f) (hk : ∀ o, h.get? a = some o → h'.get? a = some o) : Heap.MapOf knd h' a f :=
  let ⟨o, es, ep, ho, r⟩ := x; ⟨o, es, ep, hk o ho, r⟩

theorem OP2.inTab {a : Addr} {tg : List Nat → Option Int} (tab : TabAt C a tg) {l : List Nat} : OP2 C n (compareOp .In) (.str l) (.val (.ref a)) (.bool (tg l).isSome) := by
  intro A s bad v₁ v₂ Q E W i₁ i₂ K
  obtain ⟨t, rfl⟩ := i₁.strInv
  obtain rfl := i₂.valInv
  obtain ⟨hs, _, f, hm, hf⟩ := tab
  refine wpAny_in_of (knd := PySem.strKind C.prog C.w) (strKind_is C.prog C.w (T l) t) hs (MapOf.at hm fun o e => W.base _ o e) ?_
  have e : (f (T l)).isSome = (tg l).isSome := by
    cases q : tg l with
    | none => rw [(hf l).1 q]; rfl
    | some i => obtain ⟨t, e⟩ := (hf l).2 i q; rw [e]; rfl
  rw [e]
  exact K _ _ (.tok _) (.bool _)

theorem EV.tabItem {a : Addr} {tg : List Nat → Option Int} (tab : TabAt C a tg) {e i : Expr} {pos : Pos} {l : List Nat} {k : Int} (he : EV C n sc Γ e (.val (.ref a))) (hi : EV C n sc Γ i (.str l)) (hk : tg l = some k) : EV C n sc Γ (.Subscript e i pos) (.int k) := by
  refine ⟨fun A s r bad Q E W G K => ?_⟩
  obtain ⟨hs, ⟨es, kk, ho⟩, f, hm, hf⟩ := tab
  refine subAny (T := "dict") F.slot_dict_getitem.lookup (he.run A s r bad _ E W G fun v₁ s₁ k₁ i₁ => hi.run A s₁ r bad _ E (W.keeps k₁.heap) (G.keeps k₁.heap) fun v₂ s₂ k₂ i₂ => ?_)
  obtain rfl := i₁.valInv
  obtain ⟨t, rfl⟩ := i₂.strInv
  have W₂ := (W.keeps k₁.heap).keeps k₂.heap
  obtain ⟨t', e⟩ := (hf l).2 k hk
  refine ⟨⟨_, W₂.base _ _ ho, rfl⟩, wpAny_getItem_of (knd := PySem.strKind C.prog C.w) (strKind_is C.prog C.w (T l) t) (MapOf.at hm fun o e => W₂.base _ o e) e ?_⟩
  exact K _ _ ((k₁.trans k₂).trans (.tok _)) (.int k _)

/-- TABLE.get(word, default) -/
theorem EV.tabGet {a : Addr} {tg : List Nat → Option Int} (tab : TabAt C a tg) {o e₁ e₂ : Expr} {apos pos : Pos} {l : List Nat} {k : Int} (ho : EV C n sc Γ o (.val (.ref a))) (h₁ : EV C n sc Γ e₁ (.str l)) (h₂ : EV C n sc Γ e₂ (.int k))
    (hst : ∀ env, starEach [e₁, e₂] env = [(false, eval e₁ env), (false, eval e₂ env)] := by intro _; rfl)
    (hbase : ∀ env, attributeBase o (Str.ofString "get") env (eval o env) = eval o env := by intro _; rfl) (hline : (apos.endLine == pos.line) = true := by rfl) :
    EV C n sc Γ (.Call (.Attribute o (Str.ofString "get") apos) [e₁, e₂] [] pos) (.int ((tg l).getD k)) := by
  refine ⟨fun A s r bad Q E W G K => ?_⟩
  obtain ⟨hs, ⟨es, kk, hob⟩, f, hm, hf⟩ := tab
  refine Call_method2 (hbase _) (hst _) hline (ho.run A s r bad _ E W G fun v₀ s₁ k₀ i₀ => ?_)
  obtain rfl := i₀.valInv
  have W₁ := W.keeps k₀.heap
  refine ⟨"dict", "dict.get", F.plainAttrs_dict, F.slot_dict_get, F.type_dict_get, ⟨_, W₁.base _ _ hob, rfl⟩, fun b e => by cases e; exact ⟨_, W₁.base _ _ hob, rfl⟩, ?_⟩
  refine wpAny_dict_get2 (knd := PySem.strKind C.prog C.w) hs (h₁.run A s₁ r bad _ E W₁ (G.keeps k₀.heap) fun v₁ s₂ k₁ i₁ => ?_)
  refine h₂.run A s₂ r bad _ E (W₁.keeps k₁.heap) ((G.keeps k₀.heap).keeps k₁.heap) fun v₂ s₃ k₂ i₂ => ?_
  obtain ⟨t, rfl⟩ := i₁.strInv
  obtain ⟨u, rfl⟩ := i₂.intInv
  have W₃ := (W₁.keeps k₁.heap).keeps k₂.heap
  refine ⟨T l, f, strKind_is C.prog C.w (T l) t, MapOf.at hm fun o e => W₃.base _ o e, ?_⟩
  cases q : tg l with
  | none =>
    rw [(hf l).1 q]
    rw [q] at K
    exact K _ _ (((k₀.trans k₁).trans k₂).trans (.tok _)) (.int _ _)
  | some i =>
    obtain ⟨t', e⟩ := (hf l).2 i q
    rw [e]
    rw [q] at K
    exact K _ _ (((k₀.trans k₁).trans k₂).trans (.tok _)) (.int _ _)

/-! texts -/
theorem DAll.strsFrom {bad : List Addr} {h : Heap} : ∀ (ls : List (List Nat)) (tk : Nat), DAll C bad h (PySem.strsFrom tk (ls.map T)) (ls.map D.str)
  | [], _ => .nil
  | l :: r, tk => .cons (.str l tk) (DAll.strsFrom r (tk + 1))

/-- a written text cut at a sign -/
theorem BI.split {l m : List Nat} {ls : List (List Nat)} (h1 : (decide ((T l).length < (T m).length) || decide (Builtin.Str.strKind (T l) < Builtin.Str.strKind (T m))) = false) (hy : ((T m).length == 0) = false)
    (hf : (Builtin.Str.occurrences (T l) (T m) 0 (T l).length ((T l).length + 1)).isEmpty = false) (hx : l.length ≤ 10000000)
    (hp : Builtin.Str.partsBetween (T l) (Builtin.Str.occurrences (T l) (T m) 0 (T l).length ((T l).length + 1)) (T m).length = ls.map T) (hn : ls.length ≤ 10000000) : BI C n "str.split" [.str l, .str m] (.list (ls.map D.str)) := by
  intro A s bad vs Q E W i K
  obtain ⟨_, _, rfl, i0, j⟩ := i.two
  obtain ⟨t, rfl⟩ := i0.strInv
  obtain ⟨u, rfl⟩ := j.strInv
  refine call_meets F.slot_str_split (typeIs_str _ _ _) F.entry_str_split (F.args_str_split_2 _ _) (meets_str_split_sep (T l) (T m) t u h1 hy hf (by rw [T_length, sizeLine_eq]; omega) (by rw [hp, List.length_map, sizeLine_eq]; omega)) ?_
  rw [hp]
  refine K _ _ ⟨_, _, rfl, fun b o e => Heap.get?_push_of_some _ e⟩ (.list (n := 0) W.fresh (Heap.get?_push_size _ rfl) (DAll.strsFrom ls _))

/-- texts with a glue between -/
noncomputable def joinL (m : List Nat) : List (List Nat) → List Nat
  | [] => []
  | [l] => l
  | l :: k :: r => l ++ m ++ joinL m (k :: r)
theorem joinT (m : List Nat) : ∀ ls : List (List Nat), Str.join (T m) (ls.map T) = T (joinL m ls)
  | [] => by simp [Str.join, Str.empty, joinL, T]
  | [l] => by simp [Str.join, joinL]
  | l :: k :: r => by
    have ih := joinT m (k :: r)
    show T l ++ T m ++ Str.join (T m) ((k :: r).map T) = _
    rw [ih, T_append, T_append, joinL]

theorem sumLen (ls : List (List Nat)) : ((ls.map T).map (·.length)).sum = (ls.map List.length).sum := by
  induction ls with
  | nil => rfl
  | cons l r ih => simp only [List.map_cons, List.sum_cons, ih, T_length]

theorem BI.join {m : List Nat} {ls : List (List Nat)} (hm : m.length ≤ 16) (hw : (ls.map List.length).sum + ls.length ≤ 1000000) : BI C n "str.join" [.str m, .list (ls.map D.str)] (.str (joinL m ls)) := by
  intro A s bad vs Q E W i K
  obtain ⟨_, _, rfl, i0, j⟩ := i.two
  obtain ⟨t, rfl⟩ := i0.strInv
  obtain ⟨a_j, vs_j, n_j, rfl, hb, ho, all⟩ := j.lstInv
  refine join_listW ⟨_, ho, rfl, _, rfl⟩ (ys := ls.map T) all.strs (by rw [T_length]; exact hm) (by rw [sumLen, List.length_map]; omega) fun t' k => ?_
  have e : Txt.join (T m) (ls.map T) = Str.join (T m) (ls.map T) := by simpa using join_plain_closes (T m) (ls.map T)
  rw [e, joinT]
  exact K _ _ (.tok _) (.str _ _)

/-- the first place of a sign -/
theorem at_one (l : List Nat) (c i : Nat) : StrLaws.At (T l) ⟨#[c]⟩ (T l).length i ↔ l[i]? = some c := by
  have := StrLaws.subAt_one (T l) c i
  simpa [StrLaws.At] using this
theorem first_none {k v : List Nat} {c : Nat} (hc : c ∉ k) : ∀ j, j < k.length → (k ++ c :: v)[j]? ≠ some c := fun j hj e => by
  rw [List.getElem?_append_left hj] at e
  exact hc (List.mem_of_getElem? e)
theorem occ_one {k v : List Nat} {c : Nat} (hc : c ∉ k) (lim : Nat) (hl : 1 ≤ lim) : ∃ rest, Builtin.Str.occurrences (T (k ++ c :: v)) ⟨#[c]⟩ 0 (T (k ++ c :: v)).length lim = k.length :: rest := by
  have hat : (k ++ c :: v)[k.length]? = some c := by simp
  rcases StrLaws.occ_head (T (k ++ c :: v)) ⟨#[c]⟩ lim hl with ⟨_, hn⟩ | ⟨i, rr, e, ha, hn⟩
  · exact absurd ((at_one _ c _).mpr hat) (hn k.length)
  · have hi := (at_one _ c i).mp ha
    have : i = k.length := by
      rcases Nat.lt_trichotomy i k.length with q | q | q
      · exact absurd hi (first_none hc i q)
      · exact q
      · exact absurd ((at_one _ c _).mpr hat) (hn k.length q)
    exact ⟨rr, this ▸ e⟩
theorem occ_no {l : List Nat} {c : Nat} (hc : c ∉ l) (lim : Nat) (hl : 1 ≤ lim) : Builtin.Str.occurrences (T l) ⟨#[c]⟩ 0 (T l).length lim = [] := by
  rcases StrLaws.occ_head (T l) ⟨#[c]⟩ lim hl with ⟨e, _⟩ | ⟨i, rr, e, ha, hn⟩
  · exact e
  · exact absurd (List.mem_of_getElem? ((at_one _ c i).mp ha)) hc

theorem BI.strIndex {k v : List Nat} {c : Nat} (h : c ∉ k) : BI C n "str.index" [.str (k ++ c :: v), .str [c]] (.int k.length) := by
  intro A s bad vs Q E W ii K
  obtain ⟨_, _, rfl, ii0, j⟩ := ii.two
  obtain ⟨t, rfl⟩ := ii0.strInv
  obtain ⟨u, rfl⟩ := j.strInv
  obtain ⟨rest, e⟩ := occ_one (v := v) h 1 (Nat.le_refl _)
  exact call_gives F.slot_str_index (typeIs_str _ _ _) F.entry_str_index (F.args_str_index_2 _ _) (gives_str_index (T (k ++ c :: v)) ⟨#[c]⟩ t u k.length rest e) (K _ _ (.tok _) (.int _ _))

theorem strSubT (l : List Nat) (i j : Nat) : Builtin.Str.strSub (T l) i j = T ((l.drop i).take (j - i)) := by
  show Str.mk (l.toArray.extract i j) = _
  congr 1
  simp

/-- t.split(c, 1) where the sign occurs -/
theorem BI.split1 {k v : List Nat} {c : Nat} (h : c ∉ k) (hc : ∀ x ∈ k ++ c :: v, x < 256) (hx : (k ++ c :: v).length ≤ 10000000) : BI C n "str.split" [.str (k ++ c :: v), .str [c], .int 1] (.list [.str k, .str v]) := by
  intro A s bad vs Q E W ii K
  obtain ⟨_, _, _, rfl, ii0, j, z⟩ := ii.three
  obtain ⟨t, rfl⟩ := ii0.strInv
  obtain ⟨u, rfl⟩ := j.strInv
  obtain ⟨w, rfl⟩ := z.intInv
  obtain ⟨rest, e⟩ := occ_one (v := v) h 1 (Nat.le_refl _)
  have hlen := StrLaws.occ_length_le (T (k ++ c :: v)) ⟨#[c]⟩ 0 (T (k ++ c :: v)).length 1
  have hr : rest = [] := by
    rw [e] at hlen
    cases rest with
    | nil => rfl
    | cons a b => simp at hlen
  subst hr
  have elim : limitOf (T (k ++ c :: v)) 1 = 1 := by unfold limitOf; simp
  have eparts : Builtin.Str.partsBetween (T (k ++ c :: v)) (Builtin.Str.occurrences (T (k ++ c :: v)) ⟨#[c]⟩ 0 (T (k ++ c :: v)).length (limitOf (T (k ++ c :: v)) 1)) (⟨#[c]⟩ : Str).length = [k, v].map T := by
    rw [elim, e]
    show [Builtin.Str.strSub (T (k ++ c :: v)) 0 k.length, Builtin.Str.strSub (T (k ++ c :: v)) (k.length + 1) (T (k ++ c :: v)).length] = _
    rw [strSubT, strSubT, T_length]
    simp
    exact List.take_of_length_le (by omega)
  have hkind : Builtin.Str.strKind (T (k ++ c :: v)) = 1 := by
    unfold Builtin.Str.strKind
    rw [if_pos]
    have : ∀ x ∈ (k ++ c :: v).toArray, x < 256 := fun x hx => hc x (by simpa using hx)
    rw [Array.all_eq_true']
    exact fun x hx => decide_eq_true (this x hx)
  have hkind' : Builtin.Str.strKind (⟨#[c]⟩ : Str) = 1 := by
    unfold Builtin.Str.strKind
    rw [if_pos]
    have := hc c (by simp)
    simpa using this
  refine call_meets F.slot_str_split (typeIs_str _ _ _) F.entry_str_split (F.args_str_split_3 _ _ _) (meets_str_split_sep_max (T (k ++ c :: v)) ⟨#[c]⟩ 1 t u w (by decide) ?_ rfl ?_ (by rw [T_length, sizeLine_eq]; omega) (by rw [eparts, sizeLine_eq]; simp)) ?_
  · rw [hkind, hkind', T_length]
    simp [Str.length]
  · rw [elim, e]; rfl
  · rw [eparts]
    exact K _ _ ⟨_, _, rfl, fun b o e => Heap.get?_push_of_some _ e⟩ (.list (n := 0) W.fresh (Heap.get?_push_size _ rfl) (DAll.strsFrom [k, v] _))

/-- the place of a text in a list of texts -/
theorem BI.listIndex {ls : List (List Nat)} {l : List Nat} {j : Nat} (hj : j < ls.length) (hit : ls[j] = l) (hno : ∀ m (hm : m < ls.length), m < j → ls[m] ≠ l) (hsz : ls.length ≤ 10000000) : BI C n "list.index" [.list (ls.map D.str), .str l] (.int j) := by
  intro A s bad vs Q E W ii K
  obtain ⟨_, _, rfl, ii0, z⟩ := ii.two
  obtain ⟨a, us, kk, rfl, hb, ho, all⟩ := ii0.lstInv
  obtain ⟨u, rfl⟩ := z.strInv
  have hst := all.strs
  have hlen : us.length = ls.length := by rw [all.length, List.length_map]
  have get : ∀ m (hm : m < us.length), ∃ t, us[m] = .str (T (ls[m]'(hlen ▸ hm))) t := fun m hm => by
    obtain ⟨d, hd, hi⟩ := all.get' (List.getElem?_eq_getElem hm)
    rw [List.getElem?_map, List.getElem?_eq_getElem (hlen ▸ hm)] at hd
    cases hd
    generalize hv : us[m] = v at hi
    cases hi with | str _ t => exact ⟨t, rfl⟩
  have hj' : j < us.length := hlen.symm ▸ hj
  refine call_meets (T := "list") F.slot_list_index ⟨_, ho, rfl⟩ F.entry_list_index (F.args_list_index_2 _ _) (SeqAt.list_indexAt a us.toArray kk none #[] (.str (T l) u) (isStrOf (T l)) j (by simpa using hj') (by omega) ?_ ?_) ⟨ho, fun y hy => ?_, K _ _ (.tok _) (.int _ _)⟩
  · obtain ⟨t, e⟩ := get j hj'
    simp only [List.getElem_toArray, e, isStrOf]
    rw [hit]; simp
  · intro m hm hmj
    have hm' : m < us.length := by simpa using hm
    obtain ⟨t, e⟩ := get m hm'
    simp only [List.getElem_toArray, e, isStrOf]
    rw [beq_eq_false_iff_ne]
    exact fun q => hno m (hlen ▸ hm') hmj (T_inj q)
  · exact (eq_isStrOf (T l) u hst y (by simpa using hy)).at _ _

/-! kinds -/
theorem BI.isList {ds : List D} : BI C n "isinstance" [.list ds, .val (.type "list")] (.bool true) := by
  intro A s bad vs Q E W ii K
  obtain ⟨_, _, rfl, ii0, z⟩ := ii.two
  obtain ⟨a_ii, vs_ii, n_ii, rfl, hb, ho, all⟩ := ii0.lstInv
  obtain rfl := z.valInv
  exact call_isinstance_yes (Tx := "list") (T := "list") ⟨_, ho, rfl⟩ (by kernel_rfl) (by rw [isSubtype_type]; kernel_rfl) (K _ _ .rfl' (.bool _))
theorem BI.notList {l : List Nat} : BI C n "isinstance" [.str l, .val (.type "list")] (.bool false) := by
  intro A s bad vs Q E W ii K
  obtain ⟨_, _, rfl, ii0, z⟩ := ii.two
  obtain ⟨t, rfl⟩ := ii0.strInv
  obtain rfl := z.valInv
  refine call_isinstance_of ?_ (by intro e; cases e)
  obtain ⟨h, g, dr, tk, os⟩ := s
  exact isinstance_nested_false_str (by decide) (by kernel_rfl) (by rw [isSubtype_type]; kernel_rfl) (K _ _ (.tok _) (.bool _))
end
end Mine

-- Kit18
namespace Mine

section
variable {C : Cfg} {n : Nat} {sc : Scope} {Γ : Gm} {O : Own} {r : Rt} {bc mu : List Addr} {h h' : Heap} {s s' : Shared}

theorem OP2.addList {ds es : List D} (hl : ds.length + es.length ≤ 10000000) : OP2 C n (binaryOp .Add) (.list ds) (.list es) (.list (ds ++ es)) := by
  intro A s bad v₁ v₂ Q E W i₁ i₂ K
  obtain ⟨a, vs, k, rfl, hb, ho, a₁⟩ := i₁.lstInv
  obtain ⟨b, us, k', rfl, hb', ho', a₂⟩ := i₂.lstInv
  refine P.add_list (n := k) (n2 := k') ho ho' ?_ (by rw [List.size_toArray, List.size_toArray, a₁.length, a₂.length, sizeLine_eq]; omega)
  refine K _ _ (.push _) (.list (n := 0) (vs := vs ++ us) W.fresh (by rw [Heap.get?_push_size _ rfl]; simp) ((a₁.append a₂).mono fun b o _ e => Heap.get?_push_of_some _ e))

theorem KV.get {kvs : List (Str × Value)} {ds : List (List Nat × List Nat)} (x : KV kvs ds) : ∀ {j : Nat} {k : Str} {v : Value}, kvs[j]? = some (k, v) → ∃ a b t, ds[j]? = some (a, b) ∧ k = T a ∧ v = .str (T b) t := by
  induction x with
  | nil => intro j k v e; simp at e
  | cons _ ih =>
    intro j k v e
    cases j with
    | zero => simp at e; exact ⟨_, _, _, rfl, e.1.symm, e.2.symm⟩
    | succ j => simp at e; obtain ⟨a, b, t, h1, h2⟩ := ih e; exact ⟨a, b, t, by simpa using h1, h2⟩
theorem KV.length {kvs : List (Str × Value)} {ds : List (List Nat × List Nat)} (x : KV kvs ds) : kvs.length = ds.length := by
  induction x with
  | nil => rfl
  | cons _ ih => simp [ih]

noncomputable def pairD (p : List Nat × List Nat) : D := .tuple [.str p.1, .str p.2]

theorem DAll.ofGet {bad : List Addr} {h : Heap} : ∀ {vs : List Value} {ds : List D}, vs.length = ds.length → (∀ (j : Nat) (v : Value), vs[j]? = some v → ∃ d, ds[j]? = some d ∧ DIn C bad h v d) → DAll C bad h vs ds
  | [], [], _, _ => .nil
  | [], _ :: _, e, _ => by simp at e
  | _ :: _, [], e, _ => by simp at e
  | v :: vs, d :: ds, e, hh => by
    obtain ⟨d', hd, hi⟩ := hh 0 v rfl
    simp at hd
    subst hd
    exact .cons hi (DAll.ofGet (by simpa using e) fun j u hj => by
      obtain ⟨d', hd, hi⟩ := hh (j + 1) u (by simpa using hj)
      exact ⟨d', by simpa using hd, hi⟩)

/-- list(e.items()) -/
theorem EV.listItems {x : Str} {e : Expr} {p ap cp pos : Pos} {kvs : List (List Nat × List Nat)} (hq : C.q = true) (hf : EV C n sc Γ (.Name x p) (.val (.type "list"))) (he : EV C n sc Γ e (.dict kvs)) (hl : kvs.length ≤ 10000000)
    (hbase : ∀ env, attributeBase e (Str.ofString "items") env (eval e env) = eval e env := by intro _; rfl) (hline : (ap.endLine == cp.line) = true := by rfl) :
    EV C n sc Γ (.Call (.Name x p) [.Call (.Attribute e (Str.ofString "items") ap) [] [] cp] [] pos) (.list (kvs.map pairD)) := by
  refine ⟨fun A s r bad Q E W G K => ?_⟩
  refine wpAny_Call_Name_kw (hf.run A s r bad _ E W G fun f s₁ k₁ i₁ => ?_)
  obtain rfl := i₁.valInv
  refine PySem.callWith_type rfl (Calls.evalArgs_plain (Calls.spliced_cons ?_))
  refine Call_method0 (hbase _) hline (he.run A s₁ r bad _ E (W.keeps k₁.heap) (G.keeps k₁.heap) fun v₂ s₂ k₂ i₂ => ?_)
  have W₂ := (W.keeps k₁.heap).keeps k₂.heap
  obtain ⟨d, vs, rfl, hb, ⟨hsys, es, ep, ho⟩, hd, kv⟩ := i₂.dctInv
  refine ⟨"dict", "dict.items", F.plainAttrs_dict, F.slot_dict_items, F.type_dict_items, ⟨_, ho, rfl⟩, fun b e => by cases e; exact ⟨_, ho, rfl⟩, ?_⟩
  refine Calls.callWith_builtin rfl (PySem.evalArgs_none ?_)
  refine call_meetsIn F.slot_dict_items ⟨_, ho, rfl⟩ F.entry_dict_items (F.args_dict_items_1 _) (meets_dict_items (PySem.strKind C.prog C.w) d hsys) ⟨⟨vs, hd⟩, ?_⟩
  refine Calls.spliced_nil ?_
  have hdat : ∃ ep, (s₂.heap.push { cls := .type "dict_items", data := .fields #[.ref d] }).DictAt (PySem.strKind C.prog C.w) d vs ep := by
    obtain ⟨o, es', ep', ho', r⟩ := hd
    exact ⟨ep', o, es', Heap.get?_push_of_some _ ho', r⟩
  obtain ⟨ep', hdat⟩ := hdat
  refine kdx_call (s := { s₂ with heap := s₂.heap.push { cls := .type "dict_items", data := .fields #[.ref d] } }) (knd := PySem.strKind C.prog C.w) (kvs := vs) (ep := ep') (W.quiet hq) ⟨_, Heap.get?_push_size _ rfl, rfl, rfl⟩ hdat (by rw [kv.length, sizeLine_eq]; omega) fun h' tk acc c as hk hS hlen hG hacc => ?_
  have W₃ : Wd C n A bad (s₂.heap.push { cls := .type "dict_items", data := .fields #[.ref d] }) := W₂.keeps fun b o e => Heap.get?_push_of_some _ e
  have k₄ : Kp s₂ { s₂ with heap := h', toks := tk } := ⟨h', tk, rfl, fun b o e => hk b o (Heap.get?_push_of_some _ e)⟩
  refine K _ _ ((k₁.trans k₂).trans k₄) (.list (n := c) (vs := as.map Value.ref) W₃.fresh ?_ (DAll.ofGet ?_ ?_))
  · show h'.get? _ = _
    rw [hS]
    have : acc = (as.map Value.ref).toArray := by rw [← hacc]
    rw [this]
  · simp [hlen, kv.length]
  · intro j v hj
    rw [List.getElem?_map] at hj
    cases ha : as[j]? with
    | none => rw [ha] at hj; cases hj
    | some a =>
      rw [ha] at hj
      cases hj
      obtain ⟨key, k, x, h1, h2, h3⟩ := hG.pairs j a ha
      obtain ⟨a1, b1, t1, e1, e2, e3⟩ := kv.get h1
      subst e2 e3
      refine ⟨pairD (a1, b1), by rw [List.getElem?_map, e1]; rfl, ?_⟩
      obtain ⟨tt, htt⟩ := Value.isStrOf_shape h2
      subst htt
      refine .tuple (n := 0) (vs := [.str (T a1) tt, .str (T b1) t1]) (fun q => ?_) h3 (.cons (.str _ _) (.cons (.str _ _) .nil))
      have hlt := Heap.lt_size (Option.isSome_iff_exists.mp (W₃.live a q)).choose_spec
      exact Nat.lt_irrefl _ (Nat.lt_trans (hG.above a (List.mem_of_getElem? ha)) hlt)

/-- range(k) -/
theorem EI.range {x : Str} {e : Expr} {p pos : Pos} {k : Nat} (hf : EV C n sc Γ (.Name x p) (.val (.type "range"))) (he : EV C n sc Γ e (.int k)) (hk : k ≤ 10000000)
    (hst : ∀ env, starEach [e] env = [(false, eval e env)] := by intro _; rfl) :
    EI C n sc Γ (.Call (.Name x p) [e] [] pos) ((List.range k).map fun (i : Nat) => .int i) := by
  refine ⟨fun A s r bad Q E W G K => ?_⟩
  refine wpAny_Call_Name_kw (hf.run A s r bad _ E W G fun f s₁ k₁ i₁ => ?_)
  obtain rfl := i₁.valInv
  rw [hst]
  refine PySem.callWith_type rfl (Calls.evalArgs_plain (Calls.spliced_cons ?_))
  refine he.run A s₁ r bad _ E (W.keeps k₁.heap) (G.keeps k₁.heap) fun v₂ s₂ k₂ i₂ => Calls.spliced_nil ?_
  obtain ⟨t, rfl⟩ := i₂.intInv
  refine call_range_1 ?_
  have W₂ := (W.keeps k₁.heap).keeps k₂.heap
  generalize hs₃ : ({ s₂ with heap := s₂.heap.push { cls := .type "range", data := .fields #[.int 0 s₂.toks, .int (k : Int) t, .int 1 (s₂.toks + 1)] }, toks := s₂.toks + 1 + 1 } : Shared) = s₃
  have k₃ : Kp s₂ s₃ := ⟨_, _, hs₃.symm, fun b o e => Heap.get?_push_of_some _ e⟩
  have W₃ := W₂.keeps k₃.heap
  have hr : IsRange s₃.heap s₂.heap.objs.size 0 k 1 s₂.toks t (s₂.toks + 1) := by rw [← hs₃]; exact Heap.get?_push_size _ rfl
  refine wpAny_pyIter_range hr (small_one (by omega) (by omega) (by omega) (by omega)) ?_
  have hsz : Builtin.Range.rangeSize 0 (k : Int) 1 = (k : Int) := by rw [rangeSize_nat]; simp
  rw [hsz]
  have nohold : ∀ (h : Heap) (x l : Int), HeldAt A h → IsRangeIter h s₃.heap.objs.size x l 1 → ∀ b, A.handled = some (.ref b) → b ≠ s₃.heap.objs.size := fun h x l hh hit => heldNe hh hit rfl (by simp [rawInt])
  refine K s₃.heap.objs.size s₃ _ (s₃.heap.objs.size :: heldAddrs A) (fun i v => i < k ∧ ∃ t, v = .int (i : Int) t)
    (fun i h => IsRangeIter h s₃.heap.objs.size (i : Nat) ((k : Int) - (i : Nat)) 1 ∧ HeldAt A h) ((k₁.trans k₂).trans k₃) ⟨Kp.push _, get_fresh, by rw [Heap.get?_push_size _ rfl]; rfl, ?_, ?_, ?_, ?_, ?_, ?_⟩
  · rw [List.length_map, List.length_range]
    refine ⟨fun b hb => by simp at hb; simp [hb], fun i h h' st hkk => ?_, fun i s₁ Q E hi st hQ => ?_, fun s₁ Q E st hQ => ?_, fun i s₁ Q E st hQ => wpAny_pyIter_rangeiter st.1 hQ⟩
    · exact ⟨hkk _ (by simp) _ st.1, st.2.keeps fun b hb o e => hkk b (by simp [hb]) o e⟩
    · refine wpAny_pyNext_range_item st.1 (by omega) fun h' hit' hs' => ?_
      refine hQ _ h' (s₁.toks + 1) ⟨hi, _, rfl⟩ ⟨?_, st.2.keeps fun b hb o e => hs'.extBut b o (nohold _ _ _ st.2 st.1 b (heldMem hb)) e⟩ fun b o hb e => hs'.extBut b o (fun h => hb (by simp [h])) e
      have e1 : ((i + 1 : Nat) : Int) = (i : Int) + 1 := by push_cast; rfl
      have e2 : (k : Int) - ((i + 1 : Nat) : Int) = (k : Int) - (i : Int) - 1 := by omega
      rw [e2, e1]; exact hit'
    · exact range_end st.2 st.1 (by omega) fun h' he' => hQ h' s₁.toks fun b o hb e => he' b o (fun h => hb (by simp [h])) e
  · refine ⟨?_, W₃.held.at.keeps fun b _ o e => Heap.get?_push_of_some _ e⟩
    show (s₃.heap.push _).get? _ = _
    rw [Heap.get?_push_size _ rfl]
    simp [rawInt]
  · intro i h st
    rw [st.1]; rfl
  · intro b hb
    rcases List.mem_cons.mp hb with q | q
    · exact .inl q
    · right
      obtain ⟨h1, h2⟩ := held_fp W₃ b q
      obtain ⟨o, e⟩ := Option.isSome_iff_exists.mp h2
      exact ⟨h1, by rw [Heap.get?_push_of_some _ e]; rfl⟩
  · intro i v hv
    obtain ⟨hi, t, rfl⟩ := hv
    exact ⟨.int i, by simp [hi], .int _ _⟩
  · intro i t target v Q E st hQ
    exact letOwn st.1 rfl (by decide) hQ
end
end Mine

-- Kit19
namespace Mine

/-- a key's value stored -/
noncomputable def storeKV (kvs : List (List Nat × List Nat)) (k v : List Nat) : List (List Nat × List Nat) :=
  if kvs.any (fun p => p.1 == k) then kvs.map (fun p => if p.1 == k then (p.1, v) else p) else kvs ++ [(k, v)]

theorem KV.any {kvs : List (Str × Value)} {ds : List (List Nat × List Nat)} (x : KV kvs ds) (k : List Nat) : kvs.any (fun p => decide (p.1 = T k)) = ds.any (fun p => p.1 == k) := by
  induction x with
  | nil => rfl
  | cons _ ih =>
    rename_i a b t r rs _
    rw [List.any_cons, List.any_cons, ih]
    congr 1
    by_cases h : a = k
    · subst h; simp
    · have h1 : ¬ T a = T k := fun e => h (T_inj e)
      simp [h, h1]
theorem KV.map {kvs : List (Str × Value)} {ds : List (List Nat × List Nat)} (x : KV kvs ds) (k v : List Nat) (t : Tok) :
    KV (kvs.map fun p => if p.1 = T k then (p.1, .str (T v) t) else p) (ds.map fun p => if p.1 == k then (p.1, v) else p) := by
  induction x with
  | nil => exact .nil
  | cons _ ih =>
    rename_i a b t' r rs _
    rw [List.map_cons, List.map_cons]
    by_cases h : a = k
    · subst h
      simp only [if_true, beq_self_eq_true]
      exact .cons ih
    · have h1 : ¬ T a = T k := fun e => h (T_inj e)
      simp only [h1, if_false, beq_eq_false_iff_ne.mpr h, Bool.false_eq_true]
      exact .cons ih
theorem KV.append {kvs us : List (Str × Value)} {ds es : List (List Nat × List Nat)} (x : KV kvs ds) (y : KV us es) : KV (kvs ++ us) (ds ++ es) := by
  induction x with
  | nil => exact y
  | cons _ ih => exact .cons ih
theorem KV.stored {kvs : List (Str × Value)} {ds : List (List Nat × List Nat)} (x : KV kvs ds) (k v : List Nat) (t : Tok) : KV (stored kvs (T k) (.str (T v) t)) (storeKV ds k v) := by
  unfold PySem.stored storeKV
  rw [← x.any k]
  by_cases h : (kvs.any fun p => decide (p.1 = T k)) = true
  · rw [if_pos h, if_pos h]; exact x.map k v t
  · rw [if_neg h, if_neg h]; exact x.append (.cons .nil)

theorem exactDict {C : Cfg} {h : Heap} {a : Addr} {kvs : List (Str × Value)} (x : Heap.DictOf (strKind C.prog C.w) h a kvs) : ∃ es k, h.get? a = some { cls := .type "dict", data := .dict es k } := by
  obtain ⟨⟨c, d, dt, sl⟩, es, ep, ho, ⟨h1, h2, h3⟩, h4, _⟩ := x
  simp only at h1 h2 h3 h4
  subst h1 h2 h3 h4
  exact ⟨es, ep, ho⟩

section
variable {C : Cfg} {n : Nat} {sc : Scope} {Γ : Gm} {O : Own} {r : Rt} {bc mu : List Addr} {h h' : Heap} {s s' : Shared}

theorem Wd.big {A : Around} {bad : List Addr} (W : Wd C n A bad s.heap) : (s.heap.objs.size == sysModules) = false := by
  have := W.g.lt
  rw [beq_eq_false_iff_ne]
  intro e
  rw [e] at this
  exact absurd this (by decide)

/-- x = {} -/
theorem ES.newDict {x : Str} {p p' pos : Pos} (hf : sc.kind = .function) (hx : sc.names.lookup x = some .local) (hΓ : Γ.lookup x = none) :
    ES C n sc Γ .none (.Assign [.Name x p] (.Dict [] [] p') pos) (.next Γ (.dct x [])) := by
  refine ⟨fun A s r bc mu Q E W F P => ?_⟩
  refine wpAny_Assign_Name (wpAny_Dict_empty ?_) rfl
  have F₁ := F.grow W { cls := .type "dict", data := .dict #[] } rfl
  refine FOk.storeV (s := { s with heap := s.heap.push { cls := .type "dict", data := .dict #[] } }) hf (.inl hx) F₁ fun q h' tk hp hpO hs hlive hns hcell hvar hx' => ?_
  have hqa : q ≠ s.heap.objs.size := F.ne_fresh (F.place hpO)
  have hobj : h'.get? s.heap.objs.size = some { cls := .type "dict", data := .dict #[] } := (hs.2 _ (Ne.symm hqa)).trans (Heap.get?_push_size _ rfl)
  have hput := FOk.put (s := { s with heap := s.heap.push { cls := .type "dict", data := .dict #[] } }) (x := x) (tk := tk) (Γ' := Γ) (O' := .dct x []) F₁ hp hs hlive hns hcell hvar
    ⟨s.heap.objs.size, [], hx', ⟨W.big, _, _, hobj⟩, ⟨_, #[], 0, hobj, ⟨rfl, rfl, rfl⟩, rfl, fun e he => by simp at he, .nil, List.nodup_nil⟩, .nil, List.mem_cons_self, Ne.symm (F.ne_fresh F.lmut),
      fun y c hc e => by have := F.cliv y c hc; rw [e, get_fresh] at this; cases this⟩
    (fun y d e => .inl ⟨fun z => (by rw [z, hΓ] at e; cases e), e⟩)
  refine P _ _ ((Step.of_kp (Kp.push _)).trans hput.1 fun a ha => ?_) (fun a ha => ?_) hput.2
  · rcases List.mem_cons.mp ha with z | z
    · right; rw [z]; exact get_fresh
    · exact .inl z
  · rcases List.mem_cons.mp ha with z | z
    · right; rw [z]; exact get_fresh
    · exact .inl z

/-- x[i] = e -/
theorem ES.setItem {x : Str} {p p' pos : Pos} {i e : Expr} {kvs : List (List Nat × List Nat)} {k v : List Nat} (he : EV C n sc Γ e (.str v)) (hi : EV C n sc Γ i (.str k)) (hf : sc.kind = .function) (hsz : kvs.length ≤ 10000000)
    (hd : (x == ("__debug__" : Str)) = false := by decide +kernel) (hc : (x == ("__classdict__" : Str)) = false := by decide +kernel)
    (hs : ∀ r, swapsWith e (some (.Subscript (.Name x p) i p')) pos.line (En sc r) = pure false := by intro _; rfl) :
    ES C n sc Γ (.dct x kvs) (.Assign [.Subscript (.Name x p) i p'] e pos) (.next Γ (.dct x (storeKV kvs k v))) := by
  refine ⟨fun A s r bc mu Q E W F P => ?_⟩
  refine wpAny_Assign_Subscript (he.run A s r (mu ++ bc) _ E W F.go fun v₁ s₁ k₁ i₁ => ?_) (hs r)
  obtain ⟨a, vs, hv, ⟨hsys, es, kk, ho⟩, hdo, kv, ha, haL, hac⟩ := F.own
  refine (hv.keeps k₁.heap).load hf ?_ hd hc
  refine hi.run A s₁ r (mu ++ bc) _ E (W.keeps k₁.heap) (F.go.keeps k₁.heap) fun v₂ s₂ k₂ i₂ => ?_
  have k12 := k₁.trans k₂
  obtain ⟨t, rfl⟩ := i₁.strInv
  obtain ⟨u, rfl⟩ := i₂.strInv
  refine wpAny_setItem_pairs (knd := PySem.strKind C.prog C.w) (strKind_is C.prog C.w (T k) u) (DictOf.at hdo fun o e => k12.heap _ o e) (fun h' hd' hs' => ?_) (by rw [kv.length, sizeLine_eq]; omega)
  have F₂ := F.keeps k12.heap
  obtain ⟨es', kk', ho'⟩ := exactDict hd'
  have := F₂.touch (tk := s₂.toks + 1) (O' := .dct x (storeKV kvs k v)) ha haL hac hs' (by rw [ho']; rfl)
    ⟨a, _, (hv.keeps k12.heap).sameBut hs' haL hac, ⟨hsys, es', kk', ho'⟩, hd', kv.stored k v t, ha, haL, hac⟩
  exact P _ mu ((Step.of_kp k12).trans this.1 fun _ q => .inl q) (fun _ q => .inl q) this.2

theorem FOk.freezeD {x : Str} {kvs : List (List Nat × List Nat)} (F : FOk C sc r bc mu s.heap Γ (.dct x kvs)) : ∃ mu', (∀ a ∈ mu', a ∈ mu) ∧ FOk C sc r bc mu' s.heap ((x, .dict kvs) :: Γ) .none := by
  obtain ⟨a, vs, hv, ho, hdo, kv, ha, haL, hac⟩ := F.own
  refine ⟨mu.filter (· != a), fun b hb => (List.mem_filter.mp hb).1, ?_⟩
  have hin : ∀ b, b ∈ mu.filter (· != a) ++ bc → b ∈ mu ++ bc := fun b hb => by
    rcases List.mem_append.mp hb with q | q
    · exact List.mem_append_left _ (List.mem_filter.mp q).1
    · exact List.mem_append_right _ q
  refine ⟨F.ns, List.mem_filter.mpr ⟨F.lmut, by simpa using Ne.symm haL⟩, fun y c h1 h2 => ?_, F.has, F.apart, F.nol, F.cliv, fun b hb => F.live b (List.mem_filter.mp hb).1, fun b hb => F.disj b (List.mem_filter.mp hb).1, ?_, trivial⟩
  · obtain ⟨q1, q2, q3⟩ := F.cell y c h1 h2
    exact ⟨List.mem_filter.mpr ⟨q1, by simpa using hac y c h1⟩, q2, q3⟩
  · intro y d e
    rw [List.lookup_cons] at e
    by_cases hy : y = x
    · subst hy
      rw [beq_self_eq_true] at e
      cases e
      refine ⟨.ref a, hv, .dict (fun q => ?_) ho hdo kv⟩
      rcases List.mem_append.mp q with z | z
      · have := (List.mem_filter.mp z).2; simp at this
      · exact F.disj a ha z
    · rw [beq_eq_false_iff_ne.mpr hy] at e
      obtain ⟨v, hv', hd⟩ := F.go y d e
      exact ⟨v, hv', hd.less hin⟩
theorem EX.freezeD {x : Str} {kvs : List (List Nat × List Nat)} {ss : List Stmt} {out : Out} (h : EX C n sc ((x, .dict kvs) :: Γ) .none ss out) : EX C n sc Γ (.dct x kvs) ss out := by
  refine ⟨fun A s r bc mu Q E W F P => ?_⟩
  obtain ⟨mu', hm, F'⟩ := F.freezeD
  exact h.run A s r bc mu' Q E (W.less (app_sub hm)) F' (P.step .refl fun a ha => .inl (hm a ha))
end
end Mine

-- Kit20
namespace Mine

section
variable {C : Cfg} {n : Nat} {sc : Scope} {Γ : Gm} {O : Own} {r : Rt} {bc mu : List Addr} {h h' : Heap} {s s' : Shared}



/-- x = [[]] -/
theorem ES.newRows {x : Str} {p p' p'' pos : Pos} (hf : sc.kind = .function) (hx : sc.names.lookup x = some .local) (hΓ : Γ.lookup x = none) :
    ES C n sc Γ .none (.Assign [.Name x p] (.List [.List [] p''] p') pos) (.next Γ (.rows x [] [])) := by
  refine ⟨fun A s r bc mu Q E W F P => ?_⟩
  refine wpAny_Assign_Name (wpAny_List (wpAny_items_cons (wpAny_List (wpAny_items_nil ⟨by simp, wpAny_items_nil ⟨by simp [sizeLine_eq], ?_⟩⟩)))) rfl
  have F₁ := F.grow W (lobj [] 0) rfl
  have W₁ : Wd C n A ((s.heap.objs.size :: mu) ++ bc) (s.heap.push (lobj [] 0)) := W.extra (extra := [s.heap.objs.size]) (fun _ _ e => Heap.get?_push_of_some _ e) (fun a ha => by rw [List.mem_singleton.mp ha]; exact get_fresh) fun a ha => by
    rw [List.mem_singleton.mp ha, Heap.get?_push_size _ rfl]; rfl
  have F₂ := FOk.grow (s := { s with heap := s.heap.push (lobj [] 0) }) W₁ F₁ (lobj [.ref s.heap.objs.size] 0) rfl
  have hsz : (s.heap.push (lobj [] 0)).objs.size = s.heap.objs.size + 1 := Heap.size_push ..
  have hne : (s.heap.push (lobj [] 0)).objs.size ≠ s.heap.objs.size := by rw [hsz]; exact Nat.succ_ne_self _
  refine FOk.storeV (s := { s with heap := (s.heap.push (lobj [] 0)).push (lobj [.ref s.heap.objs.size] 0) }) hf (.inl hx) F₂ fun q h' tk hp hpO hs hlive hns hcell hvar hx' => ?_
  have hq1 : q ≠ s.heap.objs.size := F.ne_fresh (F.place hpO)
  have hq2 : q ≠ (s.heap.push (lobj [] 0)).objs.size := FOk.ne_fresh (s := { s with heap := s.heap.push (lobj [] 0) }) F₁ (List.mem_cons_of_mem _ (F.place hpO))
  have ho1 : h'.get? s.heap.objs.size = some (lobj [] 0) := (hs.2 _ (Ne.symm hq1)).trans (Heap.get?_push_of_some _ (Heap.get?_push_size _ rfl))
  have ho2 : h'.get? (s.heap.push (lobj [] 0)).objs.size = some (lobj ([] ++ [.ref s.heap.objs.size]) 0) := (hs.2 _ (Ne.symm hq2)).trans (Heap.get?_push_size _ rfl)
  have fresh2 : s.heap.get? (s.heap.push (lobj [] 0)).objs.size = none := by
    cases e : s.heap.get? (s.heap.push (lobj [] 0)).objs.size with
    | none => rfl
    | some o => have := Heap.lt_size e; rw [hsz] at this; exact absurd this (Nat.not_lt.mpr (Nat.le_succ _))
  have hL1 := F.ne_fresh F.lmut
  have hL2 : r.L ≠ (s.heap.push (lobj [] 0)).objs.size := fun e => by have := F.live _ F.lmut; rw [e, fresh2] at this; cases this
  have hput := FOk.put (s := { s with heap := (s.heap.push (lobj [] 0)).push (lobj [.ref s.heap.objs.size] 0) }) (x := x) (tk := tk) (Γ' := Γ) (O' := .rows x [] []) F₂ hp hs hlive hns hcell hvar
    ⟨(s.heap.push (lobj [] 0)).objs.size, [], 0, s.heap.objs.size, [], 0, hx', ho2, ho1, .nil, .nil, List.mem_cons_self, List.mem_cons_of_mem _ List.mem_cons_self, hne, Ne.symm hL2, Ne.symm hL1, fun y c hc => by
      have := F.cliv y c hc
      exact ⟨fun e => (by rw [e, fresh2] at this; cases this), fun e => (by rw [e, get_fresh] at this; cases this)⟩⟩
    (fun y d e => .inl ⟨fun z => (by rw [z, hΓ] at e; cases e), e⟩)
  have fr : ∀ a ∈ (s.heap.push (lobj [] 0)).objs.size :: s.heap.objs.size :: mu, a ∈ mu ∨ s.heap.get? a = none := fun a ha => by
    rcases List.mem_cons.mp ha with z | z
    · right; rw [z]; exact fresh2
    · rcases List.mem_cons.mp z with z | z
      · right; rw [z]; exact get_fresh
      · exact .inl z
  exact P _ _ ((Step.of_kp ((Kp.push (s := s) _).trans (Kp.push _))).trans hput.1 fr) fr hput.2

/-- rows[-1].append(e) -/
theorem ES.rowsPut {x : Str} {p p1 p2 ap cp pos sp : Pos} {k1 : Nat} {e : Expr} {dss : List (List D)} {last : List D} {d : D} (he : EV C n sc Γ e d) (hf : sc.kind = .function) (hsz : last.length ≤ 10000000) (hsz' : dss.length ≤ 10000000)
    (hst : ∀ env, starEach [e] env = [(false, eval e env)] := by intro _; rfl) (hline : (ap.endLine == cp.line) = true := by rfl)
    (hd : (x == ("__debug__" : Str)) = false := by decide +kernel) (hc : (x == ("__classdict__" : Str)) = false := by decide +kernel) :
    ES C n sc Γ (.rows x dss last) (.Expr (.Call (.Attribute (.Subscript (.Name x p) (.UnaryOp .USub (.Constant (.int 1) k1 p1) p2) sp) (Str.ofString "append") ap) [e] [] cp) pos) (.next Γ (.rows x dss (last ++ [d]))) := by
  refine ⟨fun A s r bc mu Q E W F P => ?_⟩
  refine wpAny_Expr_any (Call_method1 rfl (hst _) hline ?_) ?_ rfl
  · obtain ⟨a, vs, k, a₂, vs₂, k₂, hv, ho, ho₂, hall, hall₂, ha, ha₂, haa, haL, ha₂L, hac⟩ := F.own
    refine subAny (T := "list") slot_list_getitem.lookup (hv.load hf ?_ hd hc)
    refine (EV.neg1 (C := C) (n := n) (sc := sc) (Γ := Γ)).run A s r (mu ++ bc) _ E W F.go fun v₁ s₁ k₁ i₁ => ?_
    have ho₁ := k₁.heap _ _ ho
    obtain ⟨t, rfl⟩ := i₁.intInv
    have hl : s₁.heap.IsList a (vs ++ [Value.ref a₂]).toArray := ⟨_, ho₁, rfl, _, rfl⟩
    have hlen := hall.length
    rw [List.length_map] at hlen
    refine ⟨hl.typeIs, wpAny_getItem_list_neg hl (by omega) (by simp; omega) (by omega) (x := .ref a₂) ?_ ?_⟩
    · have : ((-1 : Int) + ((vs ++ [Value.ref a₂]).toArray.size : Int)).toNat = vs.length := by simp; omega
      rw [this]; simp
    have ho₂' := k₁.heap _ _ ho₂
    refine ⟨"list", "list.append", PySem.F.plainAttrs_list, PySem.F.slot_list_append, PySem.F.type_list_append, ⟨_, ho₂', rfl⟩, fun b e => by cases e; exact ⟨_, ho₂', rfl⟩, ?_⟩
    refine Calls.callWith_builtin rfl (Calls.evalArgs_plain (Calls.spliced_cons ?_))
    refine he.run A s₁ r (mu ++ bc) _ E (W.keeps k₁.heap) (F.go.keeps k₁.heap) fun v s₂ k₂' i₂ => Calls.spliced_nil ?_
    have kk := k₁.trans k₂'
    have ho₂'' := kk.heap _ _ ho₂
    have hlen₂ := hall₂.length
    refine wpAny_list_append_plain (l := a₂) (items := vs₂.toArray) ⟨k₂, ho₂''⟩ (fun h' hl' hs => ?_) (by rw [List.size_toArray, hlen₂, sizeLine_eq]; omega)
    obtain ⟨k', hl'⟩ := hl'
    have same' : ∀ b o, b ∉ mu ++ bc → s₂.heap.get? b = some o → h'.get? b = some o := fun b o hb e => (hs.2 b (fun q => hb (List.mem_append_left _ (q ▸ ha₂)))).trans e
    have F₂ := F.keeps kk.heap
    have hac₂ : ∀ y c, r.cs.lookup y = some c → c ≠ a₂ := fun y c e => (hac y c e).2
    have := F₂.touch (tk := s₂.toks) (O' := .rows x dss (last ++ [d])) ha₂ ha₂L hac₂ hs (by rw [hl']; rfl)
      ⟨a, vs, k, a₂, vs₂ ++ [v], k', (hv.keeps kk.heap).sameBut hs ha₂L hac₂, (hs.2 a haa).trans (kk.heap _ _ ho), by rw [hl']; simp, (hall.mono fun b o _ e => kk.heap b o e).mono same',
        ((hall₂.mono fun b o _ e => kk.heap b o e).append (.cons i₂ .nil)).mono same', ha, ha₂, haa, haL, ha₂L, hac⟩
    exact P _ mu ((Step.of_kp kk).trans this.1 fun _ q => .inl q) (fun _ q => .inl q) this.2
  · show interactive (En sc r) = false
    unfold interactive
    show (sc.kind == .module && _) = false
    rw [hf]; rfl

/-- rows.append([]) -/
theorem ES.rowsNew {x : Str} {p p' ap cp pos : Pos} {dss : List (List D)} {last : List D} (hf : sc.kind = .function) (hsz' : dss.length ≤ 10000000) (hline : (ap.endLine == cp.line) = true := by rfl)
    (hd : (x == ("__debug__" : Str)) = false := by decide +kernel) (hc : (x == ("__classdict__" : Str)) = false := by decide +kernel) :
    ES C n sc Γ (.rows x dss last) (.Expr (.Call (.Attribute (.Name x p) (Str.ofString "append") ap) [.List [] p'] [] cp) pos) (.next Γ (.rows x (dss ++ [last]) [])) := by
  refine ⟨fun A s r bc mu Q E W F P => ?_⟩
  refine wpAny_Expr_any (Call_method1 rfl rfl hline ?_) ?_ rfl
  · obtain ⟨a, vs, k, a₂, vs₂, k₂, hv, ho, ho₂, hall, hall₂, ha, ha₂, haa, haL, ha₂L, hac⟩ := F.own
    refine hv.load hf ?_ hd hc
    refine ⟨"list", "list.append", PySem.F.plainAttrs_list, PySem.F.slot_list_append, PySem.F.type_list_append, ⟨_, ho, rfl⟩, fun b e => by cases e; exact ⟨_, ho, rfl⟩, ?_⟩
    refine Calls.callWith_builtin rfl (Calls.evalArgs_plain (Calls.spliced_cons ?_))
    refine wpAny_List (wpAny_items_nil ⟨by simp, Calls.spliced_nil ?_⟩)
    have kk : Kp s { s with heap := s.heap.push (lobj [] 0) } := Kp.push _
    have hlen := hall.length
    rw [List.length_map] at hlen
    refine wpAny_list_append_plain (l := a) (items := (vs ++ [Value.ref a₂]).toArray) ⟨k, kk.heap _ _ ho⟩ (fun h' hl' hs => ?_) (by simp [sizeLine_eq]; omega)
    obtain ⟨k', hl'⟩ := hl'
    -- the last row is data from here on
    have hin : ∀ b, b ∈ (s.heap.objs.size :: mu.filter (· != a₂)) ++ bc → b ∈ mu ++ bc ∨ s.heap.get? b = none := fun b hb => by
      rcases List.mem_append.mp hb with q | q
      · rcases List.mem_cons.mp q with q | q
        · right; rw [q]; exact get_fresh
        · exact .inl (List.mem_append_left _ (List.mem_filter.mp q).1)
      · exact .inl (List.mem_append_right _ q)
    have hain : a ∈ mu.filter (· != a₂) := List.mem_filter.mpr ⟨ha, by simpa using haa⟩
    have keepH : ∀ b o, b ≠ a → s.heap.get? b = some o → h'.get? b = some o := fun b o hb e => (hs.2 b hb).trans (Heap.get?_push_of_some _ e)
    have hnew : h'.get? s.heap.objs.size = some (lobj [] 0) := (hs.2 _ (Ne.symm (F.ne_fresh ha))).trans (Heap.get?_push_size _ rfl)
    have keepB : ∀ b o, b ∉ (s.heap.objs.size :: mu.filter (· != a₂)) ++ bc → s.heap.get? b = some o → h'.get? b = some o := fun b o hb e => keepH b o (fun q => hb (List.mem_append_left _ (List.mem_cons_of_mem _ (q ▸ hain)))) e
    have tr : ∀ {us es}, DAll C (mu ++ bc) s.heap us es → DAll C ((s.heap.objs.size :: mu.filter (· != a₂)) ++ bc) h' us es := fun y => (y.more hin).mono keepB
    have hvar : ∀ {y u}, VarAt sc r s.heap y u → VarAt sc r h' y u := fun y => (y.keeps kk.heap).sameBut hs haL fun z c e => (hac z c e).1
    have liv : ∀ b, (s.heap.get? b).isSome = true → (h'.get? b).isSome = true := fun b e => by
      by_cases q : b = a
      · rw [q, hl']; rfl
      · obtain ⟨o, ho⟩ := Option.isSome_iff_exists.mp e; rw [keepH b o q ho]; rfl
    refine P _ (s.heap.objs.size :: mu.filter (· != a₂)) ⟨h', s.toks, rfl, fun b o hb e => keepH b o (fun q => hb (q ▸ ha)) e, liv⟩ (fun b hb => ?_)
      ⟨let ⟨m, hm⟩ := F.ns; ⟨m, (hm.keeps kk.heap).sameBut hs (Ne.symm haL)⟩, List.mem_cons_of_mem _ (List.mem_filter.mpr ⟨F.lmut, by simpa using Ne.symm ha₂L⟩), fun y c h1 h2 => ?_, F.has, F.apart, F.nol, fun y c e => liv c (F.cliv y c e), fun b hb => ?_, fun b hb => ?_, fun y dd e => ?_, ?_⟩
    · rcases List.mem_cons.mp hb with q | q
      · right; rw [q]; exact get_fresh
      · exact .inl (List.mem_filter.mp q).1
    · obtain ⟨q1, q2, v, hcv⟩ := F.cell y c h1 h2
      exact ⟨List.mem_cons_of_mem _ (List.mem_filter.mpr ⟨q1, by simpa using (hac y c h1).2⟩), q2, v, (hcv.keeps kk.heap).sameBut hs (hac y c h1).1⟩
    · rcases List.mem_cons.mp hb with q | q
      · rw [q]; show (h'.get? _).isSome = true; rw [hnew]; rfl
      · exact liv b (F.live b (List.mem_filter.mp q).1)
    · rcases List.mem_cons.mp hb with q | q
      · rw [q]; exact fun z => W.fresh (List.mem_append_right _ z)
      · exact F.disj b (List.mem_filter.mp q).1
    · obtain ⟨v, hv', hd'⟩ := F.go y dd e
      exact ⟨v, hvar hv', (hd'.more hin).mono keepB⟩
    · refine ⟨a, vs ++ [Value.ref a₂], k', s.heap.objs.size, [], 0, hvar hv, ?_, hnew, ?_, .nil, List.mem_cons_of_mem _ hain, List.mem_cons_self, F.ne_fresh ha, haL, Ne.symm (F.ne_fresh F.lmut), fun y c e => ⟨(hac y c e).1, fun q => ?_⟩⟩
      · show h'.get? a = _
        rw [hl']; simp
      · rw [List.map_append]
        refine (tr hall).append (.cons (.list (n := k₂) (fun q => ?_) (keepH a₂ _ (Ne.symm haa) ho₂) (tr hall₂)) .nil)
        rcases List.mem_append.mp q with z | z
        · rcases List.mem_cons.mp z with z | z
          · exact F.ne_fresh ha₂ z
          · have := (List.mem_filter.mp z).2; simp at this
        · exact F.disj a₂ ha₂ z
      · have := F.cliv y c e; rw [q, get_fresh] at this; cases this
  · show interactive (En sc r) = false
    unfold interactive
    show (sc.kind == .module && _) = false
    rw [hf]; rfl

theorem FOk.freezeR {x : Str} {dss : List (List D)} {last : List D} (F : FOk C sc r bc mu s.heap Γ (.rows x dss last)) : ∃ mu', (∀ a ∈ mu', a ∈ mu) ∧ FOk C sc r bc mu' s.heap ((x, .list ((dss ++ [last]).map D.list)) :: Γ) .none := by
  obtain ⟨a, vs, k, a₂, vs₂, k₂, hv, ho, ho₂, hall, hall₂, ha, ha₂, haa, haL, ha₂L, hac⟩ := F.own
  refine ⟨mu.filter (fun b => b != a && b != a₂), fun b hb => (List.mem_filter.mp hb).1, ?_⟩
  have hin : ∀ b, b ∈ mu.filter (fun b => b != a && b != a₂) ++ bc → b ∈ mu ++ bc := fun b hb => by
    rcases List.mem_append.mp hb with q | q
    · exact List.mem_append_left _ (List.mem_filter.mp q).1
    · exact List.mem_append_right _ q
  have hna : a ∉ mu.filter (fun b => b != a && b != a₂) ++ bc := fun q => by
    rcases List.mem_append.mp q with z | z
    · have := (List.mem_filter.mp z).2; simp at this
    · exact F.disj a ha z
  have hna₂ : a₂ ∉ mu.filter (fun b => b != a && b != a₂) ++ bc := fun q => by
    rcases List.mem_append.mp q with z | z
    · have := (List.mem_filter.mp z).2; simp at this
    · exact F.disj a₂ ha₂ z
  refine ⟨F.ns, List.mem_filter.mpr ⟨F.lmut, by simp [Ne.symm haL, Ne.symm ha₂L]⟩, fun y c h1 h2 => ?_, F.has, F.apart, F.nol, F.cliv, fun b hb => F.live b (List.mem_filter.mp hb).1, fun b hb => F.disj b (List.mem_filter.mp hb).1, ?_, trivial⟩
  · obtain ⟨q1, q2, q3⟩ := F.cell y c h1 h2
    exact ⟨List.mem_filter.mpr ⟨q1, by simp [(hac y c h1).1, (hac y c h1).2]⟩, q2, q3⟩
  · intro y d e
    rw [List.lookup_cons] at e
    by_cases hy : y = x
    · subst hy
      rw [beq_self_eq_true] at e
      cases e
      refine ⟨.ref a, hv, .list (n := k) hna ho ?_⟩
      rw [List.map_append]
      exact (hall.less hin).append (.cons (.list (n := k₂) hna₂ ho₂ (hall₂.less hin)) .nil)
    · rw [beq_eq_false_iff_ne.mpr hy] at e
      obtain ⟨v, hv', hd⟩ := F.go y d e
      exact ⟨v, hv', hd.less hin⟩
theorem EX.freezeR {x : Str} {dss : List (List D)} {last : List D} {ss : List Stmt} {out : Out} (h : EX C n sc ((x, .list ((dss ++ [last]).map D.list)) :: Γ) .none ss out) : EX C n sc Γ (.rows x dss last) ss out := by
  refine ⟨fun A s r bc mu Q E W F P => ?_⟩
  obtain ⟨mu', hm, F'⟩ := F.freezeR
  exact h.run A s r bc mu' Q E (W.less (app_sub hm)) F' (P.step .refl fun a ha => .inl (hm a ha))
theorem EBO.borrowR {x : Str} {dss : List (List D)} {last : List D} {e : Expr} {b : Bool} (h : EB C n sc ((x, .list ((dss ++ [last]).map D.list)) :: Γ) e b) : EBO C n sc Γ (.rows x dss last) e b := by
  refine ⟨fun A s r bc mu Q E W F K => ?_⟩
  obtain ⟨mu', hm, F'⟩ := F.freezeR
  exact h.run A s r (mu' ++ bc) Q E (W.less (app_sub hm)) F'.go K

/-- rows.pop() -/
theorem ES.rowsPop {x : Str} {p ap cp pos : Pos} {dss : List (List D)} {last : List D} (hf : sc.kind = .function) (hsz' : dss.length ≤ 10000000) (hline : (ap.endLine == cp.line) = true := by rfl)
    (hd : (x == ("__debug__" : Str)) = false := by decide +kernel) (hc : (x == ("__classdict__" : Str)) = false := by decide +kernel) :
    ES C n sc Γ (.rows x dss last) (.Expr (.Call (.Attribute (.Name x p) (Str.ofString "pop") ap) [] [] cp) pos) (.next Γ (.lst x (dss.map D.list))) := by
  refine ⟨fun A s r bc mu Q E W F P => ?_⟩
  refine wpAny_Expr_any (Call_method0 rfl hline ?_) ?_ rfl
  · obtain ⟨a, vs, k, a₂, vs₂, k₂, hv, ho, ho₂, hall, hall₂, ha, ha₂, haa, haL, ha₂L, hac⟩ := F.own
    refine hv.load hf ?_ hd hc
    refine ⟨"list", "list.pop", PySem.F.plainAttrs_list, PySem.F.slot_list_pop, PySem.F.type_list_pop, ⟨_, ho, rfl⟩, fun b e => by cases e; exact ⟨_, ho, rfl⟩, ?_⟩
    have hlen := hall.length
    rw [List.length_map] at hlen
    refine PySem.P.pop_list (n := k) ho (y := .ref a₂) (by simp) ?_ (by simp [sizeLine_eq]; omega)
    have hobj : (s.heap.update a (Obj.mapSeq fun xs => xs.eraseIdxIfInBounds ((vs ++ [Value.ref a₂]).toArray.size - 1))).get? a = some (lobj vs (k + 1)) := by
      rw [Heap.get?_update_self _ ho (by rfl)]
      have e : (vs ++ [Value.ref a₂]).eraseIdx vs.length = vs := by
        rw [List.eraseIdx_append_of_length_le (Nat.le_refl _)]; simp
      simp [Obj.mapSeq, e]
    have := F.touch (tk := s.toks) (O' := .lst x (dss.map D.list)) ha haL (fun y c e => (hac y c e).1) (Heap.SameBut.update s.heap a _) (by rw [hobj]; rfl)
      ⟨a, vs, k + 1, hv.sameBut (Heap.SameBut.update s.heap a _) haL (fun y c e => (hac y c e).1), hobj, hall.mono fun b o hb e => (Heap.get?_update_ne _ _ _ _ (fun q => hb (List.mem_append_left _ (q ▸ ha)))).trans e, ha, haL, fun y c e => (hac y c e).1⟩
    exact P _ mu this.1 (fun _ q => .inl q) this.2
  · show interactive (En sc r) = false
    unfold interactive
    show (sc.kind == .module && _) = false
    rw [hf]; rfl
end
end Mine

-- Kit21
namespace Mine

section
variable {C : Cfg} {n : Nat} {sc : Scope} {Γ : Gm} {O : Own} {r : Rt} {bc mu : List Addr} {h h' : Heap} {s s' : Shared} {A : Around} {bad : List Addr}

/-- a new plain exception -/
noncomputable def NewX (s s' : Shared) (e : Addr) (X : String) : Prop :=
  Kp s s' ∧ s.heap.get? e = none ∧ ∃ ob t, s'.heap.get? e = some ob ∧ ob.cls = .type X ∧ ob.data = .fields #[t, .none, .none, .none, .bool false, .none]

theorem NewX.of {s : Shared} {h' : Heap} {tk : Nat} {e : Addr} {X : String} (x : Heap.NewExc s.heap h' e X) : NewX s { s with heap := h', toks := tk } e X :=
  ⟨⟨h', tk, rfl, x.keeps⟩, x.new, x.there⟩
theorem NewX.after {s₀ s s' : Shared} {e : Addr} {X : String} (k : Kp s₀ s) (x : NewX s s' e X) : NewX s₀ s' e X := by
  refine ⟨k.trans x.1, ?_, x.2.2⟩
  cases q : s₀.heap.get? e with
  | none => rfl
  | some o => have := k.heap e o q; rw [x.2.1] at this; cases this

theorem notIter_list {Q : Bool → Shared → Prop} {E : Value → Shared → Prop} {v : Value} {ds : List D} (i : DIn C bad s.heap v (.list ds)) (hQ : Q false s) : wpAny (model C.prog C.w) A (notIterableAtAll v) Q E s := by
  obtain ⟨_, _, _, rfl, hb, ho, r⟩ := i.lstInv
  unfold notIterableAtAll
  refine wpAny_bind (wpAny_specialOf (T := "list") ⟨_, ho, rfl⟩ slot_list_iter.lookup ?_)
  exact wpAny_pure hQ

/-- what stands before an iterator's walk still stands after it -/
theorem It.back {s s' : Shared} {I : Addr} {ds : List D} {fp : List Addr} {P : Nat → Value → Prop} {St : Nat → Heap → Prop} (it : It C A bad s s' I ds fp P St) {h₂ : Heap} {tk : Nat} (hk : ∀ b o, b ≠ I → s'.heap.get? b = some o → h₂.get? b = some o) :
    Kp s { s' with heap := h₂, toks := tk } := by
  obtain ⟨h0, t0, e0, k0⟩ := it.kp
  subst e0
  refine ⟨h₂, tk, rfl, fun b o e => hk b o (fun q => ?_) (k0 b o e)⟩
  rw [q, it.new] at e; cases e

theorem unpack2 {v : Value} {d e : D} {Q : List Value → Shared → Prop} {E : Value → Shared → Prop} (W : Wd C n A bad s.heap) (i : DIn C bad s.heap v (.list [d, e]))
    (K : ∀ v1 v2 s', Kp s s' → DIn C bad s'.heap v1 d → DIn C bad s'.heap v2 e → Q [v1, v2] s') : wpAny (model C.prog C.w) A (unpackItems v 2 none) Q E s := by
  unfold unpackItems
  refine wpAny_bind (notIter_list i ?_)
  rw [if_neg Bool.false_ne_true]
  refine wpAny_bind (wpAny_holding (ITER.list (C := C) (n := n) A s bad v _ E W i fun I s' fp P St it => ?_))
  show wpAny _ _ (holding _ (draw (.ref I) 2) >>= _) _ _ _
  refine wpAny_bind (wpAny_holding ?_)
  show wpAny _ _ (pyNext (.ref I) >>= _) _ _ _
  refine wpAny_bind (it.wk.item 0 s' _ _ (by show 0 < 2; omega) it.st fun v1 h1 t1 hP1 st1 hk1 => ?_)
  refine wpAny_bind (wpAny_holding ?_)
  show wpAny _ _ (pyNext (.ref I) >>= _) _ _ _
  refine wpAny_bind (it.wk.item 1 { s' with heap := h1, toks := t1 } _ _ (by show 1 < 2; omega) st1 fun v2 h2 t2 hP2 st2 hk2 => ?_)
  refine wpAny_bind (wpAny_holding ?_)
  show wpAny _ _ (pure []) _ _ _
  refine wpAny_pure (wpAny_pure (wpAny_pure ?_))
  show wpAny _ _ (holding [v1, v2] (pyNext (.ref I)) >>= _) _ _ _
  refine wpAny_bind (wpAny_holding (it.wk.done { s' with heap := h2, toks := t2 } _ _ st2 fun h3 t3 hk3 => ?_))
  refine wpAny_pure ?_
  have kk : Kp s { s' with heap := h3, toks := t3 } := it.back fun b o hb q => hk3 b o (by simpa using hb) (hk2 b o (by simpa using hb) (hk1 b o (by simpa using hb) q))
  obtain ⟨d1, hd1, i1⟩ := it.dat 0 v1 hP1
  obtain ⟨d2, hd2, i2⟩ := it.dat 1 v2 hP2
  simp at hd1 hd2
  subst hd1 hd2
  exact K v1 v2 _ kk (i1.mono fun b o _ q => kk.heap b o q) (i2.mono fun b o _ q => kk.heap b o q)

theorem fewMsg : ∀ k : Nat, k = 1 → Str.length ((toString "not enough values to unpack (expected " ++ toString 2 ++ toString ", got " ++ toString k ++ toString ")" : String) : Str) ≤ sizeLine := by
  rintro _ rfl
  decide +kernel
theorem unpackFew {v : Value} {d : D} {Q : List Value → Shared → Prop} {E : Value → Shared → Prop} (W : Wd C n A bad s.heap) (hh : A.handled = none) (i : DIn C bad s.heap v (.list [d]))
    (K : ∀ e s', NewX s s' e "ValueError" → E (.ref e) s') : wpAny (model C.prog C.w) A (unpackItems v 2 none) Q E s := by
  unfold unpackItems
  refine wpAny_bind (notIter_list i ?_)
  rw [if_neg Bool.false_ne_true]
  refine wpAny_bind (wpAny_holding (ITER.list (C := C) (n := n) A s bad v _ E W i fun I s' fp P St it => ?_))
  show wpAny _ _ (holding _ (draw (.ref I) 2) >>= _) _ _ _
  refine wpAny_bind (wpAny_holding ?_)
  show wpAny _ _ (pyNext (.ref I) >>= _) _ _ _
  refine wpAny_bind (it.wk.item 0 s' _ _ (by show 0 < 1; omega) it.st fun v1 h1 t1 hP1 st1 hk1 => ?_)
  refine wpAny_bind (wpAny_holding ?_)
  show wpAny _ _ (pyNext (.ref I) >>= _) _ _ _
  refine wpAny_bind (it.wk.done { s' with heap := h1, toks := t1 } _ _ st1 fun h3 t3 hk3 => ?_)
  refine wpAny_pure (wpAny_pure ?_)
  rw [if_pos (by simp)]
  have kk : Kp s { s' with heap := h3, toks := t3 } := it.back fun b o hb q => hk3 b o (by simpa using hb) (hk1 b o (by simpa using hb) q)
  have hE : ∀ h' tk e, Heap.NewExc h3 h' e "ValueError" → E (.ref e) { s' with heap := h', toks := tk } := fun h' tk e x => K e _ ((NewX.of (s := { s' with heap := h3, toks := t3 }) x).after kk)
  refine wpAny_bind (wpAny_rule ?_)
  refine wpAny_bind ?_
  exact wpAny_raiseErrorMade plainExc_ValueError hh hE (fewMsg _ rfl)

/-- x, y = e -/
theorem ES.unpack2 {x y : Str} {p p' tp pos : Pos} {k : Nat} {e : Expr} {d d' : D} (h : EVO C n sc Γ O e (.list [d, d'])) (hf : sc.kind = .function) (hx : sc.names.lookup x = some .local) (hO : O.name? ≠ some x)
    (hy : sc.names.lookup y = some .local) (hO' : O.name? ≠ some y)
    (hs : ∀ r, swapsWith e (some (.Tuple [.Name x p, .Name y p'] k tp)) pos.line (En sc r) = pure false := by intro _; rfl)
    (hw : ∀ r, swappedStores [.Tuple [.Name x p, .Name y p'] k tp] e (En sc r) = pure none := by intro _; rfl) : ES C n sc Γ O (.Assign [.Tuple [.Name x p, .Name y p'] k tp] e pos) (.next ((y, d') :: (x, d) :: Γ) O) := by
  refine ⟨fun A s r bc mu Q E W F P => ?_⟩
  refine wpAny_Assign_stores (h.run A s r bc mu _ E W F fun v s₁ k₁ i₁ => ?_) (hs r) (hw r)
  show wpAny _ _ (PySem.assign (.Tuple [.Name x p, .Name y p'] k tp) (En sc r) v) _ _ _
  rw [arm_assign_Tuple]
  refine wpAny_bind (wpAny_standAt ?_)
  unfold unpack
  refine wpAny_bind (wpAny_holding ?_)
  show wpAny _ _ (unpackItems v 2 none) _ _ _
  refine Mine.unpack2 (W.keeps k₁.heap) i₁ fun v1 v2 s₂ k₂ i1 i2 => ?_
  show wpAny (model C.prog C.w) A (holding [v2] (PySem.assign (.Name x p) (En sc r) v1) >>= fun _ => holding [] (PySem.assign (.Name y p') (En sc r) v2) >>= fun _ => pure ()) _ _ _
  refine wpAny_bind (wpAny_holding ?_)
  have kk := k₁.trans k₂
  refine wpAny_assign_Name ((F.keeps kk.heap).store hf (.inl hx) hO i1 fun s₃ st F₃ => ?_)
  refine wpAny_bind (wpAny_holding ?_)
  refine wpAny_assign_Name (F₃.store hf (.inl hy) hO' (i2.mono fun a o ha e => st.heap a o (fun q => ha (List.mem_append_left _ q)) e) fun s₄ st₄ F₄ => ?_)
  exact wpAny_pure (P s₄ mu (((Step.of_kp kk).trans st fun _ ha => .inl ha).trans st₄ fun _ ha => .inl ha) (fun _ ha => .inl ha) F₄)
end
end Mine

-- Kit22
namespace Mine

noncomputable abbrev noHeap : Heap := { objs := #[] }
noncomputable abbrev frs (fs : List Env) : List Addr := fs.filterMap (·.frame)

/-- all stays, but for the slots of the objects at Ls -/
structure KpS (Ls : List Addr) (h₀ h : Heap) : Prop where
  keep : ∀ b o, b ∉ Ls → h₀.get? b = some o → h.get? b = some o
  slots : ∀ b o, b ∈ Ls → h₀.get? b = some o → ∃ sl, h.get? b = some { o with slots := sl }

theorem KpS.of {Ls : List Addr} {h₀ h : Heap} (k : ∀ b o, h₀.get? b = some o → h.get? b = some o) : KpS Ls h₀ h := ⟨fun b o _ e => k b o e, fun b o _ e => ⟨o.slots, k b o e⟩⟩
theorem KpS.trans {Ls : List Addr} {h₀ h₁ h₂ : Heap} (x : KpS Ls h₀ h₁) (y : KpS Ls h₁ h₂) : KpS Ls h₀ h₂ :=
  ⟨fun b o hb e => y.keep b o hb (x.keep b o hb e), fun b o hb e => by
    obtain ⟨sl, e1⟩ := x.slots b o hb e
    obtain ⟨sl2, e2⟩ := y.slots b _ hb e1
    exact ⟨sl2, e2⟩⟩
theorem KpS.all {Ls : List Addr} {h₀ h : Heap} (x : KpS Ls h₀ h) : ∀ b o, h₀.get? b = some o → ∃ sl, h.get? b = some { o with slots := sl } := fun b o e => by
  by_cases hb : b ∈ Ls
  · exact x.slots b o hb e
  · exact ⟨o.slots, x.keep b o hb e⟩
theorem KpS.ns {Ls : List Addr} {h₀ h : Heap} (x : KpS Ls h₀ h) {a : Addr} {m : Str → Option Value} (hn : h₀.Ns a m) : h.Ns a m := by
  obtain ⟨o, es, ep, ho, hd, r⟩ := hn
  obtain ⟨sl, e⟩ := x.all a o ho
  exact ⟨_, es, ep, e, hd, r⟩
theorem KpS.live {Ls : List Addr} {h₀ h : Heap} (x : KpS Ls h₀ h) (a : Addr) (e : (h₀.get? a).isSome = true) : (h.get? a).isSome = true := by
  obtain ⟨o, ho⟩ := Option.isSome_iff_exists.mp e
  obtain ⟨sl, e⟩ := x.all a o ho
  rw [e]; rfl
theorem KpS.none {Ls : List Addr} {h₀ h : Heap} (x : KpS Ls h₀ h) (a : Addr) (e : h.get? a = Option.none) : h₀.get? a = Option.none := by
  cases q : h₀.get? a with
  | none => rfl
  | some o => obtain ⟨sl, e'⟩ := x.all a o q; rw [e] at e'; cases e'
theorem KpS.more {Ls Ls' : List Addr} {h₀ h : Heap} (x : KpS Ls h₀ h) (hs : ∀ a ∈ Ls, a ∈ Ls') : KpS Ls' h₀ h :=
  ⟨fun b o hb e => x.keep b o (fun q => hb (hs b q)) e, fun b o _ e => x.all b o e⟩

/-- the exception at e, on its way -/
noncomputable def ExcAt (h₀ h : Heap) (e : Addr) (X : String) (fl : Value) : Prop :=
  h₀.get? e = none ∧ ∃ ob vs T oT ts, h.get? e = some ob ∧ ob.cls = .type X ∧ ob.data = .fields vs ∧ vs[1]? = some (.ref T) ∧ vs[2]? = some .none ∧ vs[3]? = some .none ∧ h₀.get? T = none ∧ T ≠ e ∧ h.get? T = some oT ∧ oT.data = .fields ts ∧ ts[3]? = some fl

section
variable {M : Model} {A : Around} {E : Value → Shared → Prop} {s : Shared}

theorem FunFrames.nof {h base : Heap} {l : List Env} (hl : h.FunFrames base l) {e : Addr} {oe : Obj} {vs : Array Value} (he : h.get? e = some oe) (hd : oe.data = .fields vs) : e ∉ frs l := fun hm => by
  obtain ⟨_, o, ho, hnf⟩ := hl.mem hm
  rw [he] at ho; cases ho; exact hnf vs hd

/-- a new entry in the exception's track -/
theorem newEntryAt {env : Env} {outer : List Env} {L e : Addr} {oe : Obj} {vs : Array Value} {head : Value} {hadNext : Bool} {Q : Unit → Shared → Prop} (hfr : A.frames = some (env :: outer)) (hl : s.heap.FunFrames noHeap (env :: outer)) (hf : env.frame = some L)
    (he : s.heap.get? e = some oe) (hd : oe.data = .fields vs) (hsz : 1 < vs.size)
    (h : ∀ h' T oT ts, (∀ b o, b ∉ frs (env :: outer) → b ≠ e → s.heap.get? b = some o → h'.get? b = some o) → (∀ b o, b ∈ frs (env :: outer) → s.heap.get? b = some o → ∃ sl, h'.get? b = some { o with slots := sl }) →
      s.heap.get? T = none → T ≠ e → h'.get? e = some (oe.mapFields (·.setIfInBounds 1 (.ref T))) → h'.get? T = some oT → oT.data = .fields ts → ts[3]? = some (rawInt L) → Q () { s with heap := h' }) :
    wpAny M A (do let a ← frameOf env; let pl ← entryPlaceOf L hadNext; let b ← EntryCells.newEntry head a .none (rawInt L) .none pl; setField (.ref e) 1 b) Q E s := by
  have hene := FunFrames.nof hl he hd
  refine wpAny_bind (wpAny_frameOf_fun hfr hl hf fun h₁ hs₁ => ?_)
  refine wpAny_bind (wpAny_entryPlaceOf fun pl hpl => ?_)
  unfold EntryCells.newEntry newFields
  refine wpAny_bind (wpAny_newObj_type ?_ (hpl.sizeOk5 _ _ _ _ _))
  have he₁ : h₁.get? e = some oe := (hs₁.2.1 e hene).trans he
  generalize hoT : ({ cls := .type "traceback", dict := none, data := .fields ([head, .ref L, .none, rawInt L, .none] ++ (if pl.isEmpty then List.replicate 6 Value.none else pl)).toArray } : Obj) = oT
  have hTf : oT.isFreed = false := by rw [← hoT]; rfl
  have he₂ := Heap.get?_push_of_some (h := h₁) oT he₁
  refine wpAny_setField (s := { s with heap := h₁.push oT }) he₂ hd hsz ?_
  have hTe : h₁.objs.size ≠ e := Nat.ne_of_gt (Heap.lt_size he₁)
  have hd₃ := Obj.data_mapFields hd (·.setIfInBounds 1 (Value.ref h₁.objs.size))
  refine h _ h₁.objs.size oT _ (fun b o hb hbe q => ?_) (fun b o hb q => ?_) ?_ hTe (Heap.get?_update_self _ he₂ (Obj.isFreed_of_fields hd₃)) ?_ (by rw [← hoT]) ?_
  · rw [Heap.get?_update_other _ _ (Ne.symm hbe)]
    exact Heap.get?_push_of_some _ ((hs₁.2.1 b hb).trans q)
  · obtain ⟨sl, q'⟩ := hs₁.2.2 b o q
    refine ⟨sl, ?_⟩
    rw [Heap.get?_update_other _ _ (fun z : e = b => hene (z ▸ hb))]
    exact Heap.get?_push_of_some _ q'
  · exact Heap.get?_none_of_le (by rw [hs₁.1]; exact Nat.le_refl _)
  · rw [Heap.get?_update_other _ _ (Ne.symm hTe)]
    exact Heap.get?_push_size _ hTf
  · first | (simp; done) | (rcases hpl with rfl | ⟨_, _, _, _, _, _, _, rfl⟩ <;> simp)

/-- the first frame notes a new exception -/
theorem noteFirst {env : Env} {outer : List Env} {L e : Addr} {oe : Obj} {t : Value} {X : String} {h₀ : Heap} {Q : Unit → Shared → Prop} (hfr : A.frames = some (env :: outer)) (hl : s.heap.FunFrames noHeap (env :: outer)) (hf : env.frame = some L)
    (k : KpS (frs (env :: outer)) h₀ s.heap) (hnew : h₀.get? e = none) (he : s.heap.get? e = some oe) (hc : oe.cls = .type X) (hd : oe.data = .fields #[t, .none, .none, .none, .bool false, .none])
    (h : ∀ h', KpS (frs (env :: outer)) h₀ h' → ExcAt h₀ h' e X (rawInt L) → Q () { s with heap := h' }) : wpAny M A (noteFrame (.ref e) env) Q E s := by
  unfold noteFrame
  simp only [hf]
  refine wpAny_bind (wpAny_field he hd (x := .none) rfl ?_)
  rw [if_neg (by decide)]
  refine newEntryAt hfr hl hf he hd (by simp) fun h' T oT ts k1 k2 hT hTe he' hT' hdT h3 => ?_
  have ne : ∀ b o, h₀.get? b = some o → b ≠ e := fun b o q z => by rw [z, hnew] at q; cases q
  refine h h' ⟨fun b o hb q => k1 b o hb (ne b o q) (k.keep b o hb q), fun b o hb q => ?_⟩ ⟨hnew, _, _, T, oT, ts, he', (Obj.cls_mapFields ..).trans hc, Obj.data_mapFields hd _, by simp, by simp, by simp, k.none T hT, hTe, hT', hdT, h3⟩
  obtain ⟨sl, q1⟩ := k.slots b o hb q
  obtain ⟨sl2, q2⟩ := k2 b _ hb q1
  exact ⟨sl2, q2⟩

/-- the track's head is let down -/
theorem flightTo {Ls : List Addr} {e : Addr} {X : String} {h₀ : Heap} {fl : Value} {to : Option Addr} {Q : Unit → Shared → Prop} (k : KpS Ls h₀ s.heap) (x : ExcAt h₀ s.heap e X fl)
    (h : ∀ h', KpS Ls h₀ h' → ExcAt h₀ h' e X (to.elim .none fun f => rawInt f) → (∀ b o, s.heap.get? b = some o → (∀ vs, o.data ≠ .fields vs) → h'.get? b = some o) → Q () { s with heap := h' }) : wpAny M A (setFlight (.ref e) to) Q E s := by
  obtain ⟨hnew, ob, vs, T, oT, ts, he, hc, hd, h1, h2, h3, hT0, hTe, hT, hdT, ht3⟩ := x
  unfold setFlight
  refine wpAny_bind (wpAny_field he hd h1 ?_)
  rw [if_pos (show (Value.ref T != Value.none) = true from by simp)]
  have hsz : 3 < ts.size := (Array.getElem?_eq_some_iff.mp ht3).1
  refine wpAny_setField hT hdT hsz (h _ ⟨fun b o hb q => ?_, fun b o hb q => ?_⟩ ⟨hnew, ob, vs, T, _, _, ?_, hc, hd, h1, h2, h3, hT0, hTe, Heap.get?_update_self _ hT (Obj.isFreed_of_fields (Obj.data_mapFields hdT _)), Obj.data_mapFields hdT _, by simp [hsz]⟩ fun b o q hn => ?_)
  · rw [Heap.get?_update_other _ _ (fun z => by rw [← z, hT0] at q; cases q)]
    exact k.keep b o hb q
  · rw [Heap.get?_update_other _ _ (fun z => by rw [← z, hT0] at q; cases q)]
    exact k.slots b o hb q
  · rw [Heap.get?_update_other _ _ hTe]; exact he
  · rw [Heap.get?_update_other _ _ (fun z => by rw [← z, hT] at q; cases q; exact hn ts hdT)]
    exact q

/-- a frame that has noted it notes it no more -/
theorem noteAgain {env : Env} {L e : Addr} {X : String} {h₀ : Heap} {Q : Unit → Shared → Prop} (hf : env.frame = some L) (x : ExcAt h₀ s.heap e X (rawInt L)) (h : Q () s) : wpAny M A (noteFrame (.ref e) env) Q E s := by
  obtain ⟨hnew, ob, vs, T, oT, ts, he, hc, hd, h1, h2, h3, hT0, hTe, hT, hdT, ht3⟩ := x
  exact wpAny_noteFrame_inFlight hf he hd h1 hT hdT ht3 h

/-- the next frame notes it -/
theorem noteNext {env : Env} {outer : List Env} {L e : Addr} {X : String} {h₀ : Heap} {Q : Unit → Shared → Prop} (hfr : A.frames = some (env :: outer)) (hl : s.heap.FunFrames noHeap (env :: outer)) (hf : env.frame = some L)
    (k : KpS (frs (env :: outer)) h₀ s.heap) (x : ExcAt h₀ s.heap e X .none)
    (h : ∀ h', KpS (frs (env :: outer)) h₀ h' → ExcAt h₀ h' e X (rawInt L) → Q () { s with heap := h' }) : wpAny M A (noteFrame (.ref e) env) Q E s := by
  obtain ⟨hnew, ob, vs, T, oT, ts, he, hc, hd, h1, h2, h3, hT0, hTe, hT, hdT, ht3⟩ := x
  have hsz : 3 < ts.size := (Array.getElem?_eq_some_iff.mp ht3).1
  unfold noteFrame
  simp only [hf]
  refine wpAny_bind (wpAny_field he hd h1 ?_)
  rw [if_pos (show (Value.ref T != Value.none) = true from by simp)]
  refine wpAny_bind (wpAny_field hT hdT ht3 ?_)
  rw [if_neg (show ¬ ((Value.none == rawInt L) = true) from by simp [rawInt])]
  refine wpAny_bind (wpAny_setField hT hdT hsz ?_)
  have other : ∀ b, b ≠ T → (s.heap.update T (Obj.mapFields (·.setIfInBounds 3 Value.none))).get? b = s.heap.get? b := fun b hb => Heap.get?_update_other _ _ (Ne.symm hb)
  have noRecord : ∀ b o, s.heap.get? b = some o → (∀ vs, o.data ≠ .fields vs) → b ≠ T := fun b o hb hnf q => by
    rw [q, hT] at hb; cases hb; exact hnf ts hdT
  have ne : ∀ b o, h₀.get? b = some o → b ≠ e := fun b o q z => by rw [z, hnew] at q; cases q
  have neT : ∀ b o, h₀.get? b = some o → b ≠ T := fun b o q z => by rw [z, hT0] at q; cases q
  refine newEntryAt hfr (hl.of_keeps fun b o hb hnf => ⟨o, (other b (noRecord b o hb hnf)).trans hb, rfl⟩) hf ((other e (Ne.symm hTe)).trans he) hd (Array.getElem?_eq_some_iff.mp h1).1 fun h' T' oT' ts' k1 k2 hT' hTe' he' hT'' hdT' h3' => ?_
  have hs1 : 1 < vs.size := (Array.getElem?_eq_some_iff.mp h1).1
  refine h h' ⟨fun b o hb q => k1 b o hb (ne b o q) ((other b (neT b o q)).trans (k.keep b o hb q)), fun b o hb q => ?_⟩ ⟨hnew, _, _, T', oT', ts', he', (Obj.cls_mapFields ..).trans hc, Obj.data_mapFields hd _, by simp [hs1], ?_, ?_, ?_, hTe', hT'', hdT', h3'⟩
  · obtain ⟨sl, q1⟩ := k.slots b o hb q
    obtain ⟨sl2, q2⟩ := k2 b _ hb ((other b (neT b o q)).trans q1)
    exact ⟨sl2, q2⟩
  · rw [Array.getElem?_setIfInBounds_ne (by decide)]; exact h2
  · rw [Array.getElem?_setIfInBounds_ne (by decide)]; exact h3
  · refine k.none T' ?_
    by_cases q : T' = T
    · rw [q] at hT'
      exfalso
      change (s.heap.update T (Obj.mapFields (·.setIfInBounds 3 Value.none))).get? T = none at hT'
      rw [Heap.get?_update_self _ hT (Obj.isFreed_of_fields (Obj.data_mapFields hdT _))] at hT'
      cases hT'
    · exact (other T' q).symm.trans hT'
end
end Mine

-- Kit23
namespace Mine

/-- an exception has been raised in a frame -/
noncomputable def RX (r : Rt) (mu : List Addr) (s s' : Shared) (e : Addr) (X : String) : Prop :=
  Step mu s s' ∧ s.heap.get? e = none ∧ (∃ m, s'.heap.Ns r.L m) ∧ ∃ ob t, s'.heap.get? e = some ob ∧ ob.cls = .type X ∧ ob.data = .fields #[t, .none, .none, .none, .bool false, .none]

section
variable (C : Cfg)
structure EVR (n : Nat) (sc : Scope) (Γ : Gm) (e : Expr) (X : String) : Prop where
  run : ∀ (A : Around) (s : Shared) (r : Rt) (bad : List Addr) (Q : Value → Shared → Prop) (E : Value → Shared → Prop),
    Wd C n A bad s.heap → A.handled = none → GOk C sc r bad s.heap Γ → (∀ e s', NewX s s' e X → E (.ref e) s') → wpAny (model C.prog C.w) A (eval e (En sc r)) Q E s
structure EBR (n : Nat) (sc : Scope) (Γ : Gm) (e : Expr) (X : String) : Prop where
  run : ∀ (A : Around) (s : Shared) (r : Rt) (bad : List Addr) (Q : Bool → Shared → Prop) (E : Value → Shared → Prop),
    Wd C n A bad s.heap → A.handled = none → GOk C sc r bad s.heap Γ → (∀ e s', NewX s s' e X → E (.ref e) s') → wpAny (model C.prog C.w) A (isTrue e (En sc r) (eval e (En sc r))) Q E s
structure SR (n : Nat) (sc : Scope) (Γ : Gm) (O : Own) (st : Stmt) (X : String) : Prop where
  run : ∀ (A : Around) (s : Shared) (r : Rt) (bc mu : List Addr) (Q : Flow → Shared → Prop) (E : Value → Shared → Prop),
    Wd C n A (mu ++ bc) s.heap → A.handled = none → FOk C sc r bc mu s.heap Γ O → (∀ e s', RX r mu s s' e X → E (.ref e) s') → wpAny (model C.prog C.w) A (exec st (En sc r)) Q E s
structure ER (n : Nat) (sc : Scope) (Γ : Gm) (O : Own) (ss : List Stmt) (X : String) : Prop where
  run : ∀ (A : Around) (s : Shared) (r : Rt) (bc mu : List Addr) (Q : Flow → Shared → Prop) (E : Value → Shared → Prop),
    Wd C n A (mu ++ bc) s.heap → A.handled = none → FOk C sc r bc mu s.heap Γ O → (∀ e s', RX r mu s s' e X → E (.ref e) s') → wpAny (model C.prog C.w) A (execs ss (En sc r)) Q E s
end

section
variable {C : Cfg} {n : Nat} {sc : Scope} {Γ Γ' : Gm} {O O' : Own} {r : Rt} {bc mu mu' : List Addr} {s s' s'' : Shared} {A : Around} {X : String}

theorem RX.new (F : FOk C sc r bc mu s.heap Γ O) {e : Addr} (x : NewX s s' e X) : RX r mu s s' e X :=
  ⟨.of_kp x.1, x.2.1, let ⟨m, hm⟩ := F.ns; ⟨m, hm.keeps x.1.heap⟩, x.2.2⟩
theorem RX.after (st : Step mu s s') (hm : ∀ a ∈ mu', a ∈ mu ∨ s.heap.get? a = none) {e : Addr} (x : RX r mu' s' s'' e X) : RX r mu s s'' e X := by
  refine ⟨st.trans x.1 hm, ?_, x.2.2⟩
  cases q : s.heap.get? e with
  | none => rfl
  | some o => have := st.liv e (by rw [q]; rfl); rw [x.2.1] at this; cases this

theorem EVR.strAt {e i : Expr} {pos : Pos} {l : List Nat} {k : Int} (he : EV C n sc Γ e (.str l)) (hi : EV C n sc Γ i (.int k)) (hr : -(2 ^ 63 : Int) ≤ k ∧ k < 2 ^ 63)
    (hc : (seqIndex? k l.length).bind (l[·]?) = none) : EVR C n sc Γ (.Subscript e i pos) "IndexError" := by
  refine ⟨fun A s r bad Q E W hh G K => ?_⟩
  refine subAny (T := "str") F.slot_str_getitem.lookup (he.run A s r bad _ E W G fun v₁ s₁ k₁ i₁ => hi.run A s₁ r bad _ E (W.keeps k₁.heap) (G.keeps k₁.heap) fun v₂ s₂ k₂ i₂ => ?_)
  obtain ⟨t, rfl⟩ := i₁.strInv
  obtain ⟨u, rfl⟩ := i₂.intInv
  refine ⟨typeIs_str _ _ _, getItem_meets (typeIs_str _ _ _) (by decide) F.slot_str_getitem F.entry_str_getitem (F.args_str_getitem_2 _ _) (raises_str_getitem (T l) k t u ?_ ?_) ⟨hh, fun h' tk e x => ?_⟩⟩
  · simp only [Bool.or_eq_false_iff, decide_eq_false_iff_not]; omega
  · rw [T_length]; simpa using hc
  · exact K e _ ((NewX.of x).after (k₁.trans k₂))

theorem EBR.cmp {l r₁ : Expr} {op : CmpOp} {pos : Pos} (h₁ : EVR C n sc Γ l X) (hm : behindInMarks op r₁ = false := by with_unfolding_all rfl) : EBR C n sc Γ (.Compare l [op] [r₁] pos) X := by
  refine ⟨fun A s r bad Q E W hh G K => ?_⟩
  exact wpAny_isTrue_Compare1 (h₁.run A s r bad _ E W hh G K) hm
theorem EBR.and {e : Expr} {es : List Expr} {pos : Pos} (h : EBR C n sc Γ e X) : EBR C n sc Γ (.BoolOp .And (e :: es) pos) X := by
  refine ⟨fun A s r bad Q E W hh G K => ?_⟩
  exact wpAny_isTrue_BoolOp (wpAny_allTrue_And_cons (h.run A s r bad _ E W hh G K))
theorem SR.iff {t : Expr} {b o : List Stmt} {pos : Pos} (ht : EBR C n sc Γ t X) : SR C n sc Γ O (.If t b o pos) X := by
  refine ⟨fun A s r bc mu Q E W hh F K => ?_⟩
  exact wpAny_If (ht.run A s r _ _ E W hh F.go fun e s' x => K e s' (RX.new F x))
theorem ER.here {st : Stmt} {rest : List Stmt} (h : SR C n sc Γ O st X) : ER C n sc Γ O (st :: rest) X := by
  refine ⟨fun A s r bc mu Q E W hh F K => ?_⟩
  exact wpAny_execs_cons (h.run A s r bc mu _ E W hh F K)
theorem ER.next {st : Stmt} {rest : List Stmt} (h₁ : ES C n sc Γ O st (.next Γ' O')) (h₂ : ER C n sc Γ' O' rest X) : ER C n sc Γ O (st :: rest) X := by
  refine ⟨fun A s r bc mu Q E W hh F K => ?_⟩
  refine wpAny_execs_cons (h₁.run A s r bc mu _ E W F fun s' mu' st hm F' => ?_)
  exact h₂.run A s' r bc mu' _ E (W.step st hm F') hh F' fun e s'' x => K e s'' (RX.after st hm x)
/-- x, y = e, of too few -/
theorem SR.unpackFew {x y : Str} {p p' tp pos : Pos} {k : Nat} {e : Expr} {d : D} (h : EVO C n sc Γ O e (.list [d]))
    (hs : ∀ r, swapsWith e (some (.Tuple [.Name x p, .Name y p'] k tp)) pos.line (En sc r) = pure false := by intro _; rfl)
    (hw : ∀ r, swappedStores [.Tuple [.Name x p, .Name y p'] k tp] e (En sc r) = pure none := by intro _; rfl) : SR C n sc Γ O (.Assign [.Tuple [.Name x p, .Name y p'] k tp] e pos) "ValueError" := by
  refine ⟨fun A s r bc mu Q E W hh F K => ?_⟩
  refine wpAny_Assign_stores (h.run A s r bc mu _ E W F fun v s₁ k₁ i₁ => ?_) (hs r) (hw r)
  show wpAny _ _ (PySem.assign (.Tuple [.Name x p, .Name y p'] k tp) (En sc r) v) _ _ _
  rw [arm_assign_Tuple]
  refine wpAny_bind (wpAny_standAt ?_)
  unfold unpack
  refine wpAny_bind (wpAny_holding ?_)
  show wpAny _ _ (unpackItems v 2 none) _ _ _
  exact Mine.unpackFew (W.keeps k₁.heap) hh i₁ fun e s' x => K e s' (RX.new F (x.after k₁))

theorem funKeeps' {h h' : Heap} {fs : List Env} (x : h.FunFrames noHeap fs) (hk : ∀ b o, h.get? b = some o → h'.get? b = some o) : h'.FunFrames noHeap fs := x.of_keeps fun b o hb _ => ⟨o, hk b o hb, rfl⟩
theorem frsCons {fs : List Env} (hf : r.fr = some r.L) : frs (En sc r :: fs) = r.L :: frs fs := by
  show List.filterMap _ _ = _
  rw [List.filterMap_cons, show (En sc r).frame = some r.L from hf]
/-- out of the loop, out of the frame -/
theorem backOut {h₀ : Heap} {e : Addr} {fs : List Env} {E : Value → Shared → Prop} (hf : r.fr = some r.L) (hL : h₀.get? r.L = none) (k : KpS (frs (En sc r :: fs)) h₀ s.heap) (x : ExcAt h₀ s.heap e X (rawInt r.L))
    (K : ∀ h', KpS (frs fs) h₀ h' → ExcAt h₀ h' e X .none → E (.ref e) { s with heap := h' }) :
    cameBackBy (model C.prog C.w) A (En sc r) (fun e s' => wpAny (model C.prog C.w) A (leaving (En sc r) e) (fun _ s'' => E e s'') (fun e' s'' => E e' s'') s') (.ref e) s := by
  have ef : (En sc r).frame = some r.L := hf
  unfold cameBackBy
  obtain ⟨_, ob7, vs7, T7, oT7, ts7, he7, hc7, hd7, h17, _⟩ := id x
  refine wpAny_bind (wpAny_field he7 hd7 h17 ?_)
  rw [if_neg (show ¬ ((Value.ref T7 == Value.none) = true) from by simp)]
  show wpAny _ _ (setFlight (.ref e) (En sc r).frame) _ _ _
  refine flightTo k x fun h₈ k₈ x₈ _ => ?_
  rw [ef] at x₈
  unfold leaving
  refine wpAny_bind (noteAgain (s := { s with heap := h₈ }) (L := r.L) ef x₈ ?_)
  refine flightTo (s := { s with heap := h₈ }) k₈ x₈ fun h₉ k₉ x₉ _ => K h₉ ⟨fun b o hb q => k₉.keep b o (fun z => ?_) q, fun b o _ q => k₉.all b o q⟩ x₉
  rw [frsCons hf] at z
  exact (List.mem_cons.mp z).elim (fun z => noSome (z ▸ hL) q) hb

/-- a def that is left by an exception -/
noncomputable def FNR (C : Cfg) (n : Nat) (a : Addr) (ds : List D) (X : String) : Prop :=
  ∀ (A : Around) (s : Shared) (bad : List Addr) (vs : List Value) (Q : Value → Shared → Prop) (E : Value → Shared → Prop) (fs : List Env),
    Wd C n A bad s.heap → A.handled = none → A.frames = some fs → s.heap.FunFrames noHeap fs → DAll C bad s.heap vs ds →
    (∀ e h' tk, KpS (frs fs) s.heap h' → ExcAt s.heap h' e X .none → E (.ref e) { s with heap := h', toks := tk }) → wpAny (model C.prog C.w) A (call (.ref a) vs) Q E s

theorem FNR.of {a : Addr} {ps : List Str} {st₁ : Stmt} {x : Str} {p pos : Pos} {iter : Expr} {body rest : List Stmt} {ds es : List D} {d : D} (f : FnAt C a ps sc (st₁ :: .For (.Name x p) iter body [] pos :: rest)) (hlen : ps.length = ds.length)
    (h₁ : ES C n sc (ps.zip ds) .none st₁ (.next Γ O)) (hi : EI C n sc Γ iter (d :: es)) (hx : sc.names.lookup x = some .local) (hO : O.name? ≠ some x) (hb : ER C n sc ((x, d) :: Γ) O body X)
    (hs : ∀ r v, foldedSetIterable iter (En sc r) v = pure v := by intro _ _; rfl) : FNR C (n + 1) a ds X := by
  intro A s bad vs Q E fs W hh hfr hl all K
  refine call_in f hlen W all fun r mu s₁ U => ?_
  have hfr' : (A.deeper (En sc r)).frames = some (En sc r :: fs) := Around.frames_deeper hfr
  refine wpAny_execs_cons (h₁.run _ s₁ r bad mu _ _ U.W U.F fun s₂ mu₂ st₂ hm₂ F₂ => ?_)
  have W₂ := U.W.step st₂ hm₂ F₂
  have fresh₂ : ∀ b ∈ mu₂, s.heap.get? b = none := fun b hb => (hm₂ b hb).elim (U.fresh b) fun q => noneBack (U.kp.heap b) q
  have kp₂ : Kp s s₂ := U.back st₂
  refine wpAny_execs_cons (wpAny_For ?_ (hs r))
  refine hi.run _ s₂ r (mu₂ ++ bad) _ _ W₂ F₂.go fun I s₀ s₃ fp PP St k₀ it => ?_
  have kk := k₀.trans it.kp
  have hIs : s₂.heap.get? I = none := noneBack (k₀.heap I) it.new
  refine codeAny_forLoop_any (fun k s => k = 0 ∧ s = s₃) ?_ 0 ⟨rfl, rfl⟩
  rintro k s₃' ⟨rfl, rfl⟩
  refine it.wk.item 0 s₃' _ _ (Nat.zero_lt_succ _) it.st fun v h₄ tk₄ hP st₄ hk₄ => ?_
  have hk₄' : ∀ b o, b ≠ I → s₃'.heap.get? b = some o → h₄.get? b = some o := fun b o hb e => hk₄ b o (fun z => hb (List.mem_singleton.mp z)) e
  refine it.own 1 { s₃' with heap := h₄, toks := tk₄ } _ v _ _ st₄ ?_
  have F₄ : FOk C sc r (I :: bad) mu₂ h₄ Γ O := (F₂.bcMore hIs kk.heap).iter (fun y c e q => noLive (q ▸ hIs) (F₂.cliv y c e)) hk₄'
  have W₄ : Wd C n (A.deeper (En sc r)) (mu₂ ++ I :: bad) h₄ := (W₂.bcMore hIs kk.heap it.liv).iter inHere hk₄' (it.alive _ _ st₄)
  obtain ⟨d0, hd0, hdv⟩ := it.dat 0 v hP
  obtain rfl : d = d0 := Option.some.inj hd0
  have hdv₄ : DIn C (mu₂ ++ I :: bad) h₄ v d := (hdv.more (inMore it.new)).mono fun a o ha e => hk₄' a o (fun q => ha (q ▸ inHere)) (it.kp.heap a o e)
  refine wpAny_assign_Name (FOk.store (s := { s₃' with heap := h₄, toks := tk₄ }) f.fn (.inl hx) hO F₄ hdv₄ fun s₅ st₅ F₅ => ?_)
  refine hb.run _ s₅ r (I :: bad) mu₂ _ _ (Wd.step (s := { s₃' with heap := h₄, toks := tk₄ }) W₄ st₅ (fun _ q => .inl q) F₅) hh F₅ fun e s₆ rx => ?_
  obtain ⟨st₆, hnew₆, ⟨m₆, hm₆⟩, ob, t, he, hc, hdt⟩ := rx
  have keep₅ : ∀ b o, s.heap.get? b = some o → s₅.heap.get? b = some o := fun b o q =>
    have h2 := kp₂.heap b o q
    st₅.heap b o (fun z => noSome (fresh₂ b z) q) (hk₄' b o (fun z => noSome (z ▸ hIs) h2) (kk.heap b o h2))
  have keep₆ : ∀ b o, s.heap.get? b = some o → s₆.heap.get? b = some o := fun b o q => st₆.heap b o (fun z => noSome (fresh₂ b z) q) (keep₅ b o q)
  refine noteFirst (L := r.L) (h₀ := s.heap) hfr' (Heap.FunFrames.cons (L := r.L) (by show sc.kind ≠ _; rw [f.fn]; decide) U.fr hm₆ rfl (funKeeps' hl keep₆)) U.fr (KpS.of keep₆) (noneBack (keep₅ e) hnew₆) he hc hdt fun h₇ k₇ x₇ => ?_
  refine backOut (s := { s₆ with heap := h₇ }) U.fr (U.fresh _ U.F.lmut) k₇ x₇ fun h₉ k₉ x₉ => ?_
  obtain ⟨tk, es⟩ : ∃ tk, s₆ = { s with heap := s₆.heap, toks := tk } := by
    obtain ⟨_, _, e1, _⟩ := kp₂
    obtain ⟨_, _, e3, _⟩ := kk
    obtain ⟨_, _, e5, _⟩ := st₅
    obtain ⟨_, t6, e6, _⟩ := st₆
    refine ⟨t6, ?_⟩
    rw [e6, e5]
    simp only
    rw [e3, e1]
  have := K e h₉ tk k₉ x₉
  rw [es]
  exact this
end
end Mine

-- Kit24
namespace Mine

theorem ExcAt.keeps {h₀ h h' : Heap} {e : Addr} {X : String} {fl : Value} (x : ExcAt h₀ h e X fl) (hk : ∀ b o, h.get? b = some o → h'.get? b = some o) : ExcAt h₀ h' e X fl := by
  obtain ⟨a, ob, vs, T, oT, ts, he, hc, hd, h1, h2, h3, hT0, hTe, hT, r⟩ := x
  exact ⟨a, ob, vs, T, oT, ts, hk _ _ he, hc, hd, h1, h2, h3, hT0, hTe, hk _ _ hT, r⟩
theorem ExcAt.before {h₀ h₁ h : Heap} {e : Addr} {X : String} {fl : Value} (x : ExcAt h₁ h e X fl) (hk : ∀ b o, h₀.get? b = some o → h₁.get? b = some o) : ExcAt h₀ h e X fl := by
  have up : ∀ b, h₁.get? b = none → h₀.get? b = none := fun b e => by
    cases q : h₀.get? b with
    | none => rfl
    | some o => have := hk b o q; rw [e] at this; cases this
  obtain ⟨a, ob, vs, T, oT, ts, he, hc, hd, h1, h2, h3, hT0, r⟩ := x
  exact ⟨up _ a, ob, vs, T, oT, ts, he, hc, hd, h1, h2, h3, up _ hT0, r⟩

/-- an expression that is left by an exception of a def it calls -/
structure EVF (C : Cfg) (n : Nat) (sc : Scope) (Γ : Gm) (e : Expr) (X : String) : Prop where
  run : ∀ (A : Around) (s : Shared) (r : Rt) (bad : List Addr) (Q : Value → Shared → Prop) (E : Value → Shared → Prop) (fs : List Env),
    Wd C n A bad s.heap → A.handled = none → A.frames = some fs → s.heap.FunFrames noHeap fs → GOk C sc r bad s.heap Γ →
    (∀ e h' tk, KpS (frs fs) s.heap h' → ExcAt s.heap h' e X .none → E (.ref e) { s with heap := h', toks := tk }) → wpAny (model C.prog C.w) A (eval e (En sc r)) Q E s

section
variable {C : Cfg} {n : Nat} {sc : Scope} {Γ Γ' : Gm} {r : Rt} {bc mu : List Addr} {s s' : Shared} {A : Around} {X : String}

theorem funKeeps {h h' : Heap} {fs : List Env} (x : h.FunFrames noHeap fs) (hk : ∀ b o, h.get? b = some o → h'.get? b = some o) : h'.FunFrames noHeap fs := x.of_keeps fun b o hb _ => ⟨o, hk b o hb, rfl⟩

theorem EVF.callF {x : Str} {p pos : Pos} {es : List Expr} {a : Addr} {ds : List D} (hf : EV C n sc Γ (.Name x p) (.val (.ref a))) (ha : EVs C n sc Γ es ds) (hb : FNR C n a ds X)
    (ho : ∃ o fd, C.b0.get? a = some o ∧ o.data = .func fd) : EVF C n sc Γ (.Call (.Name x p) es [] pos) X := by
  refine ⟨fun A s r bad Q E fs W hh hfr hl G K => ?_⟩
  obtain ⟨o, fd, ho, hfd⟩ := ho
  refine wpAny_Call_Name_kw (hf.run A s r bad _ E W G fun f s₁ k₁ i₁ => ?_)
  obtain rfl := i₁.valInv
  refine callWith_function_kw (o := o) (fd := fd) (spliceArgs (ha.plain _) ?_)
  refine ha.run A s₁ r bad pos _ E (W.keeps k₁.heap) (G.keeps k₁.heap) fun vs s₂ k₂ i₂ => ?_
  have W₂ := (W.keeps k₁.heap).keeps k₂.heap
  have kk := k₁.trans k₂
  refine ⟨⟨W₂.base _ _ ho, hfd⟩, hb A s₂ bad vs Q E fs W₂ hh hfr (funKeeps hl kk.heap) i₂ fun e h' tk k x => ?_⟩
  obtain ⟨h2, t2, e2, _⟩ := id kk
  have := K e h' tk ((KpS.of kk.heap).trans k) (x.before kk.heap)
  rw [e2]; exact this

theorem EVF.listItems {x : Str} {e : Expr} {p ap cp pos : Pos} (hf : EV C n sc Γ (.Name x p) (.val (.type "list"))) (he : EVF C n sc Γ e X)
    (hbase : ∀ env, attributeBase e (Str.ofString "items") env (eval e env) = eval e env := by intro _; rfl) (hline : (ap.endLine == cp.line) = true := by rfl) :
    EVF C n sc Γ (.Call (.Name x p) [.Call (.Attribute e (Str.ofString "items") ap) [] [] cp] [] pos) X := by
  refine ⟨fun A s r bad Q E fs W hh hfr hl G K => ?_⟩
  refine wpAny_Call_Name_kw (hf.run A s r bad _ E W G fun f s₁ k₁ i₁ => ?_)
  obtain rfl := i₁.valInv
  refine PySem.callWith_type rfl (Calls.evalArgs_plain (Calls.spliced_cons ?_))
  refine Call_method0 (hbase _) hline (he.run A s₁ r bad _ E fs (W.keeps k₁.heap) hh hfr (funKeeps hl k₁.heap) (G.keeps k₁.heap) fun e h' tk k x => ?_)
  obtain ⟨h2, t2, e2, _⟩ := id k₁
  have := K e h' tk ((KpS.of k₁.heap).trans k) (x.before k₁.heap)
  rw [e2]; exact this

/-- the same, with something being handled around -/
noncomputable def Cfg.loud (C : Cfg) : Cfg := { C with q := false }

theorem FOk.slots {Ls : List Addr} {h₀ h : Heap} (F : FOk C sc r bc mu h₀ Γ .none) (k : KpS Ls h₀ h) (hL : ∀ a ∈ Ls, a ∈ mu ++ bc) (hcs : r.cs = []) : FOk C.loud sc r bc mu h Γ .none := by
  refine ⟨let ⟨m, hm⟩ := F.ns; ⟨m, k.ns hm⟩, F.lmut, fun x c e => ?_, fun x e => ?_, F.apart, F.nol, fun y c e => k.live c (F.cliv y c e), fun a ha => k.live a (F.live a ha), F.disj, fun y d e => ?_, trivial⟩
  · rw [hcs] at e; cases e
  · exact F.has x e
  · obtain ⟨v, hv, hd⟩ := F.go y d e
    refine ⟨v, ?_, (DIn.cfg (C := C) (C' := C.loud) rfl rfl hd).mono fun a o ha q => k.keep a o (fun z => ha (hL a z)) q⟩
    rcases hv with ⟨hl, m, hm, em⟩ | ⟨hl, c, hc, _⟩
    · exact .inl ⟨hl, m, k.ns hm, em⟩
    · rw [hcs] at hc; cases hc

theorem Wd.slots {Ls : List Addr} {h₀ h : Heap} {bad : List Addr} {e : Addr} {fl : Value} (W : Wd C n A bad h₀) (k : KpS Ls h₀ h) (hL : ∀ a ∈ Ls, a ∈ bad) (x : ExcAt h₀ h e X fl) : Wd C.loud n (A.mark (some (.ref e))) bad h where
  depth := W.depth
  units := W.units
  top := ⟨W.top.g, W.top.bi, W.top.lim⟩
  base := fun b o q => k.keep b o (fun z => by have := W.apart b (hL b z); rw [show C.b0.get? b = some o from q] at this; cases this) (W.base b o q)
  held := by
    obtain ⟨a, ob, vs, T, oT, ts, he, hc, hd, h1, h2, h3, _⟩ := x
    refine .inr ⟨e, ob, vs, rfl, fun q => ?_, he, hd, h2, h3⟩
    have := W.live e q; rw [a] at this; cases this
  quiet := fun q => by cases q
  live := fun a ha => k.live a (W.live a ha)
  apart := W.apart

/-- the handlers of a try -/
inductive HD (C' : Cfg) (n : Nat) (sc : Scope) (Γ : Gm) (X : String) (d : D) : List ExceptHandler → Prop
  | hit {t : Expr} {b₀ : Stmt} {suite : List Stmt} {pos : Pos} {rest : List ExceptHandler} {T : String} : EV C' n sc Γ t (.val (.type T)) → isSubtype (.type T) (.type "BaseException") = pure true →
      isSubtype (.type ((Manifest.find? T).elim "type" fun x => x.metatype)) (.type "tuple") = pure false → isSubtype (.type X) (.type T) = pure true → EX C' n sc Γ .none (b₀ :: suite) (.ret d) →
      HD C' n sc Γ X d (.ExceptHandler (some t) none (b₀ :: suite) pos :: rest)
  | miss {t : Expr} {b₀ : Stmt} {suite : List Stmt} {pos : Pos} {rest : List ExceptHandler} {T : String} : EV C' n sc Γ t (.val (.type T)) → isSubtype (.type T) (.type "BaseException") = pure true →
      isSubtype (.type ((Manifest.find? T).elim "type" fun x => x.metatype)) (.type "tuple") = pure false → isSubtype (.type X) (.type T) = pure false → HD C' n sc Γ X d rest →
      HD C' n sc Γ X d (.ExceptHandler (some t) none (b₀ :: suite) pos :: rest)

theorem ExcAt.typeIs {h₀ : Heap} {e : Addr} {fl : Value} (x : ExcAt h₀ s.heap e X fl) : s.TypeIs (.ref e) X := by
  obtain ⟨a, ob, vs, T, oT, ts, he, hc, _⟩ := x
  exact ⟨ob, he, hc⟩

theorem HD.run {d : D} {hs : List ExceptHandler} (hd : HD C.loud n sc Γ X d hs) {Ls : List Addr} {e : Addr} {s₀ : Shared} {E : Value → Shared → Prop} {Q : Flow → Shared → Prop} (W : Wd C n A (mu ++ bc) s₀.heap) (F : FOk C sc r bc mu s₀.heap Γ .none)
    (hL : ∀ a ∈ Ls, a ∈ mu ++ bc) (hcs : r.cs = []) :
    ∀ s : Shared, (∃ tk, s = { s₀ with heap := s.heap, toks := tk }) → KpS Ls s₀.heap s.heap → ExcAt s₀.heap s.heap e X .none →
    (∀ v h' h'' tk, KpS Ls s₀.heap h' → (∀ a o, a ∉ mu → h'.get? a = some o → h''.get? a = some o) → DIn C bc h'' v d → Q (.ret v) { s₀ with heap := h'', toks := tk }) →
    wpAny (model C.prog C.w) A (handleBy (.ref e) (En sc r) hs) Q E s := by
  induction hd with
  | hit ht he hn hsub hex =>
    intro s hs k x K
    refine wpAny_handleBy_builtin (X := X) (b := true) he hn hsub ?_
    have W₁ := W.slots k hL x
    have F₁ := F.slots k hL hcs
    refine ht.run _ s r (mu ++ bc) _ _ W₁ F₁.go fun v s₁ k₁ i₁ => ?_
    obtain rfl := i₁.valInv
    refine ⟨rfl, (x.keeps k₁.heap).typeIs, ?_⟩
    rw [if_pos rfl]
    refine flightTo (s := s₁) (k.trans (KpS.of k₁.heap)) (x.keeps k₁.heap) fun h₂ k₂ x₂ _ => ?_
    have W₂ := W.slots k₂ hL x₂
    have F₂ := F.slots k₂ hL hcs
    refine hex.run _ { s₁ with heap := h₂ } r bc mu _ _ W₂ F₂ fun u s₃ st₃ i₃ => ?_
    obtain ⟨h3, t3, e3, keep3, _⟩ := id st₃
    obtain ⟨h1, t1, e1, _⟩ := id k₁
    obtain ⟨t0, e0⟩ := hs
    have hfin := K u h₂ s₃.heap t3 k₂ (fun a o ha q => st₃.heap a o ha q) (DIn.cfg (C := C.loud) (C' := C) rfl rfl i₃)
    have : s₃ = { s₀ with heap := s₃.heap, toks := t3 } := by
      rw [e3]
      simp only
      rw [e1, e0]
    rw [this]
    exact hfin
  | miss ht he hn hsub _ ih =>
    intro s hs k x K
    refine wpAny_handleBy_builtin (X := X) (b := false) he hn hsub ?_
    have W₁ := W.slots k hL x
    have F₁ := F.slots k hL hcs
    refine ht.run _ s r (mu ++ bc) _ _ W₁ F₁.go fun v s₁ k₁ i₁ => ?_
    obtain rfl := i₁.valInv
    refine ⟨rfl, (x.keeps k₁.heap).typeIs, ?_⟩
    rw [if_neg Bool.false_ne_true]
    refine ih s₁ ?_ (k.trans (KpS.of k₁.heap)) (x.keeps k₁.heap) K
    obtain ⟨h1, t1, e1, _⟩ := id k₁
    obtain ⟨t0, e0⟩ := hs
    refine ⟨t1, ?_⟩
    rw [e1]
    simp only
    rw [e0]

/-- a def that may catch an exception of a def it calls: the frames around are noted -/
noncomputable def FNL (C : Cfg) (n : Nat) (a : Addr) (ds : List D) (d : D) : Prop :=
  ∀ (A : Around) (s : Shared) (bad : List Addr) (vs : List Value) (Q : Value → Shared → Prop) (E : Value → Shared → Prop) (fs : List Env),
    Wd C n A bad s.heap → A.handled = none → A.frames = some fs → s.heap.FunFrames noHeap fs → (∀ a ∈ frs fs, a ∈ bad) → DAll C bad s.heap vs ds →
    (∀ v h' tk, KpS (frs fs) s.heap h' → DIn C bad h' v d → Q v { s with heap := h', toks := tk }) → wpAny (model C.prog C.w) A (call (.ref a) vs) Q E s

theorem FNL.fn {a : Addr} {ds : List D} {d : D} (h : FN C n a ds d) : FNL C n a ds d := by
  intro A s bad vs Q E fs W hh hfr hl hb all K
  refine h A s bad vs Q E W all fun v s' k i => ?_
  obtain ⟨h', tk, rfl, hk⟩ := k
  exact K v h' tk (KpS.of hk) i

theorem FNL.try {a : Addr} {ps : List Str} {y : Str} {py apos pos : Pos} {e : Expr} {hs : List ExceptHandler} {rest : List Stmt} {ds : List D} {d : D} {h₀ : ExceptHandler} (f : FnAt C a ps sc (.Try [.Assign [.Name y py] e apos] (h₀ :: hs) [] [] pos :: rest)) (hlen : ps.length = ds.length)
    (he : EVF C n sc (ps.zip ds) e X) (hd : HD C.loud n sc (ps.zip ds) X d (h₀ :: hs)) (hnc : ∀ k, cellsFrom k sc.names [] = [])
    (hsw : ∀ r, swapsWith e (some (.Name y py)) apos.line (En sc r) = pure false := by intro _; rfl) : FNL C (n + 1) a ds d := by
  intro A s bad vs Q E fs W hh hfr hl hbad all K
  refine call_in f hlen W all fun r mu s₁ U => ?_
  have hcs : r.cs = [] := U.cs.trans (hnc _)
  have hfr' : (A.deeper (En sc r)).frames = some (En sc r :: fs) := Around.frames_deeper hfr
  have ef : (En sc r).frame = some r.L := U.fr
  have efrs : frs (En sc r :: fs) = r.L :: frs fs := frsCons U.fr
  have hLs : ∀ a ∈ frs (En sc r :: fs), a ∈ mu ++ bad := fun a ha => by
    rw [efrs] at ha
    exact (List.mem_cons.mp ha).elim (fun q => q ▸ List.mem_append_left _ U.F.lmut) fun q => List.mem_append_right _ (hbad a q)
  have FF : s₁.heap.FunFrames noHeap (En sc r :: fs) := by
    obtain ⟨m, hm⟩ := U.F.ns
    exact Heap.FunFrames.cons (L := r.L) (by show sc.kind ≠ _; rw [f.fn]; decide) U.fr hm rfl (funKeeps hl U.kp.heap)
  refine wpAny_execs_cons (wpAny_Try_except (wpAny_execs_cons (wpAny_Assign_Name (he.run _ s₁ r (mu ++ bad) _ _ (En sc r :: fs) U.W hh hfr' FF U.F.go fun ex h₂ tk k₂ x₂ => ?_) (hsw r))))
  refine noteNext (s := { s₁ with heap := h₂, toks := tk }) (L := r.L) hfr' (FF.of_keeps fun b o hb _ => (k₂.all b o hb).elim fun sl q => ⟨_, q, rfl⟩) ef k₂ x₂ fun h₃ k₃ x₃ => ?_
  refine flightTo (s := { s₁ with heap := h₃, toks := tk }) k₃ x₃ fun h₄ k₄ x₄ _ => ?_
  refine HD.run hd (s₀ := s₁) U.W U.F hLs hcs { s₁ with heap := h₄, toks := tk } ⟨tk, rfl⟩ k₄ x₄ fun v h' h'' tk' k' st i => ?_
  obtain ⟨h1, t1, rfl, k1⟩ := U.kp
  have nm : ∀ b o, s.heap.get? b = some o → b ∉ mu := fun b o q z => noSome (U.fresh b z) q
  refine K v h'' tk' ⟨fun b o hb q => st b o (nm b o q) (k'.keep b o (fun z => ?_) (k1 b o q)), fun b o hb q => ?_⟩ i
  · rw [efrs] at z
    exact (List.mem_cons.mp z).elim (fun z => nm b o q (z ▸ U.F.lmut)) hb
  · obtain ⟨sl, q'⟩ := k'.all b o (k1 b o q)
    exact ⟨sl, st b _ (nm b o q) q'⟩
end
end Mine

-- Kit25
namespace Mine

/-- an expression that may note the frames around -/
structure EVL (C : Cfg) (n : Nat) (sc : Scope) (Γ : Gm) (e : Expr) (d : D) : Prop where
  run : ∀ (A : Around) (s : Shared) (r : Rt) (bad : List Addr) (Q : Value → Shared → Prop) (E : Value → Shared → Prop) (fs : List Env),
    Wd C n A bad s.heap → A.handled = none → A.frames = some fs → s.heap.FunFrames noHeap fs → (∀ a ∈ frs fs, a ∈ bad) → GOk C sc r bad s.heap Γ →
    (∀ v h' tk, KpS (frs fs) s.heap h' → DIn C bad h' v d → Q v { s with heap := h', toks := tk }) → wpAny (model C.prog C.w) A (eval e (En sc r)) Q E s

inductive CLL (C : Cfg) (n : Nat) (sc : Scope) (x : Str) (elt : Expr) : List D → List D → Prop
  | nil : CLL C n sc x elt [] []
  | keep {d d' : D} {ds ds' : List D} : EVL C n sc [(x, d)] elt d' → CLL C n sc x elt ds ds' → CLL C n sc x elt (d :: ds) (d' :: ds')

/-- a step that may touch the slots at Ls beside -/
structure StepS (Ls mu : List Addr) (s s' : Shared) : Prop where
  same : ∃ tk, s' = { s with heap := s'.heap, toks := tk }
  keep : ∀ a o, a ∉ mu → a ∉ Ls → s.heap.get? a = some o → s'.heap.get? a = some o
  slots' : ∀ a o, a ∈ Ls → s.heap.get? a = some o → ∃ sl, s'.heap.get? a = some { o with slots := sl }
  liv : ∀ a, (s.heap.get? a).isSome = true → (s'.heap.get? a).isSome = true

section
variable {C : Cfg} {n : Nat} {scope sc : Scope} {Γ : Gm} {iter elt : Expr} {ds ds' : List D} {Ls mu : List Addr} {s s' s'' : Shared}

theorem StepS.refl : StepS Ls mu s s := ⟨⟨s.toks, rfl⟩, fun _ _ _ _ e => e, fun _ o _ e => ⟨o.slots, e⟩, fun _ e => e⟩
theorem StepS.step (x : StepS Ls mu s s') (y : Step mu s' s'') (hd : ∀ a ∈ Ls, a ∉ mu) : StepS Ls mu s s'' := by
  obtain ⟨h2, t2, rfl, k2, l2⟩ := y
  refine ⟨?_, fun a o h1 h2 e => k2 a o h1 (x.keep a o h1 h2 e), fun a o ha e => ?_, fun a e => l2 a (x.liv a e)⟩
  · obtain ⟨t1, e1⟩ := x.same
    refine ⟨t2, ?_⟩
    rw [e1]
  · obtain ⟨sl, q⟩ := x.slots' a o ha e
    exact ⟨sl, k2 a _ (hd a ha) q⟩
theorem StepS.slots {h₅ : Heap} {tk : Nat} (x : StepS Ls mu s s') (k : KpS Ls s'.heap h₅) : StepS Ls mu s { s' with heap := h₅, toks := tk } := by
  refine ⟨?_, fun a o h1 h2 e => k.keep a o h2 (x.keep a o h1 h2 e), fun a o ha e => ?_, fun a e => k.live a (x.liv a e)⟩
  · obtain ⟨t1, e1⟩ := x.same
    refine ⟨tk, ?_⟩
    rw [e1]
  · obtain ⟨sl, q⟩ := x.slots' a o ha e
    obtain ⟨sl2, q2⟩ := k.slots a _ ha q
    exact ⟨sl2, q2⟩
theorem StepS.frames {fs : List Env} (x : StepS (frs fs) mu s s') (hl : s.heap.FunFrames noHeap fs) (_hd : ∀ a ∈ frs fs, a ∉ mu) : s'.heap.FunFrames noHeap fs := by
  have : ∀ l : List Env, (∀ a ∈ frs l, a ∈ frs fs) → s.heap.FunFrames noHeap l → s'.heap.FunFrames noHeap l := by
    intro l
    induction l with
    | nil => intro _ _; trivial
    | cons env rest ih =>
      intro hs ⟨hk, ⟨L, o, hf, hn, ho, hd⟩, hr⟩
      have e1 : frs (env :: rest) = L :: frs rest := by
        show List.filterMap _ _ = _
        rw [List.filterMap_cons, hf]
      rw [e1] at hs
      obtain ⟨sl, q⟩ := x.slots' L o (hs L List.mem_cons_self) ho
      exact ⟨hk, ⟨L, _, hf, hn, q, hd⟩, ih (fun a ha => hs a (List.mem_cons_of_mem _ ha)) hr⟩
  exact this fs (fun _ h => h) hl
theorem Wd.kpS {A : Around} {bad : List Addr} {h h' : Heap} (W : Wd C n A bad h) (k : KpS Ls h h') (hL : ∀ a ∈ Ls, a ∈ bad) : Wd C n A bad h' where
  depth := W.depth
  units := W.units
  top := W.top
  base := fun b o q => k.keep b o (fun z => by have := W.apart b (hL b z); rw [q] at this; cases this) (W.base b o q)
  held := W.held.keeps fun b o hb e => k.keep b o (fun q => hb (hL b q)) e
  quiet := W.quiet
  live := fun a ha => k.live a (W.live a ha)
  apart := W.apart

theorem EVL.callF {x : Str} {p pos : Pos} {es : List Expr} {a : Addr} {ds : List D} {d : D} (hf : EV C n sc Γ (.Name x p) (.val (.ref a))) (ha : EVs C n sc Γ es ds) (hb : FNL C n a ds d)
    (ho : ∃ o fd, C.b0.get? a = some o ∧ o.data = .func fd) : EVL C n sc Γ (.Call (.Name x p) es [] pos) d := by
  refine ⟨fun A s r bad Q E fs W hh hfr hl hbad G K => ?_⟩
  obtain ⟨o, fd, ho, hfd⟩ := ho
  refine wpAny_Call_Name_kw (hf.run A s r bad _ E W G fun f s₁ k₁ i₁ => ?_)
  obtain rfl := i₁.valInv
  refine callWith_function_kw (o := o) (fd := fd) (spliceArgs (ha.plain _) ?_)
  refine ha.run A s₁ r bad pos _ E (W.keeps k₁.heap) (G.keeps k₁.heap) fun vs s₂ k₂ i₂ => ?_
  have W₂ := (W.keeps k₁.heap).keeps k₂.heap
  have kk := k₁.trans k₂
  refine ⟨⟨W₂.base _ _ ho, hfd⟩, hb A s₂ bad vs Q E fs W₂ hh hfr (funKeeps hl kk.heap) hbad i₂ fun v h' tk k i => ?_⟩
  obtain ⟨h2, t2, e2, _⟩ := id kk
  have := K v h' tk ((KpS.of kk.heap).trans k) i
  rw [e2]; exact this

theorem CLL.inv {x : Str} (c : CLL C n sc x elt ds ds') : (match ds with | [] => ds' = [] | d :: r => ∃ d' r', ds' = d' :: r' ∧ EVL C n sc [(x, d)] elt d' ∧ CLL C n sc x elt r r') := by
  cases c with
  | nil => rfl
  | keep a b => exact ⟨_, _, rfl, a, b⟩
theorem comp_coreL {A : Around} {s : Shared} {r : Rt} {bad : List Addr} {E : Value → Shared → Prop} {Q : Value → Shared → Prop} {use : Option (Value → Sem Unit)} {pos p px : Pos} {x : Str} {fs : List Env}
    (W : Wd C n A bad s.heap) (G : GOk C sc r bad s.heap Γ) (hi : EI C n sc Γ iter ds) (cl : CLL C n (rl scope sc) x elt ds ds') (hx : (rl scope sc).names.lookup x = some .local) (hrf : (rl scope sc).kind = .function) (hh : A.handled = none) (hfrm : A.frames = some fs) (hfun : s.heap.FunFrames noHeap fs) (hLs : ∀ a ∈ frs fs, a ∈ bad) (hf : scope.kind = .function) (hnofree : ∀ x, (x, NameKind.free) ∉ scope.names) (hsz : ds.length ≤ 10000000)
    (hnames : ∀ x ∈ scope.names, x.2 = .local → scope.names.lookup x.1 = some .local) (hs : ∀ v, foldedSetIterable iter (En sc r) v = pure v)
    (hpost : ∀ (acc blk : Addr) (s₅ : Shared) (ys : List Value) (k : Nat), (∃ tk, s₅ = { s with heap := s₅.heap, toks := tk }) → KpS (frs fs) s.heap s₅.heap → s.heap.get? acc = none → s.heap.get? blk = none → acc ≠ blk → (∃ m, s₅.heap.Ns blk m) → s₅.heap.get? acc = some (lobj ys k) → DAll C (acc :: blk :: bad) s₅.heap ys ds' →
      compPost (model C.prog C.w) A E use Q (.ref acc) blk (.ok .next) s₅) :
    wpAny (model C.prog C.w) A (comprehension (.ListComp elt [⟨.Name x px, iter, [], 0⟩] scope pos) scope (En sc r) p (newList []) false (eval iter (En sc r)) use) Q E s := by
  refine comp_in W G hi hf (fun x hx => absurd hx (hnofree x)) hnames hs fun I s₀ s' fp PP St acc ow r' h4 X => ?_
  have owbad : ∀ a ∈ ow, a ∈ (I :: acc :: ow) ++ bad := fun a ha => List.mem_append_left _ (X.ow_mem ha)
  have lsx : ∀ a ∈ frs fs, a ∉ I :: acc :: ow := fun a ha q => noLive (X.new a q) (W.live a (hLs a ha))
  have nls : ∀ a, a ∈ I :: acc :: ow → a ∉ frs fs := fun a ha q => lsx a q ha
  have lsb : ∀ a ∈ frs fs, a ∈ (I :: acc :: ow) ++ bad := fun a ha => List.mem_append_right _ (hLs a ha)
  refine compLoopT (CompInv C n A bad scope r' ds ds' I acc ow St (CLL C n (rl scope sc) x elt) (StepS (frs fs) (I :: acc :: ow) { s' with heap := h4 })) ?_ (ds.length + 1)
    ⟨0, [], ds', [], 0, rfl, Nat.zero_le _, cl, rfl, X.st4, X.acc4, .nil, X.IC, .refl, X.W4, Nat.le_refl _⟩
  rintro k s₁ ⟨i, done, rest, ys, kq, hk, hile, cl₁, hds', st₁, hacc₁, hall₁, IC₁, step₁, W₁, hdl⟩ E'
  rcases Nat.lt_or_ge i ds.length with hlt | hge
  · refine X.it.wk.item i s₁ _ _ hlt st₁ fun v h₂ tk₂ hP st₂ hk₂ => ?_
    obtain ⟨hacc₂, all₂, IC₂, W₂⟩ := X.item st₂ hk₂ hacc₁ hall₁ IC₁ W₁
    have step₂ : StepS (frs fs) (I :: acc :: ow) { s' with heap := h4 } { s₁ with heap := h₂, toks := tk₂ } := step₁.step (Step.item .refl (fun b o hb e => hk₂ b o (fun z => hb (List.mem_singleton.mp z)) e) (X.it.alive _ _ st₂)) lsx
    obtain ⟨d, hd, hdv⟩ := X.it.dat i v hP
    rw [drop_at hd] at cl₁
    have hdv₂ : DIn C ((I :: acc :: ow) ++ bad) h₂ v d := hdv.extra X.new₀ fun a o ha hb e => step₂.keep a o ha (fun q => hb (hLs a q)) (X.k4 a o (X.it.kp.heap a o e))
    refine X.it.own (i + 1) { s₁ with heap := h₂, toks := tk₂ } _ v _ _ st₂ ?_
    obtain ⟨d', ds₂', rfl, hev, cl₂⟩ := cl₁.inv
    refine TG.name (C := C) (n := n) (scope := scope) (sc := rl scope sc) (d := d) hrf hx trivial A { s₁ with heap := h₂, toks := tk₂ } r' ow ((I :: acc :: ow) ++ bad) v _ E' W₂ IC₂ owbad hdv₂ fun s₃ step₃ IC₃ hb₃ => ?_
    have W₃ : Wd C n A ((I :: acc :: ow) ++ bad) s₃.heap := Wd.upTo (s := { s₁ with heap := h₂, toks := tk₂ }) W₂ step₃ owbad
    refine wpAny_tests_nil ?_
    rw [if_pos rfl]
    have step₃' : StepS (frs fs) (I :: acc :: ow) { s' with heap := h4 } s₃ := step₂.step (step₃.less fun a ha => X.ow_mem ha) lsx
    refine hev.run A s₃ r' _ _ E' fs W₃ hh hfrm (step₃'.frames (funKeeps hfun X.kS) lsx) lsb hb₃ fun u h₅ tk₅ k₅ i₅ => ?_
    have all₅ : DAll C ((I :: acc :: ow) ++ bad) h₅ ys done := all₂.mono fun a o ha e => k₅.keep a o (fun q => ha (lsb a q)) (step₃.heap a o (fun q => ha (owbad a q)) e)
    refine wpAny_list_append_plain (s := { s₃ with heap := h₅, toks := tk₅ }) (l := acc) (items := ys.toArray) ⟨kq, k₅.keep _ _ (nls _ X.acc_mem) (step₃.heap _ _ X.naow hacc₂)⟩ (fun h₆ hl₆ hs₆ => ?_) (by rw [List.size_toArray, all₂.length, sizeLine_eq]; exact Nat.le_trans (Nat.le_trans hdl (Nat.le_trans hile hsz)) (show 10000000 ≤ 16777216 by decide))
    obtain ⟨kq', hl₆⟩ := hl₆
    have step₆ : Step (I :: acc :: ow) { s₃ with heap := h₅, toks := tk₅ } { s₃ with heap := h₆, toks := tk₅ } := Step.lv (s := { s₃ with heap := h₅, toks := tk₅ }) (tk := tk₅) X.acc_mem hs₆ (liveOf hl₆)
    exact ⟨ds.length + 1 - (i + 1), turn_lt hk hlt, i + 1, done ++ [d'], ds₂', ys ++ [u], kq', rfl, hlt, cl₂, by rw [hds', List.append_assoc]; rfl, X.it.wk.frame _ _ _ st₂ fun b hb o e => (hs₆.2 b (X.fpf b hb).1).trans (k₅.keep b o (fun q => (X.it.fps b hb).elim (fun z => lsx b q (z ▸ List.mem_cons_self)) fun z => z.1 (hLs b q)) (step₃.heap b o (X.fpf b hb).2 e)), by rw [hl₆, lsnoc],
      (all₅.append (.cons i₅ .nil)).mono fun b o hb e => (hs₆.2 b (fun q => hb (List.mem_append_left _ (by rw [q]; exact X.acc_mem)))).trans e, (IC₃.at fun a ha o e => k₅.keep a o (nls a (X.ow_mem ha)) e).at fun a ha o e => (hs₆.2 a (fun q => X.naow (q ▸ ha))).trans e, (step₃'.slots k₅).step step₆ lsx,
      Wd.upTo (s := { s₃ with heap := h₅, toks := tk₅ }) (W₃.kpS k₅ lsb) step₆ (fun a ha => List.mem_append_left _ ha), by rw [List.length_append]; exact Nat.succ_le_succ hdl⟩
  · obtain rfl : i = ds.length := Nat.le_antisymm hile hge
    rw [List.drop_length] at cl₁
    obtain rfl : rest = [] := cl₁.inv
    rw [List.append_nil] at hds'
    subst hds'
    refine X.it.wk.done s₁ _ _ st₁ fun h₂ tk₂ hk₂ => ?_
    have hk₂' : ∀ b o, b ≠ I → s₁.heap.get? b = some o → h₂.get? b = some o := fun b o hb e => hk₂ b o (fun z => hb (List.mem_singleton.mp z)) e
    have kS : KpS (frs fs) s.heap h₂ := by
      have nx : ∀ b o, s.heap.get? b = some o → b ∉ I :: acc :: ow := fun b o e q => noSome (X.new b q) e
      refine ⟨fun b o hb e => hk₂' b o (fun q => nx b o e (q ▸ List.mem_cons_self)) (step₁.keep b o (nx b o e) hb (X.kS b o e)), fun b o hb e => ?_⟩
      obtain ⟨sl, q⟩ := step₁.slots' b o hb (X.kS b o e)
      exact ⟨sl, hk₂' b _ (fun z => nx b o e (z ▸ List.mem_cons_self)) q⟩
    refine hpost acc (acc + 1) { s₁ with heap := h₂, toks := tk₂ } ys kq ?_ kS (X.new _ X.acc_mem) (X.new _ (X.ow_mem X.owL)) (Nat.ne_of_lt (Nat.lt_succ_self _)) ?_ (hk₂' _ _ (Ne.symm X.nIa) hacc₁) ?_
    · obtain ⟨ta, e1⟩ := step₁.same
      obtain ⟨h0, t0, e0, k00⟩ := X.k₀.trans X.it.kp
      refine ⟨tk₂, ?_⟩
      rw [e1]
      simp only
      rw [e0]
    · obtain ⟨m, hm⟩ := IC₁.ns
      rw [X.rL] at hm
      exact ⟨m, hm.at' fun o e => hk₂' _ o (fun q => X.nIow (q ▸ X.owL)) e⟩
    · refine hall₁.gen rfl rfl fun a o ha e => ⟨fun q => ha ?_, hk₂' a o (fun q => ha (q ▸ List.mem_append_left _ List.mem_cons_self)) e⟩
      rcases List.mem_cons.mp q with q | q
      · rw [q]; exact List.mem_append_left _ X.acc_mem
      · rcases List.mem_cons.mp q with q | q
        · rw [q]; exact List.mem_append_left _ (X.ow_mem X.owL)
        · exact List.mem_append_right _ q

theorem FOk.slotsC {Ls bc mu : List Addr} {r : Rt} {h₀ h : Heap} (F : FOk C sc r bc mu h₀ Γ .none) (k : KpS Ls h₀ h) (hL : ∀ a ∈ Ls, a ∈ mu ++ bc) (hcs : r.cs = []) : FOk C sc r bc mu h Γ .none := by
  refine ⟨let ⟨m, hm⟩ := F.ns; ⟨m, k.ns hm⟩, F.lmut, fun x c e => ?_, fun x e => ?_, F.apart, F.nol, fun y c e => k.live c (F.cliv y c e), fun a ha => k.live a (F.live a ha), F.disj, fun y d e => ?_, trivial⟩
  · rw [hcs] at e; cases e
  · exact F.has x e
  · obtain ⟨v, hv, hd⟩ := F.go y d e
    refine ⟨v, ?_, hd.mono fun a o ha q => k.keep a o (fun z => ha (hL a z)) q⟩
    rcases hv with ⟨hl, m, hm, em⟩ | ⟨hl, c, hc, _⟩
    · exact .inl ⟨hl, m, k.ns hm, em⟩
    · rw [hcs] at hc; cases hc

/-- a statement of the outermost def -/
structure ESF (C : Cfg) (n : Nat) (sc : Scope) (Γ : Gm) (st : Stmt) (Γ' : Gm) : Prop where
  run : ∀ (A : Around) (s : Shared) (r : Rt) (bc mu : List Addr) (Q : Flow → Shared → Prop) (E : Value → Shared → Prop),
    A.handled = none → A.frames = some [En sc r] → r.fr = some r.L → r.cs = [] → Wd C n A (mu ++ bc) s.heap → FOk C sc r bc mu s.heap Γ .none → Post C sc r bc mu s Q (.next Γ' .none) → wpAny (model C.prog C.w) A (exec st (En sc r)) Q E s
structure EXF (C : Cfg) (n : Nat) (sc : Scope) (Γ : Gm) (ss : List Stmt) (d : D) : Prop where
  run : ∀ (A : Around) (s : Shared) (r : Rt) (bc mu : List Addr) (Q : Flow → Shared → Prop) (E : Value → Shared → Prop),
    A.handled = none → A.frames = some [En sc r] → r.fr = some r.L → r.cs = [] → Wd C n A (mu ++ bc) s.heap → FOk C sc r bc mu s.heap Γ .none → Post C sc r bc mu s Q (.ret d) → wpAny (model C.prog C.w) A (execs ss (En sc r)) Q E s

theorem EXF.of {ss : List Stmt} {d : D} (h : EX C n sc Γ .none ss (.ret d)) : EXF C n sc Γ ss d := ⟨fun A s r bc mu Q E _ _ _ _ W F P => h.run A s r bc mu Q E W F P⟩
theorem EXF.cons {st : Stmt} {ss : List Stmt} {d : D} {Γ' : Gm} (h₁ : ES C n sc Γ .none st (.next Γ' .none)) (h₂ : EXF C n sc Γ' ss d) : EXF C n sc Γ (st :: ss) d := by
  refine ⟨fun A s r bc mu Q E a1 a2 a3 a4 W F P => ?_⟩
  refine wpAny_execs_cons (h₁.run A s r bc mu _ E W F fun s' mu' st hm F' => ?_)
  exact h₂.run A s' r bc mu' Q E a1 a2 a3 a4 (W.step st hm F') F' (P.step st hm)
theorem EXF.consF {st : Stmt} {ss : List Stmt} {d : D} {Γ' : Gm} (h₁ : ESF C n sc Γ st Γ') (h₂ : EX C n sc Γ' .none ss (.ret d)) : EXF C n sc Γ (st :: ss) d := by
  refine ⟨fun A s r bc mu Q E a1 a2 a3 a4 W F P => ?_⟩
  refine wpAny_execs_cons (h₁.run A s r bc mu _ E a1 a2 a3 a4 W F fun s' mu' st hm F' => ?_)
  exact h₂.run A s' r bc mu' Q E (W.step st hm F') F' (P.step st hm)

theorem ESF.assignComp {y x : Str} {py px pos spos : Pos} (hi : EI C n sc Γ iter ds) (cl : CLL C n (rl scope sc) x elt ds ds') (hx : (rl scope sc).names.lookup x = some .local) (hrf : (rl scope sc).kind = .function) (hf : scope.kind = .function) (hnofree : ∀ x, (x, NameKind.free) ∉ scope.names) (hsz : ds.length ≤ 10000000)
    (hnames : ∀ x ∈ scope.names, x.2 = .local → scope.names.lookup x.1 = some .local) (hff : sc.kind = .function) (hy : sc.names.lookup y = some .local ∨ sc.names.lookup y = some .cell)
    (hsw : ∀ r, swapsWith (.ListComp elt [⟨.Name x px, iter, [], 0⟩] scope pos) (some (.Name y py)) spos.line (En sc r) = pure true) (hs : ∀ r v, foldedSetIterable iter (En sc r) v = pure v := by intro _ _; rfl) :
    ESF C n sc Γ (.Assign [.Name y py] (.ListComp elt [⟨.Name x px, iter, [], 0⟩] scope pos) spos) ((y, .list ds') :: Γ) := by
  refine ⟨fun A s r bc mu Q E hh hfr hfrL hcs W F P => ?_⟩
  have ef : (En sc r).frame = some r.L := hfrL
  have efrs : frs [En sc r] = [r.L] := by
    show List.filterMap _ _ = _
    rw [List.filterMap_cons, ef]; rfl
  have hLs : ∀ a ∈ frs [En sc r], a ∈ mu ++ bc := fun a ha => by
    rw [efrs] at ha
    rw [List.mem_singleton.mp ha]; exact List.mem_append_left _ F.lmut
  have FF : s.heap.FunFrames noHeap [En sc r] := by
    obtain ⟨m, hm⟩ := F.ns
    exact Heap.FunFrames.cons (L := r.L) (by show sc.kind ≠ _; rw [hff]; decide) hfrL hm rfl trivial
  rw [exec_Assign_Name_used _ _ _ _ (hsw r)]
  refine wpAny_bind (wpAny_standAt (wpAny_bind ?_))
  show wpAny _ A (do let _ ← comprehension (.ListComp elt [⟨.Name x px, iter, [], 0⟩] scope pos) scope (En sc r) _ (PySem.newList []) false (eval iter (En sc r)) (some (PySem.assign (.Name y py) (En sc r)))) _ _ s
  refine wpAny_bind (wpAny_mono (Q := fun _ s' => Q .next s') (comp_coreL (use := some (PySem.assign (.Name y py) (En sc r))) W F.go hi cl hx hrf hh hfr FF hLs hf hnofree hsz hnames (hs r) fun acc blk s₅ ys k hsame kp ha hb hab hns hacc hall => ?_) (fun _ s' hq => wpAny_pure (wpAny_pure hq)) fun _ _ e => e)
  show wpAny _ A (PySem.assign (.Name y py) (En sc r) (.ref acc)) _ _ _
  have hbm : blk ∉ mu := fun q => by have := F.live blk q; rw [hb] at this; cases this
  have ham : acc ∉ mu ++ bc := fun q => by have := W.live acc q; rw [ha] at this; cases this
  have F₄ : FOk C sc r (blk :: bc) mu s.heap Γ .none := F.bcMore (b := blk) hb fun _ _ e => e
  have F₅ : FOk C sc r (blk :: bc) mu s₅.heap Γ .none := F₄.slotsC kp (fun a ha => by
    rcases List.mem_append.mp (hLs a ha) with q | q
    · exact List.mem_append_left _ q
    · exact List.mem_append_right _ (List.mem_cons_of_mem _ q)) hcs
  have i₅ : DIn C (mu ++ blk :: bc) s₅.heap (.ref acc) (.list ds') := by
    refine .list (n := k) (fun q => ?_) hacc (hall.less fun b hbb => ?_)
    · rcases List.mem_append.mp q with z | z
      · exact ham (List.mem_append_left _ z)
      · rcases List.mem_cons.mp z with z | z
        · exact hab z
        · exact ham (List.mem_append_right _ z)
    · rcases List.mem_append.mp hbb with z | z
      · exact List.mem_cons_of_mem _ (List.mem_cons_of_mem _ (List.mem_append_left _ z))
      · rcases List.mem_cons.mp z with z | z
        · rw [z]; exact List.mem_cons_of_mem _ List.mem_cons_self
        · exact List.mem_cons_of_mem _ (List.mem_cons_of_mem _ (List.mem_append_right _ z))
  have st₅ : Step mu s s₅ := by
    obtain ⟨tk, e⟩ := hsame
    refine ⟨s₅.heap, tk, e, fun a o ham' q => kp.keep a o (fun z => ?_) q, fun a q => kp.live a q⟩
    rw [efrs] at z
    exact ham' ((List.mem_singleton.mp z) ▸ F.lmut)
  refine wpAny_assign_Name (F₅.store hff hy (by simp [Own.name?]) i₅ fun s₆ st F₆ => ?_)
  obtain ⟨m, hm⟩ := hns
  refine ⟨m, hm.at' fun o e => st.heap _ o hbm e, fun h' hs' => ?_⟩
  have hbc : ∀ z c, r.cs.lookup z = some c → c ≠ blk := fun z c e q => by have := F.cliv z c e; rw [q, hb] at this; cases this
  have F₇ : FOk C sc r (blk :: bc) mu h' ((y, .list ds') :: Γ) .none := F₆.iter hbc fun b o hbb e => (hs'.2 b hbb).trans e
  refine P { s₆ with heap := h' } mu ?_ (fun _ q => .inl q) F₇.bcLess
  obtain ⟨h6, t6, rfl, k6, l6⟩ := st₅.trans st fun _ q => .inl q
  refine ⟨h', t6, rfl, fun b o hbb e => (hs'.2 b (fun q => by rw [q, hb] at e; cases e)).trans (k6 b o hbb e), fun b e => ?_⟩
  rw [hs'.2 b (fun q => by rw [q, hb] at e; cases e)]
  exact l6 b e

/-- a try whose body is not left by an exception -/
theorem ES.tryOk {Γ' : Gm} {O O' : Own} {body : List Stmt} {h₀ : ExceptHandler} {hs : List ExceptHandler} {pos : Pos} (h : EX C n sc Γ O body (.next Γ' O')) : ES C n sc Γ O (.Try body (h₀ :: hs) [] [] pos) (.next Γ' O') := by
  refine ⟨fun A s r bc mu Q E W F P => ?_⟩
  exact wpAny_Try_except (h.run A s r bc mu _ _ W F fun s' mu' st hm F' => wpAny_execs_nil (P s' mu' st hm F'))
end
end Mine

-- Kit26
namespace Mine

section
variable {C : Cfg} {n : Nat} {sc : Scope} {Γ : Gm}

theorem kind256 {l : List Nat} (hc : ∀ x ∈ l, x < 256) : Builtin.Str.strKind (T l) = 1 := by
  unfold Builtin.Str.strKind
  rw [if_pos]
  have : ∀ x ∈ l.toArray, x < 256 := fun x hx => hc x (by simpa using hx)
  rw [Array.all_eq_true']
  exact fun x hx => decide_eq_true (this x hx)

/-- a text that is not cut -/
theorem BI.split1No {l : List Nat} {c : Nat} (h : c ∉ l) (hc : ∀ x ∈ l, x < 256) (hcc : c < 256) : BI C n "str.split" [.str l, .str [c], .int 1] (.list [.str l]) := by
  intro A s bad vs Q E W ii K
  obtain ⟨_, _, _, rfl, ii0, j, z⟩ := ii.three
  obtain ⟨t, rfl⟩ := ii0.strInv
  obtain ⟨u, rfl⟩ := j.strInv
  obtain ⟨w, rfl⟩ := z.intInv
  have K' := K (.ref s.heap.objs.size) { s with heap := s.heap.push { cls := .type "list", data := .seq [Value.str (T l) t].toArray } } (Kp.push _) (.list (n := 0) (vs := [.str (T l) t]) W.fresh (Heap.get?_push_size _ rfl) (.cons (.str l t) .nil))
  by_cases h0 : l = []
  · subst h0
    refine call_meets F.slot_str_split (typeIs_str _ _ _) F.entry_str_split (F.args_str_split_3 _ _ _) (meets_str_split_max_cannot_occur (T []) ⟨#[c]⟩ 1 t u w (by decide) ?_) K'
    simp [Str.length]
  · refine call_meets F.slot_str_split (typeIs_str _ _ _) F.entry_str_split (F.args_str_split_3 _ _ _) (meets_str_split_max_not_found (T l) ⟨#[c]⟩ 1 t u w (by decide) ?_ rfl ?_) K'
    · have h1 := kind256 hc
      have h2 : Builtin.Str.strKind (⟨#[c]⟩ : Str) = 1 := kind256 (l := [c]) (fun x hx => by rw [List.mem_singleton.mp hx]; exact hcc)
      rw [h1, h2, T_length]
      have : 1 ≤ l.length := Nat.pos_of_ne_zero (fun q => h0 (List.eq_nil_of_length_eq_zero q))
      simp [Str.length]; omega
    · have : limitOf (T l) 1 = 1 := by unfold limitOf; simp
      rw [this, occ_no h 1 (Nat.le_refl _)]; rfl

theorem clip_nat (n k : Nat) : clipAt n (k : Int) = min k n := by
  unfold clipAt
  rw [if_neg (Int.not_lt.mpr (Int.natCast_nonneg k))]
  omega
theorem clip_last (n : Nat) : clipAt n (-1) = n - 1 := by
  unfold clipAt
  rw [if_pos (by decide)]
  omega
theorem sl_nat {α : Type} (l : List α) (i k : Nat) : sl (some (i : Int)) (some ((i : Int) + (k : Int))) l = (l.drop i).take k := by
  show (l.drop (clipAt l.length (i : Int))).take (clipAt l.length ((i : Int) + (k : Int)) - clipAt l.length (i : Int)) = _
  rw [← Int.natCast_add, clip_nat, clip_nat]
  rcases Nat.le_total i l.length with h | h
  · rw [Nat.min_eq_left h]
    rcases Nat.le_total (i + k) l.length with h' | h'
    · rw [Nat.min_eq_left h', Nat.add_sub_cancel_left]
    · rw [Nat.min_eq_right h', List.take_of_length_le (Nat.le_of_eq List.length_drop), List.take_of_length_le (by rw [List.length_drop]; exact Nat.sub_le_of_le_add (Nat.add_comm i k ▸ h'))]
  · rw [Nat.min_eq_right h, List.drop_eq_nil_of_le (Nat.le_refl _), List.drop_eq_nil_of_le h, List.take_nil, List.take_nil]
theorem sl_from {α : Type} (l : List α) (i : Nat) : sl (some (i : Int)) none l = l.drop i := by
  show (l.drop (clipAt l.length (i : Int))).take (l.length - clipAt l.length (i : Int)) = _
  rw [clip_nat, List.take_of_length_le (Nat.le_of_eq List.length_drop)]
  rcases Nat.le_total i l.length with h | h
  · rw [Nat.min_eq_left h]
  · rw [Nat.min_eq_right h, List.drop_eq_nil_of_le (Nat.le_refl _), List.drop_eq_nil_of_le h]
theorem sl_to {α : Type} (l : List α) (k : Nat) : sl none (some (k : Int)) l = l.take k := by
  show (l.drop 0).take (clipAt l.length (k : Int) - 0) = _
  rw [List.drop_zero, Nat.sub_zero, clip_nat]
  rcases Nat.le_total k l.length with h | h
  · rw [Nat.min_eq_left h]
  · rw [Nat.min_eq_right h, List.take_of_length_le h, List.take_of_length_le (Nat.le_refl _)]
/-- l[:-1] -/
theorem sl_butLast {α : Type} (l : List α) : sl none (some (-1)) l = l.dropLast := by
  show (l.drop 0).take (clipAt l.length (-1) - 0) = _
  rw [List.drop_zero, Nat.sub_zero, clip_last, List.dropLast_eq_take]
/-- l[1:-1] -/
theorem sl_inner {α : Type} (a b : α) (l : List α) : sl (some 1) (some (-1)) (a :: l ++ [b]) = l := by
  have hl : (a :: l ++ [b]).length = l.length + 1 + 1 := by rw [List.length_append]; rfl
  show ((a :: l ++ [b]).drop (clipAt _ ((1 : Nat) : Int))).take (clipAt _ (-1) - clipAt _ ((1 : Nat) : Int)) = _
  rw [clip_nat, clip_last, hl, Nat.min_eq_left (Nat.succ_le_succ (Nat.zero_le _))]
  exact List.take_left

/-- a text's sign by its place -/
theorem seqIdx {i : Int} {n j : Nat} (h : (if i < 0 then i + n else i) = (j : Int)) (hj : j < n) : seqIndex? i n = some j := by
  unfold seqIndex?
  simp only [h]
  rw [if_pos (by simp [hj])]
  simp
theorem atNat {l : List Nat} {i c : Nat} (h : l[i]? = some c) : (seqIndex? (i : Int) l.length).bind (l[·]?) = some c := by
  have hl : i < l.length := (List.getElem?_eq_some_iff.mp h).1
  rw [seqIdx (j := i) (if_neg (Int.not_lt.mpr (Int.natCast_nonneg i))) hl]; exact h
theorem at0 {l : List Nat} {c : Nat} (h : l.head? = some c) : (seqIndex? 0 l.length).bind (l[·]?) = some c :=
  atNat (i := 0) (by rw [← List.head?_eq_getElem?]; exact h)
theorem atLast {l : List Nat} {c : Nat} (h : l.getLast? = some c) : (seqIndex? (-1) l.length).bind (l[·]?) = some c := by
  have h0 : l ≠ [] := fun q => by rw [q] at h; cases h
  have hl : 0 < l.length := List.length_pos_iff.mpr h0
  rw [seqIdx (j := l.length - 1) (by rw [if_pos (by decide), Int.natCast_sub hl]; exact Int.add_comm _ _) (Nat.sub_lt hl (by decide))]
  show l[l.length - 1]? = _
  rw [← List.getLast?_eq_getElem?]; exact h
theorem atNone {i : Int} : (seqIndex? i ([] : List Nat).length).bind (([] : List Nat)[·]?) = none := by
  cases seqIndex? i ([] : List Nat).length <;> rfl
end
end Mine

-- Prog
namespace Mine
noncomputable def bodyAt (k : Nat) : List Stmt := match PySem.Challenge.pw_mj0158_01.main.body[k]? with
  | some (.FunctionDef _ _ b _ _ _ _ _ _ _) => b
  | _ => []
noncomputable def scopeAt (k : Nat) : Scope := match PySem.Challenge.pw_mj0158_01.main.body[k]? with
  | some (.FunctionDef _ _ _ _ _ _ sc _ _ _) => sc
  | _ => default
noncomputable def paramsAt (k : Nat) : List Str := match PySem.Challenge.pw_mj0158_01.main.body[k]? with
  | some (.FunctionDef _ a _ _ _ _ _ _ _ _) => a.args.map (·.arg)
  | _ => []

/-- the tokens, in the order of their numbers -/
noncomputable def rowL : List (List Nat) := [[40], [41], [91], [93], [58], [44], [59], [43], [45], [42], [47], [124], [38], [60], [62], [61], [46], [37], [123], [125], [61, 61], [33, 61], [60, 61], [62, 61], [126], [94], [60, 60], [62, 62], [42, 42], [43, 61], [45, 61], [42, 61], [47, 61], [37, 61], [38, 61], [124, 61], [94, 61], [60, 60, 61], [62, 62, 61], [42, 42, 61], [47, 47], [47, 47, 61], [64], [64, 61], [45, 62], [46, 46, 46], [58, 61], [33]]
noncomputable def isTok (w : List Nat) : Bool := rowL.contains w
noncomputable def num (w : List Nat) : Int := if isTok w then 7 + (rowL.idxOf w : Int) else -1
noncomputable def tgF (w : List Nat) : Option Int := if isTok w then some (7 + (rowL.idxOf w : Int)) else none

/-- what the text's top has laid -/
structure Prg (C : Cfg) : Prop where
  f_keqv : FnAt C 21 (paramsAt 1) (scopeAt 1) (bodyAt 1)
  g_keqv : C.gm (Str.ofString "parse_keqv_list") = some (.ref 21)
  f_http : FnAt C 26 (paramsAt 2) (scopeAt 2) (bodyAt 2)
  g_http : C.gm (Str.ofString "parse_http_list") = some (.ref 26)
  f_text : FnAt C 36 (paramsAt 53) (scopeAt 53) (bodyAt 53)
  g_text : C.gm (Str.ofString "_law_text") = some (.ref 36)
  f_words : FnAt C 43 (paramsAt 54) (scopeAt 54) (bodyAt 54)
  g_words : C.gm (Str.ofString "_law_words") = some (.ref 43)
  f_longest : FnAt C 50 (paramsAt 55) (scopeAt 55) (bodyAt 55)
  g_longest : C.gm (Str.ofString "_law_longest") = some (.ref 50)
  f_shape : FnAt C 57 (paramsAt 56) (scopeAt 56) (bodyAt 56)
  g_shape : C.gm (Str.ofString "_law_shape") = some (.ref 57)
  f_by_table : FnAt C 62 (paramsAt 57) (scopeAt 57) (bodyAt 57)
  g_by_table : C.gm (Str.ofString "_law_by_table") = some (.ref 62)
  f_by_shape : FnAt C 67 (paramsAt 58) (scopeAt 58) (bodyAt 58)
  g_by_shape : C.gm (Str.ofString "_law_by_shape") = some (.ref 67)
  f_rows : FnAt C 74 (paramsAt 59) (scopeAt 59) (bodyAt 59)
  g_rows : C.gm (Str.ofString "_law_rows") = some (.ref 74)
  f_bare : FnAt C 79 (paramsAt 60) (scopeAt 60) (bodyAt 60)
  g_bare : C.gm (Str.ofString "_law_bare") = some (.ref 79)
  f_glued : FnAt C 86 (paramsAt 61) (scopeAt 61) (bodyAt 61)
  g_glued : C.gm (Str.ofString "_law_glued") = some (.ref 86)
  f_read : FnAt C 93 (paramsAt 62) (scopeAt 62) (bodyAt 62)
  g_read : C.gm (Str.ofString "_law_read") = some (.ref 93)
  f_told : FnAt C 98 (paramsAt 63) (scopeAt 63) (bodyAt 63)
  g_told : C.gm (Str.ofString "_law_told") = some (.ref 98)
  f_sound : FnAt C 103 (paramsAt 64) (scopeAt 64) (bodyAt 64)
  g_sound : C.gm (Str.ofString "_law_sound") = some (.ref 103)
  f_written : FnAt C 108 (paramsAt 65) (scopeAt 65) (bodyAt 65)
  g_written : C.gm (Str.ofString "_law_written") = some (.ref 108)
  f_last : FnAt C 113 (paramsAt 66) (scopeAt 66) (bodyAt 66)
  g_last : C.gm (Str.ofString "_law_last") = some (.ref 113)
  f_law : FnAt C 118 (paramsAt 67) (scopeAt 67) (bodyAt 67)
  g_law : C.gm (Str.ofString "law") = some (.ref 118)
  g_tab : C.gm (Str.ofString "EXACT_TOKEN_TYPES") = some (.ref 27)
  tab : TabAt C 27 tgF
  b_len : C.gm (Str.ofString "len") = none
  b_range : C.gm (Str.ofString "range") = none
  b_list : C.gm (Str.ofString "list") = none
  b_isinstance : C.gm (Str.ofString "isinstance") = none
  b_ValueError : C.gm (Str.ofString "ValueError") = none
  b_IndexError : C.gm (Str.ofString "IndexError") = none

theorem FnAt.fd {C : Cfg} {a : Addr} {ps : List Str} {sc : Scope} {body : List Stmt} (f : FnAt C a ps sc body) : ∃ o fd, C.b0.get? a = some o ∧ o.data = .func fd :=
  let ⟨o, fd, x⟩ := f.ex; ⟨o, fd, x.lies, x.data⟩
end Mine

-- F1
namespace Mine

noncomputable def lng (u : List Nat) : List Nat := if isTok (u.take 3) then u.take 3 else if isTok (u.take 2) then u.take 2 else u.take 1

section
variable {C : Cfg} {n : Nat} {sc : Scope} {Γ : Gm}

theorem EV.cutN {e a b : Expr} {p pos : Pos} {t : List Nat} {i k : Nat} (he : EV C n sc Γ e (.str t)) (ha : EV C n sc Γ a (.int i)) (hb : EV C n sc Γ b (.int ((i : Int) + (k : Int)))) (hsz : t.length ≤ 1000) :
    EV C n sc Γ (.Subscript e (.Slice (some a) (some b) none p) pos) (.str ((t.drop i).take k)) := by
  have := EV.strCut (p := p) (pos := pos) he (.some ha) (.some hb) (by omega)
  rw [sl_nat] at this; exact this

theorem isTok_tg (w : List Nat) : (tgF w).isSome = isTok w := by
  unfold tgF; split <;> simp_all

theorem OP2.inTok (P : Prg C) {l : List Nat} {b : Bool} (h : isTok l = b) : OP2 C n (compareOp .In) (.str l) (.val (.ref 27)) (.bool b) := by
  have := OP2.inTab (n := n) P.tab (l := l)
  rw [isTok_tg, h] at this; exact this

theorem drop_head {t : List Nat} {i : Nat} (hi : i < t.length) : ∃ c, t[i]? = some c ∧ (t.drop i).take 1 = [c] := by
  refine ⟨t[i], by simp [hi], ?_⟩
  rw [List.drop_eq_getElem_cons hi]; rfl

noncomputable def starred : Expr → Bool
  | .Starred .. => true
  | _ => false
theorem star_cons {e : Expr} {es : List Expr} (h : starred e = false) (env : Env) : starEach (e :: es) env = (false, eval e env) :: starEach es env := by
  cases e <;> first | rfl | (cases h)
theorem EVs.two {e f : Expr} {d d' : D} (h : EV C n sc Γ e d) (h' : EV C n sc Γ f d') (h1 : starred e = false := by rfl) (h2 : starred f = false := by rfl) : EVs C n sc Γ [e, f] [d, d'] :=
  .cons h (.cons h' .nil (star_cons h2)) (star_cons h1)
theorem EVs.one {e : Expr} {d : D} (h : EV C n sc Γ e d) (h1 : starred e = false := by rfl) : EVs C n sc Γ [e] [d] := .cons h .nil (star_cons h1)

theorem fn_longest (P : Prg C) {t : List Nat} {i : Nat} (hi : i < t.length) (hl : t.length ≤ 1000) : FN C (n + 1) 50 [.str t, .int i] (.str (lng (t.drop i))) := by
  refine FN.of P.f_longest rfl ?_
  by_cases h3 : isTok ((t.drop i).take 3) = true
  · have e : lng (t.drop i) = (t.drop i).take 3 := by unfold lng; rw [if_pos h3]
    rw [e]
    exact EX.ret (ES.for (EI.of (EV.tuple (EVs.two (EV.cInt (i := 3)) (EV.cInt (i := 2))) (by decide)) ITER.tuple) rfl rfl
      (FL.ret (EX.ret (ES.iff (EBO.of (EB.cmp (EV.cutN (k := 3) (EV.name rfl rfl) (EV.name rfl rfl) (EV.bin (EV.name rfl rfl) (EV.name rfl rfl) OP2.addInt) hl) (EV.glob P.g_tab rfl rfl) (OP2.inTok P h3)))
        (fun _ => EX.ret (ES.ret (EVO.of (EV.cutN (k := 3) (EV.name rfl rfl) (EV.name rfl rfl) (EV.bin (EV.name rfl rfl) (EV.name rfl rfl) OP2.addInt) hl)))) (fun q => by cases q))) (by simp [Own.name?])))
  · have h3' : isTok ((t.drop i).take 3) = false := by simpa using h3
    by_cases h2 : isTok ((t.drop i).take 2) = true
    · have e : lng (t.drop i) = (t.drop i).take 2 := by unfold lng; rw [if_neg h3, if_pos h2]
      rw [e]
      exact EX.ret (ES.for (EI.of (EV.tuple (EVs.two (EV.cInt (i := 3)) (EV.cInt (i := 2))) (by decide)) ITER.tuple) rfl rfl
        (FL.next (EX.cons (ES.iff (EBO.of (EB.cmp (EV.cutN (k := 3) (EV.name rfl rfl) (EV.name rfl rfl) (EV.bin (EV.name rfl rfl) (EV.name rfl rfl) OP2.addInt) hl) (EV.glob P.g_tab rfl rfl) (OP2.inTok P h3')))
          (fun q => by cases q) (fun _ => EX.nil)) EX.nil) (by simp [Own.name?])
        (FL.ret (EX.ret (ES.iff (EBO.of (EB.cmp (EV.cutN (k := 2) (EV.name rfl rfl) (EV.name rfl rfl) (EV.bin (EV.name rfl rfl) (EV.name rfl rfl) OP2.addInt) hl) (EV.glob P.g_tab rfl rfl) (OP2.inTok P h2)))
          (fun _ => EX.ret (ES.ret (EVO.of (EV.cutN (k := 2) (EV.name rfl rfl) (EV.name rfl rfl) (EV.bin (EV.name rfl rfl) (EV.name rfl rfl) OP2.addInt) hl)))) (fun q => by cases q))) (by simp [Own.name?]))))
    · have h2' : isTok ((t.drop i).take 2) = false := by simpa using h2
      obtain ⟨c, hc, ec⟩ := drop_head hi
      have e : lng (t.drop i) = [c] := by unfold lng; rw [if_neg h3, if_neg h2, ec]
      rw [e]
      exact EX.cons (ES.for (EI.of (EV.tuple (EVs.two (EV.cInt (i := 3)) (EV.cInt (i := 2))) (by decide)) ITER.tuple) rfl rfl
        (FL.next (EX.cons (ES.iff (EBO.of (EB.cmp (EV.cutN (k := 3) (EV.name rfl rfl) (EV.name rfl rfl) (EV.bin (EV.name rfl rfl) (EV.name rfl rfl) OP2.addInt) hl) (EV.glob P.g_tab rfl rfl) (OP2.inTok P h3')))
          (fun q => by cases q) (fun _ => EX.nil)) EX.nil) (by simp [Own.name?])
        (FL.next (EX.cons (ES.iff (EBO.of (EB.cmp (EV.cutN (k := 2) (EV.name rfl rfl) (EV.name rfl rfl) (EV.bin (EV.name rfl rfl) (EV.name rfl rfl) OP2.addInt) hl) (EV.glob P.g_tab rfl rfl) (OP2.inTok P h2')))
          (fun q => by cases q) (fun _ => EX.nil)) EX.nil) (by simp [Own.name?]) FL.done)))
        (EX.ret (ES.ret (EVO.of (EV.strAt (EV.name rfl rfl) (EV.name rfl rfl) (by omega) (atNat hc)))))
end
end Mine

-- F2
namespace Mine

noncomputable def dbl : List Nat := [42, 47, 60, 62]
noncomputable def eqs : List Nat := [33, 37, 38, 42, 43, 45, 47, 58, 60, 61, 62, 64, 94, 124]
/-- the word by its shape; c the first sign -/
noncomputable def shp (c : Nat) (u : List Nat) : List Nat :=
  if u.take 3 == [46, 46, 46] then [46, 46, 46] else if u.take 2 == [45, 62] then [45, 62] else
  let w := if dbl.contains c && (u.drop 1).take 1 == [c] then [c, c] else [c]
  if eqs.contains c && (u.drop w.length).take 1 == [61] then w ++ [61] else w

section
variable {C : Cfg} {n : Nat} {sc : Scope} {Γ : Gm}

theorem EV.cutE {e a b : Expr} {p pos : Pos} {t : List Nat} {i k : Nat} {x y : Int} (he : EV C n sc Γ e (.str t)) (ha : EV C n sc Γ a (.int x)) (hb : EV C n sc Γ b (.int y)) (hx : x = (i : Int)) (hy : y = (i : Int) + (k : Int)) (hsz : t.length ≤ 1000) :
    EV C n sc Γ (.Subscript e (.Slice (some a) (some b) none p) pos) (.str ((t.drop i).take k)) := by
  subst hx hy
  exact EV.cutN he ha hb hsz

theorem OP2.eqB {a b : List Nat} {c : Bool} (h : (a == b) = c) : OP2 C n (compareOp .Eq) (.str a) (.str b) (.bool c) := h ▸ OP2.eqStr
theorem OP2.in1B {l : List Nat} {c : Nat} {b : Bool} (h : l.contains c = b) : OP2 C n (compareOp .In) (.str [c]) (.str l) (.bool b) := h ▸ OP2.inStr1

/-- two tests in a row -/
theorem EB.and2 {e f : Expr} {pos : Pos} {a b : Bool} (h : EB C n sc Γ e a) (h' : EB C n sc Γ f b) : EB C n sc Γ (.BoolOp .And [e, f] pos) (a && b) := by
  cases a with
  | false => exact EB.and (.ff h)
  | true => cases b with
    | false => exact EB.and (.tt h (.ff h'))
    | true => exact EB.and (.tt h (.tt h' .nil))

theorem EB.and2' {e f : Expr} {pos : Pos} {a b c : Bool} (hc : (a && b) = c) (h : EB C n sc Γ e a) (h' : EB C n sc Γ f b) : EB C n sc Γ (.BoolOp .And [e, f] pos) c := hc ▸ EB.and2 h h'
theorem BI.lenStr' {l : List Nat} (hl : l.length ≤ 1000) : BI C n "len" [.str l] (.int l.length) := BI.lenStr (by omega)

theorem fn_shape (P : Prg C) {t : List Nat} {i c : Nat} (hc : t[i]? = some c) (hl : t.length ≤ 1000) : FN C (n + 1) 57 [.str t, .int i] (.str (shp c (t.drop i))) := by
  refine FN.of P.f_shape rfl ?_
  have hb : bootBuiltins (Str.ofString "len") = some (.builtin "len") := by decide +kernel
  have hi : i < t.length := (List.getElem?_eq_some_iff.mp hc).1
  refine EX.cons (ES.assign (EVO.of (EV.strAt (EV.name rfl rfl) (EV.name rfl rfl) (by omega) (atNat hc))) rfl (.inl rfl) (by simp [Own.name?])) ?_
  cases h1 : ((t.drop i).take 3 == [46, 46, 46]) with
  | true =>
    have e : shp c (t.drop i) = [46, 46, 46] := by unfold shp; rw [h1, if_pos rfl]
    rw [e]
    exact EX.ret (ES.iff (EBO.of (EB.cmp (EV.cutN (k := 3) (EV.name rfl rfl) (EV.name rfl rfl) (EV.bin (EV.name rfl rfl) EV.cInt OP2.addInt) hl) (EV.cStr (l := [46, 46, 46]) rfl) (OP2.eqB h1))) (fun _ => EX.ret (ES.ret (EVO.of (EV.cStr rfl)))) (fun q => by cases q))
  | false =>
  refine EX.cons (ES.iff (EBO.of (EB.cmp (EV.cutN (k := 3) (EV.name rfl rfl) (EV.name rfl rfl) (EV.bin (EV.name rfl rfl) EV.cInt OP2.addInt) hl) (EV.cStr (l := [46, 46, 46]) rfl) (OP2.eqB h1))) (fun q => by cases q) (fun _ => EX.nil)) ?_
  cases h2 : ((t.drop i).take 2 == [45, 62]) with
  | true =>
    have e : shp c (t.drop i) = [45, 62] := by unfold shp; rw [h1, h2, if_neg (by decide), if_pos rfl]
    rw [e]
    exact EX.ret (ES.iff (EBO.of (EB.cmp (EV.cutN (k := 2) (EV.name rfl rfl) (EV.name rfl rfl) (EV.bin (EV.name rfl rfl) EV.cInt OP2.addInt) hl) (EV.cStr (l := [45, 62]) rfl) (OP2.eqB h2))) (fun _ => EX.ret (ES.ret (EVO.of (EV.cStr rfl)))) (fun q => by cases q))
  | false =>
  refine EX.cons (ES.iff (EBO.of (EB.cmp (EV.cutN (k := 2) (EV.name rfl rfl) (EV.name rfl rfl) (EV.bin (EV.name rfl rfl) EV.cInt OP2.addInt) hl) (EV.cStr (l := [45, 62]) rfl) (OP2.eqB h2))) (fun q => by cases q) (fun _ => EX.nil)) ?_
  have e : ∀ w, (if dbl.contains c && ((t.drop i).drop 1).take 1 == [c] then [c, c] else [c]) = w → shp c (t.drop i) = if eqs.contains c && ((t.drop i).drop w.length).take 1 == [61] then w ++ [61] else w := by
    intro w hw
    unfold shp
    rw [h1, h2, if_neg (by decide), if_neg (by decide)]
    simp only [hw]
  have third : ∀ w : List Nat, w.length ≤ 2 → (if dbl.contains c && ((t.drop i).drop 1).take 1 == [c] then [c, c] else [c]) = w → ∀ Γ : Gm, Γ.lookup (Str.ofString "word") = some (.str w) → Γ.lookup (Str.ofString "text") = some (.str t) → Γ.lookup (Str.ofString "i") = some (.int i) →
      EX C n (scopeAt 56) Γ .none ((bodyAt 56).drop 4) (.ret (.str (shp c (t.drop i)))) := by
    intro w hwl hw Γ g1 g2 g3
    rw [e w hw]
    cases h5 : (eqs.contains c && ((t.drop i).drop w.length).take 1 == [61]) with
    | true =>
      rw [if_pos rfl]
      exact EX.cons (ES.iff (EBO.of (EB.and2' h5 (EB.cmp (EV.strAt (EV.name g2 rfl) (EV.name g3 rfl) (by omega) (atNat hc)) (EV.cStr (l := eqs) rfl) (OP2.in1B rfl))
        (EB.cmp (EV.cutE (i := i + w.length) (k := 1) (EV.name g2 rfl) (EV.bin (EV.name g3 rfl) (EV.callB (EV.builtin P.b_len hb rfl rfl) (EVs.one (EV.name g1 rfl)) (BI.lenStr' (by omega))) OP2.addInt)
          (EV.bin (EV.bin (EV.name g3 rfl) (EV.callB (EV.builtin P.b_len hb rfl rfl) (EVs.one (EV.name g1 rfl)) (BI.lenStr' (by omega))) OP2.addInt) EV.cInt OP2.addInt) (by push_cast; rfl) (by push_cast; rfl) hl) (EV.cStr (l := [61]) rfl) (OP2.eqB (by rw [List.drop_drop]))))) (fun _ => EX.cons (ES.assign (EVO.of (EV.bin (EV.name g1 rfl) (EV.cStr (l := [61]) rfl) (OP2.addStr (by simp; omega)))) rfl (.inl rfl) (by simp [Own.name?])) EX.nil) (fun q => by cases q)) (EX.ret (ES.ret (EVO.of (EV.name rfl rfl))))
    | false =>
      rw [if_neg (by decide)]
      exact EX.cons (ES.iff (EBO.of (EB.and2' h5 (EB.cmp (EV.strAt (EV.name g2 rfl) (EV.name g3 rfl) (by omega) (atNat hc)) (EV.cStr (l := eqs) rfl) (OP2.in1B rfl))
        (EB.cmp (EV.cutE (i := i + w.length) (k := 1) (EV.name g2 rfl) (EV.bin (EV.name g3 rfl) (EV.callB (EV.builtin P.b_len hb rfl rfl) (EVs.one (EV.name g1 rfl)) (BI.lenStr' (by omega))) OP2.addInt)
          (EV.bin (EV.bin (EV.name g3 rfl) (EV.callB (EV.builtin P.b_len hb rfl rfl) (EVs.one (EV.name g1 rfl)) (BI.lenStr' (by omega))) OP2.addInt) EV.cInt OP2.addInt) (by push_cast; rfl) (by push_cast; rfl) hl) (EV.cStr (l := [61]) rfl) (OP2.eqB (by rw [List.drop_drop]))))) (fun q => by cases q) (fun _ => EX.nil)) (EX.ret (ES.ret (EVO.of (EV.name g1 rfl))))
  cases h4 : (dbl.contains c && ((t.drop i).drop 1).take 1 == [c]) with
  | true =>
    have := third [c, c] (by simp) (by rw [h4]; rfl)
    refine EX.cons (ES.iff (EBO.of (EB.and2' h4 (EB.cmp (EV.name rfl rfl) (EV.cStr (l := dbl) rfl) (OP2.in1B rfl)) (EB.cmp (EV.cutE (i := i + 1) (k := 1) (EV.name rfl rfl) (EV.bin (EV.name rfl rfl) EV.cInt OP2.addInt) (EV.bin (EV.name rfl rfl) EV.cInt OP2.addInt) (by push_cast; rfl) (by push_cast; omega) hl) (EV.name rfl rfl) (OP2.eqB (by rw [List.drop_drop])))))
      (fun _ => EX.cons (ES.assign (EVO.of (EV.bin (EV.name rfl rfl) (EV.name rfl rfl) (OP2.addStr (by simp)))) rfl (.inl rfl) (by simp [Own.name?])) EX.nil) (fun q => by cases q)) (this _ rfl rfl rfl)
  | false =>
    have := third [c] (by simp) (by rw [h4]; rfl)
    refine EX.cons (ES.iff (EBO.of (EB.and2' h4 (EB.cmp (EV.name rfl rfl) (EV.cStr (l := dbl) rfl) (OP2.in1B rfl)) (EB.cmp (EV.cutE (i := i + 1) (k := 1) (EV.name rfl rfl) (EV.bin (EV.name rfl rfl) EV.cInt OP2.addInt) (EV.bin (EV.name rfl rfl) EV.cInt OP2.addInt) (by push_cast; rfl) (by push_cast; omega) hl) (EV.name rfl rfl) (OP2.eqB (by rw [List.drop_drop])))))
      (fun q => by cases q) (fun _ => EX.nil)) (this _ rfl rfl rfl)
end
end Mine

-- Pu1
namespace Mine

theorem tokMem {w : List Nat} : isTok w = true ↔ w ∈ rowL := List.contains_iff_mem
noncomputable def shape3 : List Nat → Bool
  | [c, x, y] => (c == 46 && x == 46 && y == 46) || (y == 61 && (x == c && dbl.contains c))
  | [c, x] => (c == 45 && x == 62) || ((x == c && dbl.contains c) || (x == 61 && eqs.contains c))
  | _ => true
theorem tokShape {w : List Nat} (h : isTok w = true) : shape3 w = true :=
  (show ∀ u ∈ rowL, shape3 u = true by decide +kernel) w (tokMem.mp h)
theorem tokD3 {c : Nat} (h : dbl.contains c = true) : isTok [c, c, 61] = true :=
  (show ∀ c ∈ dbl, isTok [c, c, 61] = true by decide +kernel) c (List.contains_iff_mem.mp h)
theorem tokD2 {c : Nat} (h : dbl.contains c = true) : isTok [c, c] = true :=
  (show ∀ c ∈ dbl, isTok [c, c] = true by decide +kernel) c (List.contains_iff_mem.mp h)
theorem tokE2 {c : Nat} (h : eqs.contains c = true) : isTok [c, 61] = true :=
  (show ∀ c ∈ eqs, isTok [c, 61] = true by decide +kernel) c (List.contains_iff_mem.mp h)
theorem dblEqs {c : Nat} (h : dbl.contains c = true) : eqs.contains c = true :=
  (show ∀ c ∈ dbl, eqs.contains c = true by decide +kernel) c (List.contains_iff_mem.mp h)
theorem boolEq {a b : Bool} (h1 : a = true → b = true) (h2 : b = true → a = true) : a = b := Bool.eq_iff_iff.mpr ⟨h1, h2⟩

theorem tok3 (c x y : Nat) : isTok [c, x, y] = ((c == 46 && x == 46 && y == 46) || (y == 61 && (x == c && dbl.contains c))) :=
  boolEq tokShape fun h => by
    rcases Bool.or_eq_true_iff.mp h with h | h
    · obtain ⟨h, hy⟩ := Bool.and_eq_true_iff.mp h
      obtain ⟨hc, hx⟩ := Bool.and_eq_true_iff.mp h
      rw [beq_iff_eq.mp hc, beq_iff_eq.mp hx, beq_iff_eq.mp hy]; rfl
    · obtain ⟨hy, h⟩ := Bool.and_eq_true_iff.mp h
      obtain ⟨hx, hd⟩ := Bool.and_eq_true_iff.mp h
      rw [beq_iff_eq.mp hx, beq_iff_eq.mp hy]; exact tokD3 hd
theorem tok2 (c x : Nat) : isTok [c, x] = ((c == 45 && x == 62) || ((x == c && dbl.contains c) || (x == 61 && eqs.contains c))) :=
  boolEq tokShape fun h => by
    rcases Bool.or_eq_true_iff.mp h with h | h
    · obtain ⟨hc, hx⟩ := Bool.and_eq_true_iff.mp h
      rw [beq_iff_eq.mp hc, beq_iff_eq.mp hx]; rfl
    · rcases Bool.or_eq_true_iff.mp h with h | h
      · obtain ⟨hx, hd⟩ := Bool.and_eq_true_iff.mp h
        rw [beq_iff_eq.mp hx]; exact tokD2 hd
      · obtain ⟨hx, hd⟩ := Bool.and_eq_true_iff.mp h
        rw [beq_iff_eq.mp hx]; exact tokE2 hd

theorem lenBeq {l m : List Nat} (h : l.length ≠ m.length) : (l == m) = false := beq_eq_false_iff_ne.mpr fun e => h (congrArg _ e)
theorem one_beq (x c : Nat) : (([x] : List Nat) == [c]) = (x == c) := boolEq (fun h => beq_iff_eq.mpr (List.cons.inj (beq_iff_eq.mp h)).1) fun h => by rw [beq_iff_eq.mp h]; exact beq_self_eq_true _

/-- the last sign of a word by its shape -/
theorem shp_end {c : Nat} {w t : List Nat} (b : Bool) (h : (eqs.contains c && (t.take 1 == [61])) = b) : (if eqs.contains c && (t.take 1 == [61]) then w ++ [61] else w) = if b then w ++ [61] else w := by rw [h]

theorem shp_lng (c : Nat) (r : List Nat) : shp c (c :: r) = lng (c :: r) := by
  rcases r with _ | ⟨x, r⟩
  · show (if _ then _ else if _ then _ else (if eqs.contains c && _ then _ else _)) = _
    rw [show (dbl.contains c && ((([c] : List Nat).drop 1).take 1 == [c])) = false from Bool.and_false _, show (List.take 3 [c] == [46, 46, 46]) = false from lenBeq (l := [c]) (show 1 ≠ 3 by decide), show (List.take 2 [c] == [45, 62]) = false from lenBeq (l := [c]) (show 1 ≠ 2 by decide)]
    show (if eqs.contains c && false then _ else [c]) = _
    rw [Bool.and_false]
    unfold lng
    show _ = if isTok [c] then [c] else if isTok [c] then [c] else [c]
    rw [ite_self, ite_self]; rfl
  · cases hb : (c == 45 && x == 62) with
    | true =>
      obtain ⟨hc, hx⟩ := Bool.and_eq_true_iff.mp hb
      rw [beq_iff_eq.mp hc, beq_iff_eq.mp hx]
      cases r with
      | nil => rfl
      | cons y r =>
        unfold lng
        show _ = if isTok [45, 62, y] then _ else _
        rw [tok3, show (((45 : Nat) == 46 && (62 : Nat) == 46 && y == 46) || (y == 61 && ((62 : Nat) == 45 && dbl.contains 45))) = false from Bool.and_false (y == 61)]
        rfl
    | false =>
      have n2 : (([c, x] : List Nat) == [45, 62]) = false := by
        rw [← hb]
        exact boolEq (fun h => by rw [(List.cons.inj (beq_iff_eq.mp h)).1, (List.cons.inj (List.cons.inj (beq_iff_eq.mp h)).2).1]; rfl) fun h => by rw [hb] at h; cases h
      have t2 : isTok [c, x] = ((x == c && dbl.contains c) || (x == 61 && eqs.contains c)) := by rw [tok2, hb]; rfl
      cases hd : (x == c && dbl.contains c) with
      | true =>
        obtain ⟨hx, hdc⟩ := Bool.and_eq_true_iff.mp hd
        have hx := beq_iff_eq.mp hx
        subst hx
        rw [hd] at t2
        have he := dblEqs hdc
        have h46 : (x == 46) = false := by
          cases q : x == 46 with
          | false => rfl
          | true => rw [beq_iff_eq.mp q] at hdc; cases hdc
        cases r with
        | nil =>
          show (if _ then _ else if ([x, x] : List Nat) == [45, 62] then _ else (if eqs.contains x && ((([x, x] : List Nat).drop (if dbl.contains x && ([x] : List Nat) == [x] then [x, x] else [x]).length).take 1 == [61]) then (if dbl.contains x && ([x] : List Nat) == [x] then [x, x] else [x]) ++ [61] else (if dbl.contains x && ([x] : List Nat) == [x] then [x, x] else [x]))) = _
          rw [n2, one_beq, beq_self_eq_true, hdc, show (List.take 3 [x, x] == [46, 46, 46]) = false from lenBeq (l := [x, x]) (show 2 ≠ 3 by decide)]
          unfold lng
          show (if eqs.contains x && false then _ else [x, x]) = if isTok [x, x] then [x, x] else if isTok [x, x] then [x, x] else _
          rw [Bool.and_false, t2]; rfl
        | cons y r =>
          have t3 : isTok [x, x, y] = (y == 61) := by rw [tok3, h46, beq_self_eq_true, hdc]; exact Bool.and_true _
          have n3 : (([x, x, y] : List Nat) == [46, 46, 46]) = false := by
            cases q : (([x, x, y] : List Nat) == [46, 46, 46]) with
            | false => rfl
            | true => rw [(List.cons.inj (beq_iff_eq.mp q)).1] at h46; cases h46
          show (if ([x, x, y] : List Nat) == [46, 46, 46] then _ else if ([x, x] : List Nat) == [45, 62] then _ else (if eqs.contains x && (((x :: x :: y :: r).drop (if dbl.contains x && ([x] : List Nat) == [x] then [x, x] else [x]).length).take 1 == [61]) then (if dbl.contains x && ([x] : List Nat) == [x] then [x, x] else [x]) ++ [61] else (if dbl.contains x && ([x] : List Nat) == [x] then [x, x] else [x]))) = _
          rw [n3, n2, one_beq, beq_self_eq_true, hdc, he]
          unfold lng
          show (if true && (([y] : List Nat) == [61]) then [x, x, 61] else [x, x]) = if isTok [x, x, y] then [x, x, y] else if isTok [x, x] then [x, x] else _
          rw [one_beq, t3, t2, Bool.true_and]
          cases q : y == 61 with
          | true => rw [beq_iff_eq.mp q]; rfl
          | false => rfl
      | false =>
        rw [hd, Bool.false_or] at t2
        have hd' : (dbl.contains c && (([x] : List Nat) == [c])) = false := by rw [one_beq, Bool.and_comm]; exact hd
        have t3 : ∀ y, ((c == 46 && x == 46 && y == 46) = false) → isTok [c, x, y] = false := fun y h => by rw [tok3, h, hd, Bool.and_false]; rfl
        have fin : ∀ u : List Nat, (if eqs.contains c && ((([c, x] ++ u).drop ([c] : List Nat).length).take 1 == [61]) then [c] ++ [61] else [c]) = if isTok [c, x] then [c, x] else [c] := fun u => by
          show (if eqs.contains c && (([x] : List Nat) == [61]) then _ else _) = _
          rw [one_beq, t2, Bool.and_comm]
          cases q : x == 61 with
          | true => rw [beq_iff_eq.mp q]; rfl
          | false => rfl
        cases r with
        | nil =>
          show (if _ then _ else if ([c, x] : List Nat) == [45, 62] then _ else (if eqs.contains c && ((([c, x] : List Nat).drop (if dbl.contains c && ([x] : List Nat) == [c] then [c, c] else [c]).length).take 1 == [61]) then (if dbl.contains c && ([x] : List Nat) == [c] then [c, c] else [c]) ++ [61] else (if dbl.contains c && ([x] : List Nat) == [c] then [c, c] else [c]))) = _
          rw [n2, hd', show (List.take 3 [c, x] == [46, 46, 46]) = false from lenBeq (l := [c, x]) (show 2 ≠ 3 by decide)]
          unfold lng
          show _ = if isTok [c, x] then [c, x] else if isTok [c, x] then [c, x] else [c]
          refine (fin []).trans ?_
          cases isTok [c, x] <;> rfl
        | cons y r =>
          cases h3 : (c == 46 && x == 46 && y == 46) with
          | true =>
            obtain ⟨h, hy⟩ := Bool.and_eq_true_iff.mp h3
            obtain ⟨hc, hx⟩ := Bool.and_eq_true_iff.mp h
            rw [beq_iff_eq.mp hc, beq_iff_eq.mp hx, beq_iff_eq.mp hy]; rfl
          | false =>
            have n3 : (([c, x, y] : List Nat) == [46, 46, 46]) = false := by
              rw [← h3]
              exact boolEq (fun h => by rw [(List.cons.inj (beq_iff_eq.mp h)).1, (List.cons.inj (List.cons.inj (beq_iff_eq.mp h)).2).1, (List.cons.inj (List.cons.inj (List.cons.inj (beq_iff_eq.mp h)).2).2).1]; rfl) fun h => by rw [h3] at h; cases h
            show (if ([c, x, y] : List Nat) == [46, 46, 46] then _ else if ([c, x] : List Nat) == [45, 62] then _ else (if eqs.contains c && (((c :: x :: y :: r).drop (if dbl.contains c && ([x] : List Nat) == [c] then [c, c] else [c]).length).take 1 == [61]) then (if dbl.contains c && ([x] : List Nat) == [c] then [c, c] else [c]) ++ [61] else (if dbl.contains c && ([x] : List Nat) == [c] then [c, c] else [c]))) = _
            rw [n3, n2, hd']
            unfold lng
            show _ = if isTok [c, x, y] then _ else if isTok [c, x] then [c, x] else [c]
            rw [t3 y h3]
            exact fin (y :: r)
end Mine

-- Pu2
namespace Mine

noncomputable def wds : Nat → List Nat → List (List Nat)
  | 0, _ => []
  | _ + 1, [] => []
  | n + 1, c :: r => lng (c :: r) :: wds n ((c :: r).drop (lng (c :: r)).length)
noncomputable def wd (u : List Nat) : List (List Nat) := wds u.length u

theorem lngK (u : List Nat) : ∃ k, k ≤ 2 ∧ lng u = u.take (k + 1) := by
  unfold lng
  split
  · exact ⟨2, Nat.le_refl _, rfl⟩
  · split
    · exact ⟨1, by decide, rfl⟩
    · exact ⟨0, by decide, rfl⟩
theorem lng_pre (u : List Nat) : lng u = u.take (lng u).length ∧ (lng u).length ≤ u.length := by
  obtain ⟨k, _, e⟩ := lngK u
  have h : lng u <+: u := e ▸ List.take_prefix _ _
  exact ⟨List.prefix_iff_eq_take.mp h, h.length_le⟩
theorem lng_pos (c : Nat) (r : List Nat) : 1 ≤ (lng (c :: r)).length := by
  obtain ⟨k, _, e⟩ := lngK (c :: r)
  rw [e]
  exact Nat.succ_le_succ (Nat.zero_le _)
theorem lng_len3 (u : List Nat) : (lng u).length ≤ 3 := by
  obtain ⟨k, hk, e⟩ := lngK u
  rw [e]
  exact Nat.le_trans (List.length_take_le _ _) (Nat.succ_le_succ hk)

theorem wds_more : ∀ (n : Nat) (u : List Nat), u.length ≤ n → wds n u = wds u.length u
  | 0, u, h => by
    have : u = [] := List.eq_nil_of_length_eq_zero (by omega)
    subst this; rfl
  | n + 1, [], _ => rfl
  | n + 1, c :: r, h => by
    show lng (c :: r) :: wds n _ = lng (c :: r) :: wds r.length _
    have hp := lng_pos c r
    have hl : ((c :: r).drop (lng (c :: r)).length).length ≤ r.length := by
      rw [List.length_drop, List.length_cons]; omega
    rw [wds_more n _ (by simp only [List.length_cons] at h; omega), wds_more r.length _ hl]

theorem wd_nil : wd [] = [] := rfl
theorem wd_cons (c : Nat) (r : List Nat) : wd (c :: r) = lng (c :: r) :: wd ((c :: r).drop (lng (c :: r)).length) := by
  show lng (c :: r) :: wds r.length _ = _
  have hp := lng_pos c r
  have hl : ((c :: r).drop (lng (c :: r)).length).length ≤ r.length := by
    rw [List.length_drop, List.length_cons]; omega
  rw [wds_more r.length _ hl]; rfl

/-- step by step over a text's words -/
theorem wd_ind {P : List Nat → Prop} (h0 : P []) (h1 : ∀ c r, P ((c :: r).drop (lng (c :: r)).length) → P (c :: r)) (u : List Nat) : P u := by
  have : ∀ n (u : List Nat), u.length ≤ n → P u := by
    intro n
    induction n with
    | zero => intro u h; rw [List.eq_nil_of_length_eq_zero (by omega : u.length = 0)]; exact h0
    | succ n ih =>
      intro u h
      cases u with
      | nil => exact h0
      | cons c r =>
        refine h1 c r (ih _ ?_)
        have hp := lng_pos c r
        rw [List.length_drop]; simp only [List.length_cons] at *; omega
  exact this _ u (Nat.le_refl _)

theorem wd_flat (u : List Nat) : (wd u).flatten = u := by
  refine wd_ind (P := fun u => (wd u).flatten = u) rfl (fun c r ih => ?_) u
  rw [wd_cons, List.flatten_cons, ih]
  conv => lhs; arg 1; rw [(lng_pre (c :: r)).1]
  exact List.take_append_drop _ _
theorem wd_ne (u : List Nat) : ∀ w ∈ wd u, w ≠ [] := by
  refine wd_ind (P := fun u => ∀ w ∈ wd u, w ≠ []) (fun w hw => by cases hw) (fun c r ih => ?_) u
  rw [wd_cons]
  intro w hw
  rcases List.mem_cons.mp hw with q | q
  · intro z; have := lng_pos c r; rw [← q, z] at this; simp at this
  · exact ih w q
theorem wd_length (u : List Nat) : (wd u).length ≤ u.length := by
  refine wd_ind (P := fun u => (wd u).length ≤ u.length) (Nat.le_refl _) (fun c r ih => ?_) u
  rw [wd_cons]
  have hp := lng_pos c r
  rw [List.length_drop] at ih
  simp only [List.length_cons] at *; omega
theorem wd_small (u : List Nat) : ∀ w ∈ wd u, w.length ≤ 3 := by
  refine wd_ind (P := fun u => ∀ w ∈ wd u, w.length ≤ 3) (fun w hw => by cases hw) (fun c r ih => ?_) u
  rw [wd_cons]
  intro w hw
  rcases List.mem_cons.mp hw with q | q
  · rw [q]; exact lng_len3 _
  · exact ih w q

/-- a sign that stands in no longer token -/
noncomputable def lone (c : Nat) : Prop := ∀ w ∈ rowL, c ∈ w → w = [c]
theorem lone44 : lone 44 := by unfold lone; decide
theorem lone32 : lone 32 := by unfold lone; decide

theorem lone_tok {c : Nat} (h : lone c) {w : List Nat} (hw : c ∈ w) (hl : 2 ≤ w.length) : isTok w = false := by
  rw [← Bool.not_eq_true]
  intro z
  have : w ∈ rowL := by simpa [isTok] using z
  rw [h w this hw] at hl
  simp at hl

theorem lng_lone {c : Nat} (h : lone c) (b : List Nat) : lng (c :: b) = [c] := by
  rcases b with _ | ⟨x, _ | ⟨y, b⟩⟩
  · unfold lng; simp
  · unfold lng
    have : isTok [c, x] = false := lone_tok h (by simp) (by simp)
    simp [this]
  · unfold lng
    have h3 : isTok [c, x, y] = false := lone_tok h (by simp) (by simp)
    have h2 : isTok [c, x] = false := lone_tok h (by simp) (by simp)
    simp [h2, h3]

theorem lng_before {c : Nat} (h : lone c) (a : Nat) (r b : List Nat) : lng ((a :: r) ++ c :: b) = lng (a :: r) := by
  rcases r with _ | ⟨x, _ | ⟨y, r⟩⟩
  · rcases b with _ | ⟨z, b⟩
    · unfold lng
      have h2 : isTok [a, c] = false := lone_tok h (by simp) (by simp)
      simp [h2]
    · unfold lng
      have h2 : isTok [a, c] = false := lone_tok h (by simp) (by simp)
      have h3 : isTok [a, c, z] = false := lone_tok h (by simp) (by simp)
      simp [h2, h3]
  · unfold lng
    have h3 : isTok [a, x, c] = false := lone_tok h (by simp) (by simp)
    simp [h3]
    split <;> simp_all
  · unfold lng; rfl

theorem wd_lone {c : Nat} (h : lone c) (a b : List Nat) : wd (a ++ c :: b) = wd a ++ [c] :: wd b := by
  refine wd_ind (P := fun a => wd (a ++ c :: b) = wd a ++ [c] :: wd b) ?_ (fun x r ih => ?_) a
  · rw [List.nil_append, wd_cons, lng_lone h]; rfl
  · have e1 : wd (x :: r ++ c :: b) = lng (x :: r) :: wd ((x :: r).drop (lng (x :: r)).length ++ c :: b) := by
      rw [List.cons_append, wd_cons, ← List.cons_append, lng_before h, List.drop_append_of_le_length (lng_pre (x :: r)).2]
    rw [e1, ih, wd_cons x r, List.cons_append]
end Mine

-- F3
namespace Mine
section
variable {C : Cfg} {n : Nat} {sc : Scope} {Γ : Gm}

theorem Own.lstNe {x y : Str} {ds : List D} (h : (x == y) = false) : (Own.lst x ds).name? ≠ some y := fun e => by
  have : x = y := Option.some.inj e
  rw [this] at h; simp at h
theorem Own.dctNe {x y : Str} {ds : List (List Nat × List Nat)} (h : (x == y) = false) : (Own.dct x ds).name? ≠ some y := fun e => by
  have : x = y := Option.some.inj e
  rw [this] at h; simp at h
theorem Own.rowsNe {x y : Str} {ds : List (List D)} {l : List D} (h : (x == y) = false) : (Own.rows x ds l).name? ≠ some y := fun e => by
  have : x = y := Option.some.inj e
  rw [this] at h; simp at h
theorem Own.noneNe {y : Str} : (Own.none).name? ≠ some y := fun e => by cases e
theorem bbLen : bootBuiltins (Str.ofString "len") = some (.builtin "len") := by decide +kernel

theorem OP2.ltB {a b : Int} {c : Bool} (h : decide (a < b) = c) : OP2 C n (compareOp .Lt) (.int a) (.int b) (.bool c) := h ▸ OP2.ltInt

theorem fn_shape' (P : Prg C) {t : List Nat} {i : Nat} (hi : i < t.length) (hl : t.length ≤ 1000) : FN C (n + 1) 57 [.str t, .int i] (.str (lng (t.drop i))) := by
  have h := fn_shape (n := n) P (t := t) (i := i) (c := t[i]) (by simp [hi]) hl
  have e : t.drop i = t[i] :: t.drop (i + 1) := List.drop_eq_getElem_cons hi
  rw [e, shp_lng] at h
  rw [e]; exact h

/-- the loop over a text's words -/
theorem words_loop (P : Prg C) {t : List Nat} {a : Addr} (hl : t.length ≤ 1000) (hcut : ∀ i, i < t.length → FN C n a [.str t, .int i] (.str (lng (t.drop i)))) (hfd : ∃ o fd, C.b0.get? a = some o ∧ o.data = .func fd) :
    ∀ (k j : Nat) (acc : List (List Nat)) (Γ : Gm), t.length - j ≤ k → j ≤ t.length → acc.length ≤ j → Γ.lookup (Str.ofString "text") = some (.str t) → Γ.lookup (Str.ofString "cut") = some (.val (.ref a)) → Γ.lookup (Str.ofString "i") = some (.int j) →
      ∃ test body pos Γ', (bodyAt 54)[2]? = some (.While test body [] pos) ∧ WL C n (scopeAt 54) test body k Γ (.lst (Str.ofString "words") (acc.map .str)) Γ' (.lst (Str.ofString "words") ((acc ++ wd (t.drop j)).map .str)) := by
  intro k
  induction k with
  | zero =>
    intro j acc Γ h1 h2 h3 g1 g2 g3
    have e : t.drop j = [] := List.drop_eq_nil_of_le (by omega)
    refine ⟨_, _, _, Γ, rfl, ?_⟩
    rw [e, wd_nil, List.append_nil]
    exact WL.done (EBO.of (EB.cmp (EV.name g3 rfl) (EV.callB (EV.builtin P.b_len bbLen rfl rfl) (EVs.one (EV.name g1 rfl)) (BI.lenStr' hl)) (OP2.ltB (by simp; omega))))
  | succ k ih =>
    intro j acc Γ h1 h2 h3 g1 g2 g3
    by_cases hj : j < t.length
    · have ed : t.drop j = t[j] :: t.drop (j + 1) := List.drop_eq_getElem_cons hj
      have hp := lng_pos t[j] (t.drop (j + 1))
      have hq := lng_pre (t.drop j)
      have h3' := lng_len3 (t.drop j)
      rw [← ed] at hp
      rw [List.length_drop] at hq
      obtain ⟨test, body, pos, Γ', hb, hw⟩ := ih (j + (lng (t.drop j)).length) (acc ++ [lng (t.drop j)]) ((Str.ofString "i", .int (j + (lng (t.drop j)).length : Nat)) :: Γ) (by omega) (by omega) (by simp; omega) g1 g2 rfl
      have eb : (bodyAt 54)[2]? = some (.While test body [] pos) := hb
      refine ⟨_, _, _, Γ', rfl, ?_⟩
      cases hb
      have e2 : acc ++ wd (t.drop j) = (acc ++ [lng (t.drop j)]) ++ wd (t.drop (j + (lng (t.drop j)).length)) := by
        conv => lhs; rw [ed, wd_cons, ← ed, List.drop_drop]
        simp
      rw [e2]
      refine WL.turn (EBO.of (EB.cmp (EV.name g3 rfl) (EV.callB (EV.builtin P.b_len bbLen rfl rfl) (EVs.one (EV.name g1 rfl)) (BI.lenStr' hl)) (OP2.ltB (by simp; omega))))
        (EX.cons (ES.append (EVO.of (EV.callF (EV.name g2 rfl) (EVs.two (EV.name g1 rfl) (EV.name g3 rfl)) (hcut j hj) hfd)) rfl (by simp; omega)) (EX.cons (ES.assign (d := .int (j + (lng (t.drop j)).length : Nat)) (EVO.borrow (EV.bin (d₂ := .int (lng (t.drop j)).length) (EV.name g3 rfl) (EV.callB (EV.builtin P.b_len bbLen rfl rfl) (EVs.one (EV.listLast (d := .str (lng (t.drop j))) (EV.name rfl rfl) EV.neg1 (by simp))) (BI.lenStr' (by omega))) OP2.addInt) rfl) rfl (.inl rfl) (Own.lstNe (by decide +kernel))) EX.nil)) ?_
      have e3 : (acc.map D.str ++ [D.str (lng (t.drop j))]) = (acc ++ [lng (t.drop j)]).map D.str := by simp
      rw [e3]; exact hw
    · have e : t.drop j = [] := List.drop_eq_nil_of_le (by omega)
      refine ⟨_, _, _, Γ, rfl, ?_⟩
      rw [e, wd_nil, List.append_nil]
      exact WL.done (EBO.of (EB.cmp (EV.name g3 rfl) (EV.callB (EV.builtin P.b_len bbLen rfl rfl) (EVs.one (EV.name g1 rfl)) (BI.lenStr' hl)) (OP2.ltB (by simp; omega))))

theorem fn_words (P : Prg C) {t : List Nat} {a : Addr} (hl : t.length ≤ 1000) (hcut : ∀ i, i < t.length → FN C n a [.str t, .int i] (.str (lng (t.drop i)))) (hfd : ∃ o fd, C.b0.get? a = some o ∧ o.data = .func fd) :
    FN C (n + 1) 43 [.str t, .val (.ref a)] (.list ((wd t).map .str)) := by
  refine FN.of P.f_words rfl ?_
  refine EX.cons (ES.newList rfl rfl rfl) (EX.cons (ES.assign (EVO.of (EV.cInt (i := 0))) rfl (.inl rfl) (Own.lstNe (by decide +kernel))) ?_)
  obtain ⟨test, body, pos, Γ', hb, hw⟩ := words_loop P hl hcut hfd t.length 0 [] ((Str.ofString "i", .int 0) :: (paramsAt 54).zip [.str t, .val (.ref a)]) (by omega) (by omega) (by simp) rfl rfl rfl
  cases hb
  exact EX.cons (ES.while hw) (EX.freeze (EX.ret (ES.ret (EVO.of (EV.name rfl rfl)))))
end
end Mine

-- F4
namespace Mine
noncomputable def pd (w : List Nat) : D := .tuple [.int (num w), .str w]
section
variable {C : Cfg} {n : Nat} {scope sc : Scope} {Γ Γf : Gm}

theorem num_get (w : List Nat) : (tgF w).getD (-1) = num w := by
  unfold tgF num; split <;> simp_all

theorem CL.map {α : Type} {x : Str} {p : Pos} {elt : Expr} {f g : α → D} : ∀ {ls : List α}, (∀ w ∈ ls, EV C n sc ((x, f w) :: Γf) elt (g w)) → sc.kind = .function → sc.names.lookup x = some .local → CL C n scope sc (.Name x p) [] elt Γf (ls.map f) (ls.map g)
  | [], _, _, _ => .nil
  | w :: _, h, hf, hx => .keep (TG.name hf hx) .nil (h w List.mem_cons_self) (CL.map (fun u hu => h u (List.mem_cons_of_mem _ hu)) hf hx)

theorem Seen.none (h : ∀ p ∈ scope.names, p.2 ≠ .free) : Seen scope sc Γ [] := by
  refine ⟨fun y d e => ?_, fun x hx => absurd rfl (h (x, NameKind.free) hx)⟩
  cases e
theorem Seen.one {x : Str} {d : D} (hd : Γ.lookup x = some d) (hf : (x, NameKind.free) ∈ scope.names) (hc : (x, NameKind.cell) ∉ scope.names) (hs : sc.names.lookup x = some .cell ∨ sc.names.lookup x = some .free)
    (hr : (rl scope sc).names.lookup x = some .cell ∨ (rl scope sc).names.lookup x = some .free) (h : ∀ p ∈ scope.names, p.2 = .free → p.1 = x) : Seen scope sc Γ [(x, d)] := by
  refine ⟨fun y d' e => ?_, fun y hy => ?_⟩
  · rw [List.lookup_cons] at e
    by_cases q : y = x
    · subst q
      rw [beq_self_eq_true] at e
      cases e
      exact ⟨hd, hf, hc, hs, hr⟩
    · rw [beq_eq_false_iff_ne.mpr q] at e; cases e
  · have := h _ hy rfl
    have hyx : y = x := this
    subst hyx
    exact ⟨d, hd, hs⟩

theorem EV.tokGet (P : Prg C) {o e₁ e₂ : Expr} {apos pos : Pos} {l : List Nat} (ho : EV C n sc Γ o (.val (.ref 27))) (h₁ : EV C n sc Γ e₁ (.str l)) (h₂ : EV C n sc Γ e₂ (.int (-1)))
    (hst : ∀ env, starEach [e₁, e₂] env = [(false, eval e₁ env), (false, eval e₂ env)] := by intro _; rfl)
    (hbase : ∀ env, attributeBase o (Str.ofString "get") env (eval o env) = eval o env := by intro _; rfl) (hline : (apos.endLine == pos.line) = true := by rfl) :
    EV C n sc Γ (.Call (.Attribute o (Str.ofString "get") apos) [e₁, e₂] [] pos) (.int (num l)) := by
  have := EV.tabGet P.tab (apos := apos) (pos := pos) ho h₁ h₂ hst hbase hline
  rw [num_get] at this; exact this

theorem fn_byTable (P : Prg C) {t : List Nat} (hl : t.length ≤ 1000) : FN C (n + 3) 62 [.str t] (.list ((wd t).map pd)) := by
  refine FN.of P.f_by_table rfl ?_
  refine EX.ret (ES.ret (EVO.of (EV.comp (Γf := []) (EI.of (EV.callF (EV.glob P.g_words rfl rfl) (EVs.two (EV.name rfl rfl) (EV.glob P.g_longest rfl rfl)) (fn_words P hl (fun i hi => fn_longest P hi hl) P.f_longest.fd) P.f_words.fd) ITER.list)
    (CL.map (fun w hw => ?_) rfl rfl) rfl (Seen.none (by decide +kernel)) ?_ (by decide +kernel))))
  · exact EV.tuple (EVs.two (EV.tokGet P (EV.glob P.g_tab rfl rfl) (EV.name rfl rfl) (EV.neg1 (i := 1))) (EV.name rfl rfl)) (by simp)
  · rw [List.length_map]; have := wd_length t; omega

theorem idx_first {α : Type} [BEq α] [LawfulBEq α] (l : List α) (w : α) : ∀ m (hm : m < l.length), m < l.idxOf w → l[m] ≠ w := by
  intro m hm hlt e
  induction l generalizing m with
  | nil => simp at hm
  | cons a r ih =>
    rw [List.idxOf_cons] at hlt
    by_cases q : (a == w) = true
    · rw [q] at hlt; simp at hlt
    · have q' : (a == w) = false := by simpa using q
      rw [q'] at hlt
      cases m with
      | zero => simp at e; rw [e] at q; simp at q
      | succ m => simp at hm e; simp at hlt; exact ih m hm hlt e

noncomputable def rowD : D := .list (rowL.map .str)
noncomputable def rowLit : List Nat := [40, 32, 41, 32, 91, 32, 93, 32, 58, 32, 44, 32, 59, 32, 43, 32, 45, 32, 42, 32, 47, 32, 124, 32, 38, 32, 60, 32, 62, 32, 61, 32, 46, 32, 37, 32, 123, 32, 125, 32, 61, 61, 32, 33, 61, 32, 60, 61, 32, 62, 61, 32, 126, 32, 94, 32, 60, 60, 32, 62, 62, 32, 42, 42, 32, 43, 61, 32, 45, 61, 32, 42, 61, 32, 47, 61, 32, 37, 61, 32, 38, 61, 32, 124, 61, 32, 94, 61, 32, 60, 60, 61, 32, 62, 62, 61, 32, 42, 42, 61, 32, 47, 47, 32, 47, 47, 61, 32, 64, 32, 64, 61, 32, 45, 62, 32, 46, 46, 46, 32, 58, 61, 32, 33]
theorem splitRow : BI C n "str.split" [.str rowLit, .str [32]] rowD :=
  BI.split (by decide +kernel) (by decide +kernel) (by decide +kernel) (by decide +kernel) (by decide +kernel) (by decide +kernel)

theorem inRow (w : List Nat) : OP2 C n (compareOp .In) (.str w) rowD (.bool (rowL.contains w)) := OP2.inStrs
theorem rowT : HasT C rowD "list" := HasT.list
theorem rowIdx (w : List Nat) (h : rowL.contains w = true) : BI C n "list.index" [rowD, .str w] (.int (rowL.idxOf w)) := by
  have hm : w ∈ rowL := by simpa using h
  exact BI.listIndex (List.idxOf_lt_length_of_mem hm) (List.getElem_idxOf _) (idx_first rowL w) (by decide)
theorem rowAdd (w : List Nat) (h : rowL.contains w = true) : OP2 C n (binaryOp .Add) (.int 7) (.int (rowL.idxOf w)) (.int (num w)) := by
  have e : num w = 7 + (rowL.idxOf w : Int) := by unfold num isTok; rw [if_pos h]
  rw [e]; exact OP2.addInt
theorem rowNo (w : List Nat) (h : rowL.contains w = false) : -(1 : Int) = num w := by
  have e : num w = -1 := by unfold num isTok; rw [if_neg (by rw [h]; decide)]
  rw [e]
theorem EV.neg1E {i j : Int} {k : Nat} {p pos : Pos} (h : -i = j) : EV C n sc Γ (.UnaryOp .USub (.Constant (.int i) k p) pos) (.int j) := h ▸ EV.neg1

set_option maxHeartbeats 1000000 in
theorem fn_byShape (P : Prg C) {t : List Nat} (hl : t.length ≤ 1000) : FN C (n + 3) 67 [.str t] (.list ((wd t).map pd)) := by
  refine FN.of P.f_by_shape rfl ?_
  refine EX.cons (ES.assign (EVO.of (EV.meth (EV.cStr (l := rowLit) (by decide +kernel)) (EVs.one (EV.cStr (l := [32]) rfl)) HasT.str F.plainAttrs_str F.slot_str_split F.type_str_split splitRow (by decide))) rfl (.inr rfl) Own.noneNe) ?_
  refine EX.ret (ES.ret (EVO.of (EV.comp (Γf := [(Str.ofString "row", rowD)]) (EI.of (EV.callF (EV.glob P.g_words rfl rfl) (EVs.two (EV.name rfl rfl) (EV.glob P.g_shape rfl rfl)) (fn_words P hl (fun i hi => fn_shape' P hi hl) P.f_shape.fd) P.f_words.fd) ITER.list)
    (CL.map (fun w hw => ?_) rfl rfl) rfl (Seen.one rfl (by decide +kernel) (by decide +kernel) (.inl rfl) (by decide +kernel) (by decide +kernel)) ?_ (by decide +kernel))))
  · exact EV.tuple (EVs.two (EV.ifexp (EB.cmp (EV.name (d := .str w) rfl rfl) (EV.name (d := rowD) rfl rfl) (inRow w)) (fun h => EV.bin (EV.cInt (i := 7)) (EV.meth (EV.name (d := rowD) rfl rfl) (EVs.one (EV.name (d := .str w) rfl rfl)) rowT F.plainAttrs_list F.slot_list_index F.type_list_index (rowIdx w h) (by simp)) (rowAdd w h)) (fun h => EV.neg1E (i := 1) (rowNo w h))) (EV.name rfl rfl)) (by simp)
  · rw [List.length_map]; have := wd_length t; omega
end
end Mine

-- F5
namespace Mine

/-- the block of the for that stands as the j-th statement of the k-th def -/
noncomputable def forB (k j : Nat) : List Stmt := match (bodyAt k)[j]? with
  | some (.For _ _ b _ _) => b
  | _ => []

noncomputable abbrev Wds := List (List Nat)
noncomputable def rstep (p : List Wds × Wds) (w : List Nat) : List Wds × Wds := if num w == 12 then (p.1 ++ [p.2], []) else (p.1, p.2 ++ [w])
noncomputable def rowsG (ws : Wds) : List Wds × Wds := ws.foldl rstep ([], [])
noncomputable def rowsF (ws : Wds) : List Wds := if (rowsG ws).2.isEmpty then (rowsG ws).1 else (rowsG ws).1 ++ [(rowsG ws).2]
noncomputable def rD (r : Wds) : D := .list (r.map pd)

section
variable {C : Cfg} {n : Nat} {scope sc : Scope} {Γ Γf : Gm}

theorem OP2.eqI {a b : Int} {c : Bool} (h : (a == b) = c) : OP2 C n (compareOp .Eq) (.int a) (.int b) (.bool c) := h ▸ OP2.eqInt

theorem rows_loop : ∀ (ws : Wds) (done : List Wds) (cur : Wds) (Γ : Gm), ws.length + done.length + cur.length ≤ 1000 → ∃ Γ', FL C n (scopeAt 59) (Str.ofString "pair") (forB 59 1) (ws.map pd) Γ (.rows (Str.ofString "rows") (done.map (·.map pd)) (cur.map pd))
    (.next Γ' (.rows (Str.ofString "rows") ((ws.foldl rstep (done, cur)).1.map (·.map pd)) ((ws.foldl rstep (done, cur)).2.map pd)))
  | [], done, cur, Γ, _ => ⟨Γ, FL.done⟩
  | w :: r, done, cur, Γ, hb => by
    simp only [List.length_cons] at hb
    cases h : (num w == 12) with
    | true =>
      have e : rstep (done, cur) w = (done ++ [cur], []) := by unfold rstep; rw [h]; rfl
      obtain ⟨Γ', fl⟩ := rows_loop r (done ++ [cur]) [] ((Str.ofString "pair", pd w) :: Γ) (by simp; omega)
      refine ⟨Γ', FL.next (Γ₁ := (Str.ofString "pair", pd w) :: Γ) (O₁ := .rows (Str.ofString "rows") ((done ++ [cur]).map (·.map pd)) []) ?_ (Own.rowsNe (by decide +kernel)) ?_⟩
      · rw [List.map_append]
        exact EX.cons (ES.iff (EBO.of (EB.cmp (EV.tupAt (ds := [.int (num w), .str w]) (EV.name rfl rfl) (EV.cInt (i := 0)) (by decide) (by decide) rfl) (EV.cInt (i := 12)) (OP2.eqI h)))
          (fun _ => EX.cons (ES.rowsNew rfl (by rw [List.length_map]; omega)) EX.nil) (fun q => by cases q)) EX.nil
      · rw [List.foldl_cons, e]; exact fl
    | false =>
      have e : rstep (done, cur) w = (done, cur ++ [w]) := by unfold rstep; rw [h]; rfl
      obtain ⟨Γ', fl⟩ := rows_loop r done (cur ++ [w]) ((Str.ofString "pair", pd w) :: Γ) (by simp; omega)
      refine ⟨Γ', FL.next (Γ₁ := (Str.ofString "pair", pd w) :: Γ) (O₁ := .rows (Str.ofString "rows") (done.map (·.map pd)) ((cur ++ [w]).map pd)) ?_ (Own.rowsNe (by decide +kernel)) ?_⟩
      · rw [show (cur ++ [w]).map pd = cur.map pd ++ [pd w] from by simp]
        exact EX.cons (ES.iff (EBO.of (EB.cmp (EV.tupAt (ds := [.int (num w), .str w]) (EV.name rfl rfl) (EV.cInt (i := 0)) (by decide) (by decide) rfl) (EV.cInt (i := 12)) (OP2.eqI h)))
          (fun q => by cases q) (fun _ => EX.cons (ES.rowsPut (EV.name rfl rfl) rfl (by rw [List.length_map]; omega) (by rw [List.length_map]; omega)) EX.nil)) EX.nil
      · rw [List.foldl_cons, e]; exact fl

theorem rowsG_len (ws : Wds) : ∀ p : List Wds × Wds, (ws.foldl rstep p).1.length + (ws.foldl rstep p).2.length ≤ ws.length + p.1.length + p.2.length := by
  induction ws with
  | nil => intro p; simp
  | cons w r ih =>
    intro p
    rw [List.foldl_cons]
    have := ih (rstep p w)
    have h2 : (rstep p w).1.length + (rstep p w).2.length ≤ p.1.length + p.2.length + 1 := by
      unfold rstep; split <;> simp <;> omega
    simp only [List.length_cons]; omega

theorem fn_rows (P : Prg C) {ws : Wds} (hl : ws.length ≤ 1000) : FN C (n + 1) 74 [.list (ws.map pd)] (.list ((rowsF ws).map rD)) := by
  refine FN.of P.f_rows rfl ?_
  obtain ⟨Γ', fl⟩ := rows_loop (C := C) (n := n) ws [] [] ((paramsAt 59).zip [.list (ws.map pd)]) (by simp; omega)
  have hlen := rowsG_len ws ([], [])
  refine EX.cons (ES.newRows rfl rfl rfl) (EX.cons (ES.for (EI.of (EV.name rfl rfl) ITER.list) rfl rfl fl) ?_)
  change EX C n _ Γ' (.rows _ ((rowsG ws).1.map (·.map pd)) ((rowsG ws).2.map pd)) _ _
  change (rowsG ws).1.length + (rowsG ws).2.length ≤ ws.length + 0 + 0 at hlen
  unfold rowsF
  cases h2 : (rowsG ws).2 with
  | nil =>
    have e : ((rowsG ws).1.map rD) = (((rowsG ws).1.map (·.map pd)).map D.list) := by rw [List.map_map]; rfl
    rw [List.isEmpty_nil, if_pos rfl, e]
    refine EX.cons (ES.iff (EBO.borrowR (EB.cmp (EV.listLast (d := .list []) (EV.name rfl rfl) EV.neg1 (by simp)) (EV.list EVs.nil (by decide)) (OP2.eqList rfl (by decide)))) (fun _ => EX.cons (ES.rowsPop rfl (by rw [List.length_map]; omega)) EX.nil) (fun q => by cases q)) ?_
    exact EX.freeze (EX.ret (ES.ret (EVO.of (EV.name rfl rfl))))
  | cons a r =>
    have e : (((rowsG ws).1 ++ [a :: r]).map rD) = (((rowsG ws).1.map (·.map pd) ++ [(a :: r).map pd]).map D.list) := by rw [List.map_append, List.map_append, List.map_map]; rfl
    rw [List.isEmpty_cons, if_neg (by decide), e]
    refine EX.cons (ES.iff (EBO.borrowR (EB.cmp (EV.listLast (d := .list ((a :: r).map pd)) (EV.name rfl rfl) EV.neg1 (by simp)) (EV.list EVs.nil (by decide)) (OP2.eqListNo (by simp)))) (fun q => by cases q) (fun _ => EX.nil)) ?_
    exact EX.freezeR (EX.ret (ES.ret (EVO.of (EV.name rfl rfl))))
end
end Mine

-- F6
namespace Mine

noncomputable def places (ws : Wds) : List Nat := (List.range ws.length).filter fun i => (ws.getD i [] != [32])
noncomputable def bareF (ws : Wds) : Wds := match places ws with
  | [] => []
  | p :: ps => (ws.drop p).take ((p :: ps).getLastD 0 + 1 - p)

section
variable {C : Cfg} {n : Nat} {scope sc : Scope} {Γ Γf : Gm}

theorem CL.filter {α : Type} {x : Str} {p : Pos} {ifs : List Expr} {elt : Expr} {f g : α → D} {t : α → Bool} {ls : List α} (h : ∀ w ∈ ls, IFS C n sc ((x, f w) :: Γf) ifs (t w)) (h' : ∀ w ∈ ls, t w = true → EV C n sc ((x, f w) :: Γf) elt (g w)) (hf : sc.kind = .function) (hx : sc.names.lookup x = some .local) :
    CL C n scope sc (.Name x p) ifs elt Γf (ls.map f) ((ls.filter t).map g) := by
  induction ls with
  | nil => exact .nil
  | cons w r ih =>
    have ih := ih (fun u hu => h u (List.mem_cons_of_mem _ hu)) (fun u hu => h' u (List.mem_cons_of_mem _ hu))
    cases ht : t w with
    | true =>
      rw [List.filter_cons_of_pos ht]
      exact .keep (TG.name hf hx) (ht ▸ h w List.mem_cons_self) (h' w List.mem_cons_self ht) ih
    | false =>
      rw [List.filter_cons_of_neg (by rw [ht]; decide)]
      exact .skip (TG.name hf hx) (ht ▸ h w List.mem_cons_self) ih

theorem bbRange : bootBuiltins (Str.ofString "range") = some (.type "range") := by decide +kernel
theorem bbList : bootBuiltins (Str.ofString "list") = some (.type "list") := by decide +kernel
theorem OP2.neB {a b : List Nat} {c : Bool} (h : (a != b) = c) : OP2 C n (compareOp .NotEq) (.str a) (.str b) (.bool c) := h ▸ OP2.neStr
theorem BI.lenList' {l : List D} {k : Nat} (h : l.length = k) (hl : k ≤ 1000) : BI C n "len" [.list l] (.int k) := by subst h; exact BI.lenList (by omega)

theorem pd_at {ws : Wds} {i : Nat} (hi : i < ws.length) : (ws.map pd)[((i : Nat) : Int).toNat]? = some (pd (ws.getD i [])) := by
  rw [Int.toNat_natCast, List.getElem?_map, List.getElem?_eq_getElem hi, List.getD_eq_getElem?_getD, List.getElem?_eq_getElem hi]; rfl

theorem fn_bare (P : Prg C) {ws : Wds} (hl : ws.length ≤ 1000) : FN C (n + 1) 79 [rD ws] (rD (bareF ws)) := by
  refine FN.of P.f_bare rfl ?_
  refine EX.cons (ES.assignComp (Γf := [(Str.ofString "row", rD ws)]) (ds' := (places ws).map fun i : Nat => .int i) (EI.range (k := ws.length) (EV.builtin P.b_range bbRange rfl rfl) (EV.callB (EV.builtin P.b_len bbLen rfl rfl) (EVs.one (EV.name (d := rD ws) rfl rfl)) (BI.lenList' (by simp) hl)) (by omega))
    (CL.filter (fun i hi => IFS.one (EB.cmp (EV.tupAt (ds := [.int (num (ws.getD i [])), .str (ws.getD i [])]) (EV.listAt (ds := ws.map pd) (EV.name rfl rfl) (EV.name rfl rfl) (by omega) (by have := List.mem_range.mp hi; omega) (pd_at (List.mem_range.mp hi))) (EV.cInt (i := 1)) (by decide) (by decide) rfl) (EV.cStr (l := [32]) rfl) (OP2.neB rfl))) (fun i hi _ => EV.name rfl rfl) rfl rfl)
    rfl (Seen.one rfl (by decide +kernel) (by decide +kernel) (.inl rfl) (by decide +kernel) (by decide +kernel)) (by simp; omega) (by decide +kernel) rfl (.inl rfl) Own.noneNe (by intro _; rfl)) ?_
  have hmem : ∀ i ∈ places ws, i < ws.length := fun i hi => by
    unfold places at hi
    exact List.mem_range.mp (List.mem_filter.mp hi).1
  have hpl : (places ws).length ≤ ws.length := by
    unfold places
    exact Nat.le_trans (List.length_filter_le _ _) (by simp)
  have hsort : (places ws).Pairwise (· < ·) := by
    unfold places
    exact List.Pairwise.filter _ List.pairwise_lt_range
  cases hp : places ws with
  | nil =>
    have e0 : bareF ws = [] := by unfold bareF; rw [hp]
    rw [e0]
    exact EX.ret (ES.ret (EVO.of (EV.ifexp (c := false) (EB.val (EV.name rfl rfl) (TR.list (by simp))) (fun q => by cases q) (fun _ => EV.list EVs.nil (by decide)))))
  | cons p ps =>
    have hlast := List.getLast_mem (l := p :: ps) (by simp)
    have hge : p ≤ (p :: ps).getLast (by simp) := by
      rw [hp] at hsort
      rcases List.mem_cons.mp hlast with q | q
      · rw [q]; exact Nat.le_refl _
      · exact Nat.le_of_lt ((List.pairwise_cons.mp hsort).1 _ q)
    have hlt : (p :: ps).getLast (by simp) < ws.length := hmem _ (by rw [hp]; exact hlast)
    have e0 : bareF ws = (ws.drop p).take ((p :: ps).getLast (by simp) + 1 - p) := by unfold bareF; rw [hp]; dsimp only; rw [List.getLastD_eq_getLast?, List.getLast?_eq_some_getLast (by simp)]; rfl
    rw [e0]
    generalize hg : (p :: ps).getLast (by simp) = g at hge hlt
    have e : rD ((ws.drop p).take (g + 1 - p)) = .list (sl (some (p : Int)) (some ((g : Int) + 1)) (ws.map pd)) := by
      have := sl_nat (ws.map pd) p (g + 1 - p)
      have e2 : (p : Int) + ((g + 1 - p : Nat) : Int) = (g : Int) + 1 := by omega
      rw [e2] at this
      rw [this]; unfold rD; rw [List.map_take, List.map_drop]
    rw [e]
    refine EX.ret (ES.ret (EVO.of (EV.ifexp (c := true) (EB.val (EV.name rfl rfl) (TR.list (l := (p :: ps).map fun i : Nat => D.int i) ?_)) (fun _ => EV.listCut (EV.name (d := .list (ws.map pd)) rfl rfl) (.some (EV.listAt (ds := (p :: ps).map fun i : Nat => D.int i) (EV.name rfl rfl) (EV.cInt (i := 0)) (by decide) (by decide) rfl))
      (.some (EV.bin (EV.listLast (d := .int (g : Nat)) (ds := (p :: ps).map fun i : Nat => D.int i) (EV.name rfl rfl) EV.neg1 ?_) (EV.cInt (i := 1)) OP2.addInt)) ?_) (fun q => by cases q))))
    · rw [hp] at hpl; simp only [List.length_map]; omega
    · rw [List.getLast?_map, List.getLast?_eq_some_getLast (by simp), hg]; rfl
    · simp; omega
end
end Mine

-- F7
namespace Mine

noncomputable def msgNo : List Nat := [110, 111, 32, 101, 113, 117, 97, 108, 115, 32, 115, 105, 103, 110]
noncomputable def msgBh : List Nat := [110, 111, 116, 104, 105, 110, 103, 32, 98, 101, 104, 105, 110, 100, 32, 105, 116]

inductive Ans where
  | no
  | bh
  | pair (k v : List Nat)
/-- what a text says: key, sign, value -/
noncomputable def ansF (s : List Nat) : Ans := match s.dropWhile (· != 61) with
  | [] => .no
  | _ :: [] => .bh
  | _ :: c :: v => .pair (s.takeWhile (· != 61)) (c :: v)
noncomputable def ansD : Ans → D
  | .no => .str msgNo
  | .bh => .str msgBh
  | .pair k v => .list [pairD (k, v)]

theorem dropWhile_none {s : List Nat} (h : 61 ∉ s) : s.dropWhile (· != 61) = [] := by
  induction s with
  | nil => rfl
  | cons a r ih =>
    have ha : a ≠ 61 := fun q => h (by rw [q]; exact List.mem_cons_self)
    rw [List.dropWhile_cons, if_pos (by simp [ha])]
    exact ih fun q => h (List.mem_cons_of_mem _ q)
theorem dropWhile_at {k v : List Nat} (h : 61 ∉ k) : (k ++ 61 :: v).dropWhile (· != 61) = 61 :: v ∧ (k ++ 61 :: v).takeWhile (· != 61) = k := by
  induction k with
  | nil => simp
  | cons a r ih =>
    have ha : a ≠ 61 := fun q => h (by rw [q]; exact List.mem_cons_self)
    obtain ⟨i1, i2⟩ := ih fun q => h (List.mem_cons_of_mem _ q)
    rw [List.cons_append, List.dropWhile_cons, if_pos (by simp [ha]), List.takeWhile_cons, if_pos (by simp [ha]), i1, i2]
    exact ⟨rfl, rfl⟩
theorem ansF_no {s : List Nat} (h : 61 ∉ s) : ansF s = .no := by unfold ansF; rw [dropWhile_none h]
theorem ansF_bh {k : List Nat} (h : 61 ∉ k) : ansF (k ++ [61]) = .bh := by unfold ansF; rw [(dropWhile_at h).1]
theorem ansF_pair {k v : List Nat} (h : 61 ∉ k) (hv : v ≠ []) : ansF (k ++ 61 :: v) = .pair k v := by
  cases v with
  | nil => exact absurd rfl hv
  | cons c v => unfold ansF; rw [(dropWhile_at h).1, (dropWhile_at h).2]

theorem first61 {s : List Nat} (h : 61 ∈ s) : ∃ k v, s = k ++ 61 :: v ∧ 61 ∉ k := by
  induction s with
  | nil => cases h
  | cons a r ih =>
    by_cases ha : a = 61
    · exact ⟨[], r, by rw [ha]; rfl, by simp⟩
    · obtain ⟨k, v, e, hk⟩ := ih (by rcases List.mem_cons.mp h with q | q; · exact absurd q.symm ha
                                     · exact q)
      exact ⟨a :: k, v, by rw [e]; rfl, fun q => by rcases List.mem_cons.mp q with q | q; · exact ha q.symm
                                                    · exact hk q⟩
theorem firstWord {ws : Wds} (h : 61 ∈ ws.flatten) : ∃ pre a b post, ws = pre ++ (a ++ 61 :: b) :: post ∧ 61 ∉ pre.flatten ∧ 61 ∉ a := by
  induction ws with
  | nil => cases h
  | cons w r ih =>
    by_cases hw : 61 ∈ w
    · obtain ⟨a, b, e, ha⟩ := first61 hw
      exact ⟨[], a, b, r, by rw [e]; rfl, by simp, ha⟩
    · rw [List.flatten_cons] at h
      obtain ⟨pre, a, b, post, e, hp, ha⟩ := ih ((List.mem_append.mp h).elim (fun q => absurd q hw) id)
      refine ⟨w :: pre, a, b, post, by rw [e]; rfl, fun q => ?_, ha⟩
      rw [List.flatten_cons] at q
      exact (List.mem_append.mp q).elim hw hp

noncomputable def marksF (ws : Wds) : List Nat := (List.range ws.length).filter fun i => (ws.getD i []).contains 61
theorem filter_first (p : Nat → Bool) (m : Nat) : ∀ k, (∀ i, i < m → p i = false) → p m = true → ∃ rest, (List.range (m + (k + 1))).filter p = m :: rest := by
  intro k h0 h1
  rw [List.range_add, List.filter_append]
  have e1 : (List.range m).filter p = [] := by
    rw [List.filter_eq_nil_iff]
    intro a ha
    rw [h0 a (List.mem_range.mp ha)]; decide
  rw [e1, List.range_succ_eq_map, List.map_cons, List.filter_cons, Nat.add_zero, if_pos h1]
  exact ⟨_, rfl⟩
theorem marks_no {ws : Wds} (h : 61 ∉ ws.flatten) : marksF ws = [] := by
  unfold marksF
  rw [List.filter_eq_nil_iff]
  intro i hi hc
  have hi := List.mem_range.mp hi
  rw [List.getD_eq_getElem?_getD, List.getElem?_eq_getElem hi] at hc
  have : 61 ∈ ws[i] := by simpa using hc
  exact h (List.mem_flatten.mpr ⟨_, List.getElem_mem hi, this⟩)
theorem marks_at {pre post : Wds} {a b : List Nat} (h : 61 ∉ pre.flatten) : ∃ rest, marksF (pre ++ (a ++ 61 :: b) :: post) = pre.length :: rest := by
  unfold marksF
  rw [List.length_append, List.length_cons]
  refine filter_first _ _ _ (fun i hi => ?_) ?_
  · rw [List.getD_eq_getElem?_getD, List.getElem?_append_left hi, List.getElem?_eq_getElem hi]
    rw [← Bool.not_eq_true]
    intro hc
    have : 61 ∈ pre[i] := by simpa using hc
    exact h (List.mem_flatten.mpr ⟨_, List.getElem_mem hi, this⟩)
  · rw [List.getD_eq_getElem?_getD, List.getElem?_append_right (Nat.le_refl _), Nat.sub_self]
    simp
theorem marks_len (ws : Wds) : (marksF ws).length ≤ ws.length := by
  unfold marksF
  exact Nat.le_trans (List.length_filter_le _ _) (by simp)

theorem joinNil : ∀ ls : Wds, joinL [] ls = ls.flatten
  | [] => rfl
  | [l] => by simp [joinL]
  | l :: k :: r => by
    show l ++ [] ++ joinL [] (k :: r) = _
    rw [joinNil (k :: r), List.append_nil]; rfl
theorem sumFlat (ls : Wds) : (ls.map List.length).sum = ls.flatten.length := by rw [List.length_flatten]

section
variable {C : Cfg} {n : Nat} {scope sc : Scope} {Γ Γf : Gm}

theorem CL.mapPair {α : Type} {x y : Str} {p p' pos : Pos} {k : Nat} {elt : Expr} {f f' g : α → D} {ls : List α} (hq : C.q = true) (h : ∀ w ∈ ls, EV C n sc ((y, f' w) :: (x, f w) :: Γf) elt (g w)) (hf : sc.kind = .function) (hx : sc.names.lookup x = some .local) (hy : sc.names.lookup y = some .local) (hxy : x ≠ y) :
    CL C n scope sc (.Tuple [.Name x p, .Name y p'] k pos) [] elt Γf (ls.map fun w => .tuple [f w, f' w]) (ls.map g) := by
  induction ls with
  | nil => exact .nil
  | cons w r ih =>
    exact .keep (TG.pair hq hf hx hy hxy) .nil (h w List.mem_cons_self) (ih fun u hu => h u (List.mem_cons_of_mem _ hu))

theorem BI.joinF {ls : Wds} (h : ls.flatten.length ≤ 2000) (hl : ls.length ≤ 2000) : BI C n "str.join" [.str [], .list (ls.map D.str)] (.str ls.flatten) := by
  have := BI.join (C := C) (n := n) (m := []) (ls := ls) (by simp) (by rw [sumFlat]; omega)
  rw [joinNil] at this; exact this

theorem EV.cutFrom {e a : Expr} {p pos : Pos} {t u : List Nat} {i : Nat} {x : Int} (hu : t.drop i = u) (he : EV C n sc Γ e (.str t)) (ha : EV C n sc Γ a (.int x)) (hx : x = (i : Int)) (hsz : t.length ≤ 1000) : EV C n sc Γ (.Subscript e (.Slice (some a) none none p) pos) (.str u) := by
  subst hx hu
  have := EV.strCut (p := p) (pos := pos) he (.some ha) .none (by omega)
  rw [sl_from] at this; exact this
theorem EV.cutTo {e a : Expr} {p pos : Pos} {t u : List Nat} {i : Nat} {x : Int} (hu : t.take i = u) (he : EV C n sc Γ e (.str t)) (ha : EV C n sc Γ a (.int x)) (hx : x = (i : Int)) (hsz : t.length ≤ 1000) : EV C n sc Γ (.Subscript e (.Slice none (some a) none p) pos) (.str u) := by
  subst hx hu
  have := EV.strCut (p := p) (pos := pos) he .none (.some ha) (by omega)
  rw [sl_to] at this; exact this
theorem EV.lcutFrom {e a : Expr} {p pos : Pos} {ds es : List D} {i : Nat} {x : Int} (hu : ds.drop i = es) (he : EV C n sc Γ e (.list ds)) (ha : EV C n sc Γ a (.int x)) (hx : x = (i : Int)) (hsz : ds.length ≤ 1000) : EV C n sc Γ (.Subscript e (.Slice (some a) none none p) pos) (.list es) := by
  subst hx hu
  have := EV.listCut (p := p) (pos := pos) he (.some ha) .none (by omega)
  rw [sl_from] at this; exact this
theorem EV.lcutTo {e a : Expr} {p pos : Pos} {ds es : List D} {i : Nat} {x : Int} (hu : ds.take i = es) (he : EV C n sc Γ e (.list ds)) (ha : EV C n sc Γ a (.int x)) (hx : x = (i : Int)) (hsz : ds.length ≤ 1000) : EV C n sc Γ (.Subscript e (.Slice none (some a) none p) pos) (.list es) := by
  subst hx hu
  have := EV.listCut (p := p) (pos := pos) he .none (.some ha) (by omega)
  rw [sl_to] at this; exact this

noncomputable def wsD (ws : Wds) : D := .list (ws.map .str)
theorem ws_at {ws : Wds} {i : Nat} (hi : i < ws.length) : (ws.map D.str)[((i : Nat) : Int).toNat]? = some (D.str (ws.getD i [])) := by
  rw [Int.toNat_natCast, List.getElem?_map, List.getElem?_eq_getElem hi, List.getD_eq_getElem?_getD, List.getElem?_eq_getElem hi]; rfl

end
end Mine

-- F7b
namespace Mine
section
variable {C : Cfg} {n : Nat} {scope sc : Scope} {Γ Γf : Gm}

set_option maxHeartbeats 4000000 in
theorem fn_told (P : Prg C) (hq : C.q = true) {ws : Wds} (hl : ws.length ≤ 1000) (hfl : ws.flatten.length ≤ 900) : FN C (n + 1) 98 [rD ws] (.tuple [ansD (ansF ws.flatten), rD ws]) := by
  refine FN.of P.f_told rfl ?_
  refine EX.cons (ES.assign (d := wsD ws) (EVO.of (EV.comp (Γf := []) (EI.of (EV.name (d := rD ws) rfl rfl) ITER.list) (CL.mapPair (f := fun w => .int (num w)) (f' := fun w => .str w) hq (fun w hw => EV.name rfl rfl) rfl rfl rfl (by decide +kernel)) rfl (Seen.none (by decide +kernel)) (by simp; omega) (by decide +kernel))) rfl (.inr rfl) Own.noneNe) ?_
  refine EX.cons (ES.assignComp (Γf := [(Str.ofString "words", wsD ws)]) (ds' := (marksF ws).map fun i : Nat => .int i) (EI.range (k := ws.length) (EV.builtin P.b_range bbRange rfl rfl) (EV.callB (EV.builtin P.b_len bbLen rfl rfl) (EVs.one (EV.name (d := wsD ws) rfl rfl)) (BI.lenList' (by simp) hl)) (by omega))
    (CL.filter (fun i hi => IFS.one (EB.cmp (EV.cStr (l := [61]) rfl) (EV.listAt (ds := ws.map D.str) (EV.name rfl rfl) (EV.name rfl rfl) (by omega) (by have := List.mem_range.mp hi; omega) (ws_at (List.mem_range.mp hi))) (OP2.in1B rfl))) (fun i hi _ => EV.name rfl rfl) rfl rfl)
    rfl (Seen.one rfl (by decide +kernel) (by decide +kernel) (.inl rfl) (by decide +kernel) (by decide +kernel)) (by simp; omega) (by decide +kernel) rfl (.inl rfl) Own.noneNe (by intro _; rfl)) ?_
  have hml := marks_len ws
  by_cases h61 : 61 ∈ ws.flatten
  · obtain ⟨pre, a, b, post, e, hp, ha⟩ := firstWord h61
    obtain ⟨rest, hm⟩ := marks_at (post := post) (a := a) (b := b) hp
    rw [← e] at hm
    rw [hm]
    have hlen : pre.length + (post.length + 1) = ws.length := by rw [e]; simp
    have hfe : ws.flatten = (pre.flatten ++ a) ++ 61 :: (b ++ post.flatten) := by rw [e]; simp
    have hfl' : pre.flatten.length + a.length + 1 + (b.length + post.flatten.length) = ws.flatten.length := by rw [hfe]; simp only [List.length_append, List.length_cons]; omega
    have hk : 61 ∉ pre.flatten ++ a := fun q => (List.mem_append.mp q).elim hp ha
    refine EX.cons (ES.iff (c := false) (EBO.of (EB.cmp (EV.name rfl rfl) (EV.list EVs.nil (by decide)) (OP2.eqListNo (by simp)))) (fun q => by cases q) (fun _ => EX.nil)) ?_
    refine EX.cons (ES.assign (d := .int (pre.length : Nat)) (EVO.of (EV.listAt (ds := (pre.length :: rest).map fun i : Nat => D.int i) (EV.name rfl rfl) (EV.cInt (i := 0)) (by decide) (by decide) rfl)) rfl (.inl rfl) Own.noneNe) ?_
    have hat : (ws.map D.str)[((pre.length : Nat) : Int).toNat]? = some (D.str (a ++ 61 :: b)) := by
      rw [Int.toNat_natCast, e, List.getElem?_map, List.getElem?_append_right (Nat.le_refl _), Nat.sub_self]; rfl
    have hws : (ws.map D.str).length ≤ 1000 := by simp; exact hl
    refine EX.cons (ES.assign (d := .int (a.length : Nat)) (EVO.of (EV.meth (EV.listAt (ds := ws.map D.str) (EV.name rfl rfl) (EV.name rfl rfl) (by omega) (by omega) hat) (EVs.one (EV.cStr (l := [61]) rfl)) HasT.str F.plainAttrs_str F.slot_str_index F.type_str_index (BI.strIndex ha) (by simp))) rfl (.inl rfl) Own.noneNe) ?_
    have ed1 : (a ++ 61 :: b).drop (a.length + 1) = b := by simp
    have ed2 : (ws.map D.str).drop (pre.length + 1) = post.map D.str := by
      rw [e, List.map_append, List.map_cons, List.drop_append, List.length_map, List.drop_eq_nil_of_le (by simp), Nat.add_sub_cancel_left]; rfl
    have ed3 : (ws.map D.str).take pre.length = pre.map D.str := by rw [e]; simp
    have ed4 : (a ++ 61 :: b).take a.length = a := by simp
    refine EX.cons (ES.assign (d := .str (b ++ post.flatten)) (EVO.of (EV.bin (d₁ := .str b) (d₂ := .str post.flatten)
      (EV.cutFrom ed1 (i := a.length + 1) (EV.listAt (ds := ws.map D.str) (EV.name rfl rfl) (EV.name rfl rfl) (by omega) (by omega) hat) (EV.bin (EV.name rfl rfl) (EV.cInt (i := 1)) OP2.addInt) (by push_cast; rfl) (by simp; omega))
      (EV.meth (EV.cStr (l := []) rfl) (EVs.one (EV.lcutFrom ed2 (i := pre.length + 1) (EV.name (d := .list (ws.map D.str)) rfl rfl) (EV.bin (EV.name rfl rfl) (EV.cInt (i := 1)) OP2.addInt) (by push_cast; rfl) hws)) HasT.str F.plainAttrs_str F.slot_str_join F.type_str_join (BI.joinF (by omega) (by omega)) (by simp)) (OP2.addStr (by omega)))) rfl (.inl rfl) Own.noneNe) ?_
    cases hv : (b ++ post.flatten) with
    | nil =>
      have e2 : ansF ws.flatten = .bh := by rw [hfe, hv]; exact ansF_bh hk
      rw [e2]
      exact EX.ret (ES.iff (c := true) (EBO.of (EB.cmp (EV.name rfl rfl) (EV.cStr (l := []) rfl) (OP2.eqB rfl))) (fun _ => EX.ret (ES.ret (EVO.of (EV.tuple (EVs.two (EV.cStr (l := msgBh) (by decide +kernel)) (EV.name rfl rfl)) (by simp))))) (fun q => by cases q))
    | cons c v =>
      have e2 : ansF ws.flatten = .pair (pre.flatten ++ a) (c :: v) := by rw [hfe, hv]; exact ansF_pair hk (by simp)
      rw [e2]
      refine EX.cons (ES.iff (c := false) (EBO.of (EB.cmp (EV.name rfl rfl) (EV.cStr (l := []) rfl) (OP2.eqB rfl))) (fun q => by cases q) (fun _ => EX.nil)) ?_
      show EX C n _ _ _ _ (.ret (.tuple [.list [.tuple [.str (pre.flatten ++ a), .str (c :: v)]], rD ws]))
      exact EX.ret (ES.ret (EVO.of (EV.tuple (EVs.two (EV.list (EVs.one (EV.tuple (EVs.two (EV.bin (d₁ := .str pre.flatten) (d₂ := .str a)
        (EV.meth (EV.cStr (l := []) rfl) (EVs.one (EV.lcutTo ed3 (i := pre.length) (EV.name (d := .list (ws.map D.str)) rfl rfl) (EV.name rfl rfl) rfl hws)) HasT.str F.plainAttrs_str F.slot_str_join F.type_str_join (BI.joinF (by omega) (by omega)) (by simp))
        (EV.cutTo ed4 (i := a.length) (EV.listAt (ds := ws.map D.str) (EV.name rfl rfl) (EV.name rfl rfl) (by omega) (by omega) hat) (EV.name rfl rfl) rfl (by simp; omega)) (OP2.addStr (by omega))) (EV.name rfl rfl)) (by simp))) (by simp)) (EV.name rfl rfl)) (by simp))))
  · have e : ansF ws.flatten = .no := ansF_no h61
    rw [e, marks_no h61]
    exact EX.ret (ES.iff (c := true) (EBO.of (EB.cmp (EV.name rfl rfl) (EV.list EVs.nil (by decide)) (OP2.eqList rfl (by decide)))) (fun _ => EX.ret (ES.ret (EVO.of (EV.tuple (EVs.two (EV.cStr (l := msgNo) (by decide +kernel)) (EV.name rfl rfl)) (by simp))))) (fun q => by cases q))
end
end Mine

-- F8
namespace Mine

noncomputable abbrev Pr := List Nat × List Nat
/-- a value without its quotes -/
noncomputable def unq (v : List Nat) : List Nat := if v.head? == some 34 && v.getLast? == some 34 then sl (some 1) (some (-1)) v else v
noncomputable def kvStep (kvs : List Pr) (p : Pr) : List Pr := storeKV kvs p.1 (unq p.2)
noncomputable def itemOf (p : Pr) : List Nat := p.1 ++ 61 :: p.2
/-- a pair that is written as key, sign, value -/
structure PrOk (p : Pr) : Prop where
  key : 61 ∉ p.1
  val : p.2 ≠ []
  small : ∀ x ∈ itemOf p, x < 128
  len : (itemOf p).length ≤ 1000

theorem storeKV_len (kvs : List Pr) (k v : List Nat) : (storeKV kvs k v).length ≤ kvs.length + 1 := by
  unfold storeKV; split <;> simp

section
variable {C : Cfg} {n : Nat} {scope sc : Scope} {Γ Γf : Gm}

theorem EV.splitEq {e : Expr} {ap pos p1 p2 : Pos} {k1 k2 : Nat} {p : Pr} (ok : PrOk p) (he : EV C n sc Γ e (.str (itemOf p)))
    (hbase : ∀ env, attributeBase e (Str.ofString "split") env (eval e env) = eval e env := by intro _; rfl) (hline : (ap.endLine == pos.line) = true := by rfl) :
    EV C n sc Γ (.Call (.Attribute e (Str.ofString "split") ap) [.Constant (.str (Str.ofString "=")) k1 p1, .Constant (.int 1) k2 p2] [] pos) (.list [.str p.1, .str p.2]) :=
  EV.meth he (EVs.two (EV.cStr (l := [61]) rfl) EV.cInt) HasT.str F.plainAttrs_str F.slot_str_split F.type_str_split
    (BI.split1 ok.key (fun x hx => Nat.lt_trans (ok.small x hx) (by decide)) (by have := ok.len; exact Nat.le_trans this (by decide))) (by simp) hbase hline

theorem OP2.eqCh {a c : Nat} {b : Bool} (h : (some a == some c) = b) : OP2 C n (compareOp .Eq) (.str [a]) (.str [c]) (.bool b) := by
  have e : (([a] : List Nat) == [c]) = b := by rw [← h]; simp
  exact OP2.eqB e

theorem keqv_loop : ∀ (ps : List Pr) (kvs : List Pr) (Γ : Gm), (∀ p ∈ ps, PrOk p) → kvs.length + ps.length ≤ 1000 → ∃ Γ', FL C n (scopeAt 1) (Str.ofString "elt") (forB 1 1) (ps.map fun p => .str (itemOf p)) Γ (.dct (Str.ofString "parsed") kvs)
    (.next Γ' (.dct (Str.ofString "parsed") (ps.foldl kvStep kvs)))
  | [], kvs, Γ, _, _ => ⟨Γ, FL.done⟩
  | p :: r, kvs, Γ, hok, hl => by
    have ok := hok p List.mem_cons_self
    have hvl : p.2.length ≤ 1000 := by have := ok.len; unfold itemOf at this; simp only [List.length_append, List.length_cons] at this; omega
    simp only [List.length_cons] at hl
    have hsl := storeKV_len kvs p.1 (unq p.2)
    obtain ⟨c0, hc0⟩ : ∃ c, p.2.head? = some c := by
      cases h : p.2 with
      | nil => exact absurd h ok.val
      | cons a _ => exact ⟨a, rfl⟩
    obtain ⟨c1, hc1⟩ : ∃ c, p.2.getLast? = some c := by
      cases h : p.2.getLast? with
      | none => exact absurd (List.getLast?_eq_none_iff.mp h) ok.val
      | some c => exact ⟨c, rfl⟩
    have tail : ∀ Γ₁ : Gm, Γ₁.lookup (Str.ofString "k") = some (.str p.1) → Γ₁.lookup (Str.ofString "v") = some (.str (unq p.2)) →
        EX C n (scopeAt 1) Γ₁ (.dct (Str.ofString "parsed") kvs) ((forB 1 1).drop 2) (.next Γ₁ (.dct (Str.ofString "parsed") (kvStep kvs p))) := fun Γ₁ g1 g2 =>
      EX.cons (ES.setItem (EV.name g2 rfl) (EV.name g1 rfl) rfl (by omega)) EX.nil
    cases hb : ((p.2.head? == some 34) && (p.2.getLast? == some 34)) with
    | true =>
      have eu : unq p.2 = sl (some 1) (some (-1)) p.2 := by unfold unq; rw [hb]; rfl
      obtain ⟨Γ', fl⟩ := keqv_loop r (kvStep kvs p) ((Str.ofString "v", .str (unq p.2)) :: (Str.ofString "v", .str p.2) :: (Str.ofString "k", .str p.1) :: (Str.ofString "elt", .str (itemOf p)) :: Γ) (fun q hq => hok q (List.mem_cons_of_mem _ hq)) (by unfold kvStep; omega)
      refine ⟨Γ', FL.next ?_ (Own.dctNe (by decide +kernel)) fl⟩
      refine EX.cons (ES.unpack2 (EVO.of (EV.splitEq ok (EV.name rfl rfl))) rfl rfl (Own.dctNe (by decide +kernel)) rfl (Own.dctNe (by decide +kernel))) ?_
      refine EX.cons (ES.iff (EBO.of (EB.and2' hb (EB.cmp (EV.strAt (c := c0) (EV.name rfl rfl) (EV.cInt (i := 0)) (by decide) (at0 hc0)) (EV.cStr (l := [34]) rfl) (OP2.eqCh (by rw [hc0]))) (EB.cmp (EV.strAt (c := c1) (EV.name rfl rfl) (EV.neg1 (i := 1)) (by decide) (atLast hc1)) (EV.cStr (l := [34]) rfl) (OP2.eqCh (by rw [hc1])))))
        (fun _ => EX.cons (ES.assign (d := .str (unq p.2)) (EVO.of (eu ▸ EV.strCut (EV.name rfl rfl) (.some (EV.cInt (i := 1))) (.some (EV.neg1 (i := 1))) (by omega))) rfl (.inl rfl) (Own.dctNe (by decide +kernel))) EX.nil) (fun q => by cases q)) ?_
      exact tail _ rfl rfl
    | false =>
      have eu : unq p.2 = p.2 := by unfold unq; rw [hb]; rfl
      obtain ⟨Γ', fl⟩ := keqv_loop r (kvStep kvs p) ((Str.ofString "v", .str p.2) :: (Str.ofString "k", .str p.1) :: (Str.ofString "elt", .str (itemOf p)) :: Γ) (fun q hq => hok q (List.mem_cons_of_mem _ hq)) (by unfold kvStep; omega)
      refine ⟨Γ', FL.next ?_ (Own.dctNe (by decide +kernel)) fl⟩
      refine EX.cons (ES.unpack2 (EVO.of (EV.splitEq ok (EV.name rfl rfl))) rfl rfl (Own.dctNe (by decide +kernel)) rfl (Own.dctNe (by decide +kernel))) ?_
      refine EX.cons (ES.iff (EBO.of (EB.and2' hb (EB.cmp (EV.strAt (c := c0) (EV.name rfl rfl) (EV.cInt (i := 0)) (by decide) (at0 hc0)) (EV.cStr (l := [34]) rfl) (OP2.eqCh (by rw [hc0]))) (EB.cmp (EV.strAt (c := c1) (EV.name rfl rfl) (EV.neg1 (i := 1)) (by decide) (atLast hc1)) (EV.cStr (l := [34]) rfl) (OP2.eqCh (by rw [hc1])))))
        (fun q => by cases q) (fun _ => EX.nil)) ?_
      exact tail _ rfl (by rw [eu]; rfl)

/-- parse_keqv_list of sound items -/
theorem fn_keqv (P : Prg C) {ps : List Pr} (hok : ∀ p ∈ ps, PrOk p) (hl : ps.length ≤ 900) : FN C (n + 1) 21 [.list (ps.map fun p => .str (itemOf p))] (.dict (ps.foldl kvStep [])) := by
  refine FN.of P.f_keqv rfl ?_
  obtain ⟨Γ', fl⟩ := keqv_loop (C := C) (n := n) ps [] ((paramsAt 1).zip [.list (ps.map fun p => .str (itemOf p))]) hok (by simp; omega)
  exact EX.cons (ES.newDict rfl rfl rfl) (EX.cons (ES.for (EI.of (EV.name rfl rfl) ITER.list) rfl rfl fl) (EX.freezeD (EX.ret (ES.ret (EVO.of (EV.name rfl rfl))))))

/-- an item without the sign -/
theorem fnr_no (P : Prg C) {l : List Nat} (h : 61 ∉ l) (hc : ∀ x ∈ l, x < 128) : FNR C (n + 1) 21 [.list [.str l]] "ValueError" :=
  FNR.of P.f_keqv rfl (ES.newDict rfl rfl rfl) (EI.of (EV.name rfl rfl) ITER.list) rfl (Own.dctNe (by decide +kernel))
    (ER.here (SR.unpackFew (EVO.of (EV.meth (EV.name rfl rfl) (EVs.two (EV.cStr (l := [61]) rfl) EV.cInt) HasT.str F.plainAttrs_str F.slot_str_split F.type_str_split (BI.split1No h (fun x hx => Nat.lt_trans (hc x hx) (by decide)) (by decide)) (by simp)))))
/-- an item with nothing behind the sign -/
theorem fnr_bh (P : Prg C) {k : List Nat} (h : 61 ∉ k) (hc : ∀ x ∈ k ++ [61], x < 128) (hl : (k ++ [61]).length ≤ 1000) : FNR C (n + 1) 21 [.list [.str (k ++ [61])]] "IndexError" :=
  FNR.of P.f_keqv rfl (ES.newDict rfl rfl rfl) (EI.of (EV.name rfl rfl) ITER.list) rfl (Own.dctNe (by decide +kernel))
    (ER.next (ES.unpack2 (EVO.of (EV.meth (EV.name rfl rfl) (EVs.two (EV.cStr (l := [61]) rfl) EV.cInt) HasT.str F.plainAttrs_str F.slot_str_split F.type_str_split (BI.split1 (v := []) h (fun x hx => Nat.lt_trans (hc x hx) (by decide)) (by omega)) (by simp))) rfl rfl (Own.dctNe (by decide +kernel)) rfl (Own.dctNe (by decide +kernel)))
      (ER.here (SR.iff (EBR.and (EBR.cmp (EVR.strAt (EV.name rfl rfl) (EV.cInt (i := 0)) (by decide) atNone))))))
end
end Mine

-- F9
namespace Mine

/-- the signs of this law's texts -/
noncomputable abbrev okc (c : Nat) : Prop := 32 ≤ c ∧ c < 127 ∧ c ≠ 92
theorem okc_space {c : Nat} (h : okc c) : Unicode.isSpace c = (c == 32) := by
  have : ∀ c, c < 127 → 32 ≤ c → Unicode.isSpace c = (c == 32) := by decide +kernel
  exact this c h.2.1 h.1

/-- a text without its blanks at both ends -/
noncomputable def stripS (l : List Nat) : List Nat := ((l.dropWhile (· == 32)).reverse.dropWhile (· == 32)).reverse

theorem takeWhile_same {p q : Nat → Bool} : ∀ {l : List Nat}, (∀ c ∈ l, p c = q c) → l.takeWhile p = l.takeWhile q
  | [], _ => rfl
  | a :: r, h => by
    rw [List.takeWhile_cons, List.takeWhile_cons, h a List.mem_cons_self, takeWhile_same fun c hc => h c (List.mem_cons_of_mem _ hc)]
theorem drop_takeWhile {p : Nat → Bool} : ∀ (l : List Nat), l.drop (l.takeWhile p).length = l.dropWhile p
  | [] => rfl
  | a :: r => by
    rw [List.takeWhile_cons, List.dropWhile_cons]
    split
    · rw [List.length_cons, List.drop_succ_cons]; exact drop_takeWhile r
    · rfl
theorem takeWhile_len {p : Nat → Bool} (l : List Nat) : (l.takeWhile p).length ≤ l.length := by
  induction l with
  | nil => exact Nat.le_refl _
  | cons a r ih => rw [List.takeWhile_cons]; split <;> simp <;> omega
theorem back_dropWhile {p : Nat → Bool} (m : List Nat) : (m.reverse.dropWhile p).reverse = m.take (m.length - (m.reverse.takeWhile p).length) := by
  rw [← drop_takeWhile, List.drop_reverse, List.reverse_reverse]

theorem strip_T {l : List Nat} (h : ∀ c ∈ l, okc c) : Txt.strip (T l) = T (stripS l) := by
  have hs : ∀ c ∈ l, Unicode.isSpace c = (c == 32) := fun c hc => okc_space (h c hc)
  have key : PySem.stripped Unicode.isSpace true true (T l) = T (stripS l) := by
    unfold PySem.stripped
    rw [strSubT]
    have e1 : stripLo Unicode.isSpace true (T l) = (l.takeWhile (· == 32)).length := by
      show (l.toArray.toList.takeWhile Unicode.isSpace).length = _
      rw [List.toList_toArray, takeWhile_same hs]
    have hlen := takeWhile_len (p := (· == 32)) l
    have e2 : stripHi Unicode.isSpace true (T l) (l.takeWhile (· == 32)).length = l.length - ((l.dropWhile (· == 32)).reverse.takeWhile (· == 32)).length := by
      show (T l).length - ((l.toArray.toList.drop _).reverse.takeWhile Unicode.isSpace).length = _
      rw [T_length, List.toList_toArray, drop_takeWhile, takeWhile_same (q := (· == 32))]
      intro c hc
      exact hs c ((List.dropWhile_sublist _).subset (List.mem_reverse.mp hc))
    rw [e1, e2]
    unfold stripS
    rw [back_dropWhile, drop_takeWhile]
    congr 2
    have e3 : (l.dropWhile (· == 32)).length = l.length - (l.takeWhile (· == 32)).length := by rw [← drop_takeWhile, List.length_drop]
    rw [e3]; omega
  unfold Txt.strip Txt.stripBy
  split
  · rename_i q
    rw [← key]
    unfold stripSame at q
    simp only [Bool.and_eq_true, beq_iff_eq] at q
    unfold PySem.stripped
    obtain ⟨q1, q2⟩ := q
    rw [q1] at q2 ⊢
    rw [q2, strSubT, T_length]
    simp
  · exact key

noncomputable abbrev HS := Wds × List Nat × Bool
noncomputable def hst (s : HS) (c : Nat) : HS :=
  if s.2.2 then (s.1, s.2.1 ++ [c], c != 34) else if c == 44 then (s.1 ++ [s.2.1], [], false) else (s.1, s.2.1 ++ [c], c == 34)
noncomputable def partsOf (s : HS) : Wds := if s.2.1.isEmpty then s.1 else s.1 ++ [s.2.1]
noncomputable def httpF (t : List Nat) : Wds := (partsOf (t.foldl hst ([], [], false))).map stripS

section
variable {C : Cfg} {n : Nat} {scope sc : Scope} {Γ Γf : Gm}

theorem OP2.eqN {a c : Nat} {b : Bool} (h : (a == c) = b) : OP2 C n (compareOp .Eq) (.str [a]) (.str [c]) (.bool b) := by
  have e : (([a] : List Nat) == [c]) = b := by rw [← h]; simp
  exact OP2.eqB e
theorem EB.bname {x : Str} {pos : Pos} {b : Bool} (hx : Γ.lookup x = some (.bool b)) (hk : sc.kind = .function) (hd : (x == ("__debug__" : Str)) = false := by decide +kernel)
    (hc : (x == ("__classdict__" : Str)) = false := by decide +kernel) : EB C n sc Γ (.Name x pos) b := EB.val (EV.name hx hk hd hc) TR.bool

theorem lenStep {a r c : Nat} {p : List Nat} (h : a + p.length + (r + 1) ≤ 20000) : a + (p ++ [c]).length + r ≤ 20000 := by
  rw [List.length_append, ← Nat.add_assoc, Nat.add_assoc (a + p.length), Nat.add_comm _ r]; exact h
theorem lenCut {r : Nat} {a : Wds} {p : List Nat} (h : a.length + p.length + (r + 1) ≤ 20000) : (a ++ [p]).length + ([] : List Nat).length + r ≤ 20000 := by
  rw [List.length_append]
  show a.length + 1 + 0 + r ≤ 20000
  omega
theorem lenAdd {a r c : Nat} {p : List Nat} (h : a + p.length + (r + 1) ≤ 20000) : p.length + ([c] : List Nat).length ≤ 10000000 := by
  show p.length + 1 ≤ 10000000
  omega
theorem lenRes {a r : Nat} {p : List Nat} (h : a + p.length + (r + 1) ≤ 20000) : a ≤ 10000000 := Nat.le_trans (Nat.le_trans (Nat.le_add_right _ _) (Nat.le_trans (Nat.le_add_right _ _) h)) (by decide)

set_option maxHeartbeats 1000000 in
theorem http_loop : ∀ (t : List Nat) (res : Wds) (part : List Nat) (q : Bool) (Γ : Gm), (∀ c ∈ t, okc c) → res.length + part.length + t.length ≤ 20000 →
    Γ.lookup (Str.ofString "part") = some (.str part) → Γ.lookup (Str.ofString "quote") = some (.bool q) → Γ.lookup (Str.ofString "escape") = some (.bool false) →
    ∃ Γ', Γ'.lookup (Str.ofString "part") = some (.str (t.foldl hst (res, part, q)).2.1) ∧ FL C n (scopeAt 2) (Str.ofString "cur") (forB 2 3) (t.map fun c => .str [c]) Γ (.lst (Str.ofString "res") (res.map .str))
      (.next Γ' (.lst (Str.ofString "res") ((t.foldl hst (res, part, q)).1.map .str)))
  | [], res, part, q, Γ, _, _, g1, _, _ => ⟨Γ, g1, FL.done⟩
  | c :: r, res, part, true, Γ, ht, hl, g1, g2, g3 => by
    simp only [List.length_cons] at hl
    have hc := ht c List.mem_cons_self
    have h92 : (c == 92) = false := by simp; exact hc.2.2
    have e : hst (res, part, true) c = (res, part ++ [c], c != 34) := by simp [hst]
    cases h34 : (c == 34) with
    | true =>
      have e' : hst (res, part, true) c = (res, part ++ [c], false) := by rw [e]; unfold bne; rw [h34]; rfl
      obtain ⟨Γ', g, fl⟩ := http_loop r res (part ++ [c]) false ((Str.ofString "part", .str (part ++ [c])) :: (Str.ofString "quote", .bool false) :: (Str.ofString "cur", .str [c]) :: Γ) (fun x hx => ht x (List.mem_cons_of_mem _ hx)) (lenStep hl) rfl rfl g3
      rw [List.foldl_cons, e']
      refine ⟨Γ', g, FL.cont ?_ (Own.lstNe (by decide +kernel)) fl⟩
      refine EX.cons (ES.iff (c := false) (EBO.of (EB.bname g3 rfl)) (fun q => by cases q) (fun _ => EX.nil)) ?_
      refine EX.cont (ES.iff (c := true) (EBO.of (EB.bname g2 rfl)) (fun _ => ?_) (fun q => by cases q))
      refine EX.cons (ES.iff (c := false) (EBO.of (EB.cmp (EV.name rfl rfl) (EV.cStr (l := [92]) rfl) (OP2.eqN h92))) (fun q => by cases q) (fun _ => EX.cons (ES.iff (c := true) (EBO.of (EB.cmp (EV.name rfl rfl) (EV.cStr (l := [34]) rfl) (OP2.eqN h34))) (fun _ => EX.cons (ES.assign (EVO.of (EV.cBool (b := false))) rfl (.inl rfl) (Own.lstNe (by decide +kernel))) EX.nil) (fun q => by cases q)) EX.nil)) ?_
      exact EX.cons (ES.aug (d₁ := .str part) g1 (EVO.of (EV.name rfl rfl)) (OP2.iaddStr (lenAdd hl)) rfl rfl (Own.lstNe (by decide +kernel))) (EX.cont ES.continue)
    | false =>
      have e' : hst (res, part, true) c = (res, part ++ [c], true) := by rw [e]; unfold bne; rw [h34]; rfl
      obtain ⟨Γ', g, fl⟩ := http_loop r res (part ++ [c]) true ((Str.ofString "part", .str (part ++ [c])) :: (Str.ofString "cur", .str [c]) :: Γ) (fun x hx => ht x (List.mem_cons_of_mem _ hx)) (lenStep hl) rfl g2 g3
      rw [List.foldl_cons, e']
      refine ⟨Γ', g, FL.cont ?_ (Own.lstNe (by decide +kernel)) fl⟩
      refine EX.cons (ES.iff (c := false) (EBO.of (EB.bname g3 rfl)) (fun q => by cases q) (fun _ => EX.nil)) ?_
      refine EX.cont (ES.iff (c := true) (EBO.of (EB.bname g2 rfl)) (fun _ => ?_) (fun q => by cases q))
      refine EX.cons (ES.iff (c := false) (EBO.of (EB.cmp (EV.name rfl rfl) (EV.cStr (l := [92]) rfl) (OP2.eqN h92))) (fun q => by cases q) (fun _ => EX.cons (ES.iff (c := false) (EBO.of (EB.cmp (EV.name rfl rfl) (EV.cStr (l := [34]) rfl) (OP2.eqN h34))) (fun q => by cases q) (fun _ => EX.nil)) EX.nil)) ?_
      exact EX.cons (ES.aug (d₁ := .str part) g1 (EVO.of (EV.name rfl rfl)) (OP2.iaddStr (lenAdd hl)) rfl rfl (Own.lstNe (by decide +kernel))) (EX.cont ES.continue)
  | c :: r, res, part, false, Γ, ht, hl, g1, g2, g3 => by
    simp only [List.length_cons] at hl
    have hc := ht c List.mem_cons_self
    cases h44 : (c == 44) with
    | true =>
      have e' : hst (res, part, false) c = (res ++ [part], [], false) := by simp [hst, h44]
      obtain ⟨Γ', g, fl⟩ := http_loop r (res ++ [part]) [] false ((Str.ofString "part", .str []) :: (Str.ofString "cur", .str [c]) :: Γ) (fun x hx => ht x (List.mem_cons_of_mem _ hx)) (lenCut hl) rfl g2 g3
      rw [List.foldl_cons, e']
      rw [show (res ++ [part]).map D.str = res.map D.str ++ [D.str part] from by simp] at fl
      refine ⟨Γ', g, FL.cont ?_ (Own.lstNe (by decide +kernel)) fl⟩
      refine EX.cons (ES.iff (c := false) (EBO.of (EB.bname g3 rfl)) (fun q => by cases q) (fun _ => EX.nil)) ?_
      refine EX.cons (ES.iff (c := false) (EBO.of (EB.bname g2 rfl)) (fun q => by cases q) (fun _ => EX.nil)) ?_
      refine EX.cont (ES.iff (c := true) (EBO.of (EB.cmp (EV.name rfl rfl) (EV.cStr (l := [44]) rfl) (OP2.eqN h44))) (fun _ => ?_) (fun q => by cases q))
      exact EX.cons (ES.append (EVO.of (EV.name g1 rfl)) rfl (by rw [List.length_map]; exact lenRes hl)) (EX.cons (ES.assign (EVO.of (EV.cStr (l := []) rfl)) rfl (.inl rfl) (Own.lstNe (by decide +kernel))) (EX.cont ES.continue))
    | false =>
      have e : hst (res, part, false) c = (res, part ++ [c], c == 34) := by simp [hst, h44]
      cases h34 : (c == 34) with
      | true =>
        obtain ⟨Γ', g, fl⟩ := http_loop r res (part ++ [c]) true ((Str.ofString "part", .str (part ++ [c])) :: (Str.ofString "quote", .bool true) :: (Str.ofString "cur", .str [c]) :: Γ) (fun x hx => ht x (List.mem_cons_of_mem _ hx)) (lenStep hl) rfl rfl g3
        rw [List.foldl_cons, e, h34]
        refine ⟨Γ', g, FL.next ?_ (Own.lstNe (by decide +kernel)) fl⟩
        refine EX.cons (ES.iff (c := false) (EBO.of (EB.bname g3 rfl)) (fun q => by cases q) (fun _ => EX.nil)) ?_
        refine EX.cons (ES.iff (c := false) (EBO.of (EB.bname g2 rfl)) (fun q => by cases q) (fun _ => EX.nil)) ?_
        refine EX.cons (ES.iff (c := false) (EBO.of (EB.cmp (EV.name rfl rfl) (EV.cStr (l := [44]) rfl) (OP2.eqN h44))) (fun q => by cases q) (fun _ => EX.nil)) ?_
        refine EX.cons (ES.iff (c := true) (EBO.of (EB.cmp (EV.name rfl rfl) (EV.cStr (l := [34]) rfl) (OP2.eqN h34))) (fun _ => EX.cons (ES.assign (EVO.of (EV.cBool (b := true))) rfl (.inl rfl) (Own.lstNe (by decide +kernel))) EX.nil) (fun q => by cases q)) ?_
        exact EX.cons (ES.aug (d₁ := .str part) g1 (EVO.of (EV.name rfl rfl)) (OP2.iaddStr (lenAdd hl)) rfl rfl (Own.lstNe (by decide +kernel))) EX.nil
      | false =>
        obtain ⟨Γ', g, fl⟩ := http_loop r res (part ++ [c]) false ((Str.ofString "part", .str (part ++ [c])) :: (Str.ofString "cur", .str [c]) :: Γ) (fun x hx => ht x (List.mem_cons_of_mem _ hx)) (lenStep hl) rfl g2 g3
        rw [List.foldl_cons, e, h34]
        refine ⟨Γ', g, FL.next ?_ (Own.lstNe (by decide +kernel)) fl⟩
        refine EX.cons (ES.iff (c := false) (EBO.of (EB.bname g3 rfl)) (fun q => by cases q) (fun _ => EX.nil)) ?_
        refine EX.cons (ES.iff (c := false) (EBO.of (EB.bname g2 rfl)) (fun q => by cases q) (fun _ => EX.nil)) ?_
        refine EX.cons (ES.iff (c := false) (EBO.of (EB.cmp (EV.name rfl rfl) (EV.cStr (l := [44]) rfl) (OP2.eqN h44))) (fun q => by cases q) (fun _ => EX.nil)) ?_
        refine EX.cons (ES.iff (c := false) (EBO.of (EB.cmp (EV.name rfl rfl) (EV.cStr (l := [34]) rfl) (OP2.eqN h34))) (fun q => by cases q) (fun _ => EX.nil)) ?_
        exact EX.cons (ES.aug (d₁ := .str part) g1 (EVO.of (EV.name rfl rfl)) (OP2.iaddStr (lenAdd hl)) rfl rfl (Own.lstNe (by decide +kernel))) EX.nil

theorem hst_ok {t : List Nat} : ∀ {s : HS}, (∀ c ∈ t, okc c) → (∀ p ∈ s.1, ∀ c ∈ p, okc c) → (∀ c ∈ s.2.1, okc c) → (∀ p ∈ (t.foldl hst s).1, ∀ c ∈ p, okc c) ∧ ∀ c ∈ (t.foldl hst s).2.1, okc c := by
  induction t with
  | nil => intro s _ h1 h2; exact ⟨h1, h2⟩
  | cons a r ih =>
    intro s h0 h1 h2
    rw [List.foldl_cons]
    have ha := h0 a List.mem_cons_self
    have h3 : ∀ c ∈ s.2.1 ++ [a], okc c := fun c hc => by
      rcases List.mem_append.mp hc with q | q
      · exact h2 c q
      · rw [List.mem_singleton.mp q]; exact ha
    refine ih (fun c hc => h0 c (List.mem_cons_of_mem _ hc)) ?_ ?_
    · unfold hst
      split
      · exact h1
      · split
        · intro p hp
          rcases List.mem_append.mp hp with q | q
          · exact h1 p q
          · rw [List.mem_singleton.mp q]; exact h2
        · exact h1
    · unfold hst
      split
      · exact h3
      · split
        · intro c hc; cases hc
        · exact h3
theorem hst_one {s : HS} {a m : Nat} (h1 : ∀ p ∈ s.1, p.length ≤ m) (h2 : s.2.1.length ≤ m) : (∀ p ∈ (hst s a).1, p.length ≤ m + 1) ∧ (hst s a).2.1.length ≤ m + 1 ∧ (hst s a).1.length ≤ s.1.length + 1 := by
  have h3 : (s.2.1 ++ [a]).length ≤ m + 1 := by rw [List.length_append]; exact Nat.succ_le_succ h2
  have h4 : ∀ p ∈ s.1, p.length ≤ m + 1 := fun p hp => Nat.le_succ_of_le (h1 p hp)
  unfold hst
  split
  · exact ⟨h4, h3, Nat.le_succ _⟩
  · split
    · refine ⟨fun p hp => (List.mem_append.mp hp).elim (h4 p) fun q => ?_, Nat.zero_le _, Nat.le_of_eq List.length_append⟩
      rw [List.mem_singleton.mp q]; exact Nat.le_succ_of_le h2
    · exact ⟨h4, h3, Nat.le_succ _⟩
theorem hst_len {t : List Nat} : ∀ {s : HS} {m : Nat}, (∀ p ∈ s.1, p.length ≤ m) → s.2.1.length ≤ m → (∀ p ∈ (t.foldl hst s).1, p.length ≤ m + t.length) ∧ (t.foldl hst s).2.1.length ≤ m + t.length ∧ (t.foldl hst s).1.length ≤ s.1.length + t.length := by
  induction t with
  | nil => intro s m h1 h2; exact ⟨h1, h2, Nat.le_refl _⟩
  | cons a r ih =>
    intro s m h1 h2
    obtain ⟨g1, g2, g3⟩ := hst_one (a := a) h1 h2
    have h := ih (s := hst s a) g1 g2
    have e : m + 1 + r.length = m + (a :: r).length := by rw [List.length_cons, Nat.add_assoc, Nat.add_comm 1]
    rw [e] at h
    exact ⟨h.1, h.2.1, Nat.le_trans h.2.2 (by rw [List.length_cons, Nat.add_comm r.length, ← Nat.add_assoc]; exact Nat.add_le_add_right g3 _)⟩

theorem parts_ok {t : List Nat} (h : ∀ c ∈ t, okc c) : ∀ p ∈ partsOf (t.foldl hst ([], [], false)), (∀ c ∈ p, okc c) ∧ p.length ≤ t.length := by
  have h1 := hst_ok (s := ([], [], false)) h (fun p hp => by cases hp) (fun c hc => by cases hc)
  have h2 := hst_len (t := t) (s := ([], [], false)) (m := 0) (fun p hp => by cases hp) (Nat.le_refl _)
  intro p hp
  unfold partsOf at hp
  split at hp
  · exact ⟨h1.1 p hp, Nat.zero_add t.length ▸ h2.1 p hp⟩
  · rcases List.mem_append.mp hp with q | q
    · exact ⟨h1.1 p q, Nat.zero_add t.length ▸ h2.1 p q⟩
    · rw [List.mem_singleton.mp q]; exact ⟨h1.2, Nat.zero_add t.length ▸ h2.2.1⟩
theorem parts_len (t : List Nat) : (partsOf (t.foldl hst ([], [], false))).length ≤ t.length + 1 := by
  have h2 := hst_len (t := t) (s := ([], [], false)) (m := 0) (fun p hp => by cases hp) (Nat.le_refl _)
  have h3 : (t.foldl hst ([], [], false)).1.length ≤ t.length := Nat.zero_add t.length ▸ h2.2.2
  unfold partsOf
  split
  · exact Nat.le_succ_of_le h3
  · rw [List.length_append]; exact Nat.succ_le_succ h3

theorem fn_http (P : Prg C) {t : List Nat} (h : ∀ c ∈ t, okc c) (hl : t.length ≤ 19000) : FN C (n + 1) 26 [.str t] (.list ((httpF t).map .str)) := by
  refine FN.of P.f_http rfl ?_
  obtain ⟨Γ', g, fl⟩ := http_loop (C := C) (n := n) t [] [] false ((Str.ofString "quote", .bool false) :: (Str.ofString "escape", .bool false) :: (Str.ofString "part", .str []) :: (paramsAt 2).zip [.str t]) h (by rw [List.length_nil, List.length_nil, Nat.zero_add]; exact Nat.le_trans hl (by decide)) rfl rfl rfl
  have hp := parts_ok h
  have hpl := parts_len t
  have h2 := (hst_len (t := t) (s := ([], [], false)) (m := 0) (fun p hp => by cases hp) (Nat.le_refl _)).2
  refine EX.cons (ES.newList rfl rfl rfl) (EX.cons (ES.assign (EVO.of (EV.cStr (l := []) rfl)) rfl (.inl rfl) (Own.lstNe (by decide +kernel))) (EX.cons (ES.assign2 (EVO.of (EV.cBool (b := false))) rfl (.inl rfl) (Own.lstNe (by decide +kernel)) (.inl rfl) (Own.lstNe (by decide +kernel)))
    (EX.cons (ES.for (EI.of (EV.name rfl rfl) (ITER.str fun c hc => Nat.lt_trans (h c hc).2.1 (by decide))) rfl rfl fl) ?_)))
  unfold httpF
  generalize hs : t.foldl hst ([], [], false) = s at *
  have last : ∀ Γ₂ : Gm, EX C n (scopeAt 2) ((Str.ofString "res", .list ((partsOf s).map .str)) :: Γ₂) .none ((bodyAt 2).drop 5) (.ret (.list (((partsOf s).map stripS).map .str))) := by
    intro Γ₂
    rw [List.map_map]
    refine EX.ret (ES.ret (EVO.of (EV.comp (Γf := []) (EI.of (EV.name rfl rfl) ITER.list) (CL.map (g := D.str ∘ stripS) (fun w hw => ?_) rfl rfl) rfl (Seen.none (by decide +kernel)) (by simp; omega) (by decide +kernel))))
    exact EV.meth (EV.name rfl rfl) EVs.nil HasT.str F.plainAttrs_str F.slot_str_strip F.type_str_strip (BI.strip (Nat.le_trans (hp w hw).2 (Nat.le_trans hl (by decide))) (strip_T (hp w hw).1)) (by simp)
  cases hpart : s.2.1 with
  | nil =>
    have e : partsOf s = s.1 := by unfold partsOf; rw [hpart]; rfl
    rw [hpart] at g
    refine EX.cons (ES.iff (c := false) (EBO.of (EB.val (EV.name g rfl) (TR.str (by simp)))) (fun q => by cases q) (fun _ => EX.nil)) ?_
    have := last Γ'
    rw [e] at this
    rw [e]
    exact EX.freeze this
  | cons a r =>
    have e : partsOf s = s.1 ++ [a :: r] := by unfold partsOf; rw [hpart]; rfl
    rw [hpart] at g
    have hl2 := h2.1
    have hl3 := h2.2
    rw [hpart] at hl2
    simp only [List.length_nil] at hl3
    refine EX.cons (ES.iff (c := true) (EBO.of (EB.val (EV.name g rfl) (TR.str (l := a :: r) (by omega)))) (fun _ => EX.cons (ES.append (EVO.of (EV.name g rfl)) rfl (by simp; omega)) EX.nil) (fun q => by cases q)) ?_
    have := last Γ'
    rw [e] at this
    rw [e]
    have e2 : s.1.map D.str ++ [D.str (a :: r)] = (s.1 ++ [a :: r]).map D.str := by simp
    rw [e2]
    exact EX.freeze this
end
end Mine

-- F10
namespace Mine

noncomputable def signsL : List Nat := [33, 37, 38, 40, 41, 42, 43, 44, 45, 46, 47, 58, 59, 60, 61, 62, 64, 91, 93, 94, 123, 124, 125, 126, 61, 61, 44, 32, 97, 98, 97, 98]
noncomputable def frontL : List Nat := [97, 47, 47, 61, 98, 44, 32, 98, 61, 61, 97, 44, 32, 98, 61, 98, 44, 32, 97, 32, 44, 58, 61]

noncomputable def sg (n : Int) : Nat := signsL.getD (n.fmod 32).toNat 0
noncomputable def kinds (c : Nat) : Wds := [[c], [c, 61], [c, c, 61], [97, c, 61, 98, 44]]
noncomputable def piece (n : Int) : List Nat := (kinds (sg n)).getD ((n.fmod 128).fdiv 32).toNat []
noncomputable def textF (ns : List Int) : List Nat := (ns.take 12).foldl (fun t n => t ++ piece n) frontL

theorem fmod_nat (n : Int) (m : Nat) (hm : 0 < m) : ∃ j : Nat, n.fmod m = (j : Int) ∧ j < m := by
  have h0 : (0 : Int) < m := by omega
  have h1 := Int.fmod_nonneg_of_pos n h0
  have h2 := Int.fmod_lt_of_pos n h0
  exact ⟨(n.fmod m).toNat, by omega, by omega⟩
theorem piece_idx (n : Int) : ∃ j k : Nat, n.fmod 128 = (j : Int) ∧ j < 128 ∧ (n.fmod 128).fdiv 32 = (k : Int) ∧ k < 4 := by
  obtain ⟨j, h1, h2⟩ := fmod_nat n 128 (by decide)
  have h1 : n.fmod 128 = (j : Int) := h1
  refine ⟨j, j / 32, h1, h2, ?_, by omega⟩
  rw [h1]
  have : ∀ j : Nat, j < 128 → (j : Int).fdiv 32 = ((j / 32 : Nat) : Int) := by decide +kernel
  exact this j h2
theorem sg_at (n : Int) : ∃ j : Nat, n.fmod 32 = (j : Int) ∧ j < 32 ∧ signsL[j]? = some (sg n) := by
  obtain ⟨j, h1, h2⟩ := fmod_nat n 32 (by decide)
  have h1 : n.fmod 32 = (j : Int) := h1
  refine ⟨j, h1, h2, ?_⟩
  unfold sg
  rw [h1, Int.toNat_natCast, List.getD_eq_getElem?_getD, List.getElem?_eq_getElem (by simpa [signsL] using h2)]; rfl
theorem piece_at (n : Int) : ∃ k : Nat, (n.fmod 128).fdiv 32 = (k : Int) ∧ k < 4 ∧ (kinds (sg n))[k]? = some (piece n) := by
  obtain ⟨j, k, _, _, h3, h4⟩ := piece_idx n
  refine ⟨k, h3, h4, ?_⟩
  unfold piece
  rw [h3, Int.toNat_natCast, List.getD_eq_getElem?_getD, List.getElem?_eq_getElem (by simpa [kinds] using h4)]; rfl

/-- a sign of the first text -/
noncomputable abbrev gc (c : Nat) : Prop := okc c ∧ c ≠ 34
theorem sg_ok (n : Int) : gc (sg n) := by
  obtain ⟨j, _, _, h⟩ := sg_at n
  have : ∀ c ∈ signsL, gc c := by decide +kernel
  exact this _ (List.mem_of_getElem? h)
theorem piece_ok (n : Int) : (∀ c ∈ piece n, gc c) ∧ (piece n).length ≤ 5 := by
  obtain ⟨k, _, _, h⟩ := piece_at n
  have h := List.mem_of_getElem? h
  have hs := sg_ok n
  have h61 : gc 61 := by decide
  have h97 : gc 97 := by decide
  have h98 : gc 98 := by decide
  have h44 : gc 44 := by decide
  simp only [kinds, List.mem_cons, List.not_mem_nil, or_false] at h
  rcases h with e | e | e | e <;> rw [e] <;> refine ⟨?_, by simp⟩ <;> simp only [List.forall_mem_cons, List.not_mem_nil, false_implies, implies_true, and_true]
  · exact hs
  · exact ⟨hs, h61⟩
  · exact ⟨hs, hs, h61⟩
  · exact ⟨h97, hs, h61, h98, h44⟩
theorem text_ok (ns : List Int) : (∀ c ∈ textF ns, gc c) ∧ (textF ns).length ≤ 83 := by
  have key : ∀ (l : List Int) (t : List Nat) (m : Nat), (∀ c ∈ t, gc c) → t.length ≤ m → (∀ c ∈ l.foldl (fun t n => t ++ piece n) t, gc c) ∧ (l.foldl (fun t n => t ++ piece n) t).length ≤ m + 5 * l.length := by
    intro l
    induction l with
    | nil => intro t m h1 h2; exact ⟨h1, by simpa using h2⟩
    | cons a r ih =>
      intro t m h1 h2
      rw [List.foldl_cons]
      have hp := piece_ok a
      have := ih (t ++ piece a) (m + 5) (fun c hc => (List.mem_append.mp hc).elim (h1 c) (hp.1 c)) (by rw [List.length_append]; omega)
      exact ⟨this.1, by have := this.2; simp only [List.length_cons]; omega⟩
  have := key (ns.take 12) frontL 23 (by decide +kernel) (by decide)
  have hl : (ns.take 12).length ≤ 12 := by simp; omega
  exact ⟨this.1, by have := this.2; unfold textF; omega⟩

section
variable {C : Cfg} {n : Nat} {scope sc : Scope} {Γ Γf : Gm}

theorem EVs.four {e1 e2 e3 e4 : Expr} {d1 d2 d3 d4 : D} (h1 : EV C n sc Γ e1 d1) (h2 : EV C n sc Γ e2 d2) (h3 : EV C n sc Γ e3 d3) (h4 : EV C n sc Γ e4 d4) (s1 : starred e1 = false := by rfl) (s2 : starred e2 = false := by rfl) (s3 : starred e3 = false := by rfl) (s4 : starred e4 = false := by rfl) :
    EVs C n sc Γ [e1, e2, e3, e4] [d1, d2, d3, d4] := .cons h1 (.cons h2 (EVs.two h3 h4 s3 s4) (star_cons s2)) (star_cons s1)

theorem pylong_no {a : Int} {j : Nat} (h : a = (j : Int)) (hj : j < 128) : Builtin.divisionGoesByPylong a 32 = false := by
  subst h
  have : ∀ j : Nat, j < 128 → Builtin.divisionGoesByPylong (j : Int) 32 = false := by decide +kernel
  exact this j hj

theorem text_loop : ∀ (ns : List Int) (t : List Nat) (Γ : Gm), t.length + 5 * ns.length ≤ 1000 → Γ.lookup (Str.ofString "signs") = some (.str signsL) → Γ.lookup (Str.ofString "text") = some (.str t) →
    ∃ Γ', Γ'.lookup (Str.ofString "text") = some (.str (ns.foldl (fun t n => t ++ piece n) t)) ∧ FL C n (scopeAt 53) (Str.ofString "n") (forB 53 2) (ns.map .int) Γ .none (.next Γ' .none)
  | [], t, Γ, _, _, g2 => ⟨Γ, g2, FL.done⟩
  | a :: r, t, Γ, hl, g1, g2 => by
    simp only [List.length_cons] at hl
    have hp := piece_ok a
    obtain ⟨j, hj, hj32, hat⟩ := sg_at a
    obtain ⟨k, hk, hk4, hkat⟩ := piece_at a
    obtain ⟨i, _, hi, hi128, _⟩ := piece_idx a
    obtain ⟨Γ', g, fl⟩ := text_loop r (t ++ piece a) ((Str.ofString "text", .str (t ++ piece a)) :: (Str.ofString "sign", .str [sg a]) :: (Str.ofString "n", .int a) :: Γ) (by rw [List.length_append]; omega) g1 rfl
    refine ⟨Γ', g, FL.next ?_ Own.noneNe fl⟩
    have hat' : (seqIndex? (a.fmod 32) signsL.length).bind (signsL[·]?) = some (sg a) := by rw [hj]; exact atNat hat
    refine EX.cons (ES.assign (EVO.of (EV.strAt (c := sg a) (EV.name g1 rfl) (EV.bin (EV.name (d := .int a) rfl rfl) (EV.cInt (i := 32)) (OP2.modInt (by decide))) (by rw [hj]; omega) hat')) rfl (.inl rfl) Own.noneNe) ?_
    refine EX.cons (ES.assign (EVO.of (EV.bin (d₂ := .str (piece a)) (EV.name g2 rfl) (EV.tupAt (ds := (kinds (sg a)).map .str)
      (EV.tuple (EVs.four (EV.name rfl rfl) (EV.bin (EV.name rfl rfl) (EV.cStr (l := [61]) rfl) (OP2.addStr (by simp))) (EV.bin (EV.bin (EV.name rfl rfl) (EV.name rfl rfl) (OP2.addStr (by simp))) (EV.cStr (l := [61]) rfl) (OP2.addStr (by simp))) (EV.bin (EV.bin (EV.cStr (l := [97]) rfl) (EV.name rfl rfl) (OP2.addStr (by simp))) (EV.cStr (l := [61, 98, 44]) rfl) (OP2.addStr (by simp)))) (by simp [kinds]))
      (EV.bin (EV.bin (EV.name (d := .int a) rfl rfl) (EV.cInt (i := 128)) (OP2.modInt (by decide))) (EV.cInt (i := 32)) (OP2.divInt (by decide) (pylong_no hi hi128))) (by rw [hk]; omega) (by rw [hk]; omega) (by rw [hk, Int.toNat_natCast, List.getElem?_map, hkat]; rfl)) (OP2.addStr (by omega)))) rfl (.inl rfl) Own.noneNe) EX.nil

theorem fn_text (P : Prg C) {ns : List Int} (hl : ns.length ≤ 1000) : FN C (n + 1) 36 [.list (ns.map .int)] (.str (textF ns)) := by
  refine FN.of P.f_text rfl ?_
  obtain ⟨Γ', g, fl⟩ := text_loop (C := C) (n := n) (ns.take 12) frontL ((Str.ofString "text", .str frontL) :: (Str.ofString "signs", .str signsL) :: (paramsAt 53).zip [.list (ns.map .int)]) (by simp [frontL]; omega) rfl rfl
  refine EX.cons (ES.assign (EVO.of (EV.cStr (l := signsL) (by decide +kernel))) rfl (.inl rfl) Own.noneNe) (EX.cons (ES.assign (EVO.of (EV.cStr (l := frontL) (by decide +kernel))) rfl (.inl rfl) Own.noneNe) (EX.cons (ES.for (EI.of (EV.lcutTo (i := 12) (es := (ns.take 12).map .int) (by rw [List.map_take]) (EV.name rfl rfl) (EV.cInt (i := 12)) rfl (by simp; omega)) ITER.list) rfl rfl fl) (EX.ret (ES.ret (EVO.of (EV.name g rfl))))))
end
end Mine

-- Pu3
namespace Mine

/-- the words of key, sign, value, glued -/
noncomputable def glue (k v : List Nat) : Wds :=
  match (wd k).getLast? with
  | some w => if isTok (w ++ [61]) then (wd k).dropLast ++ [w ++ [61]] ++ wd v else if v.take 1 == [61] then wd k ++ [[61, 61]] ++ wd (v.drop 1) else wd k ++ [[61]] ++ wd v
  | none => if v.take 1 == [61] then wd k ++ [[61, 61]] ++ wd (v.drop 1) else wd k ++ [[61]] ++ wd v

theorem tok61 (x y : Nat) : isTok [61, x, y] = false := by
  rw [tok3, show dbl.contains 61 = false from rfl, Bool.and_false, Bool.and_false]; rfl
theorem tok16 {c : Nat} (hc : c ≠ 61) (z : Nat) : isTok [c, 61, z] = false := by
  rw [tok3, show ((61 : Nat) == 46) = false from rfl, Bool.and_false, beq_eq_false_iff_ne.mpr (Ne.symm hc), Bool.false_and, Bool.false_and, Bool.and_false]; rfl
theorem tokc6 (c x : Nat) : isTok [c, x, 61] = (x == c && dbl.contains c) := by
  rw [tok3, show ((61 : Nat) == 46) = false from rfl, Bool.and_false]; rfl
theorem wd61 (v : List Nat) : wd (61 :: v) = if v.take 1 == [61] then [[61, 61]] ++ wd (v.drop 1) else [[61]] ++ wd v := by
  have t2 : ∀ x, isTok [61, x] = (x == 61) := fun x => by
    rw [tok2, show dbl.contains 61 = false from rfl, Bool.and_false, show eqs.contains 61 = true from rfl, Bool.and_true]; rfl
  have t1 : isTok [61] = true := by decide
  rw [wd_cons]
  rcases v with _ | ⟨x, _ | ⟨y, v⟩⟩
  · decide
  · have e : lng [61, x] = if x == 61 then [61, 61] else [61] := by
      unfold lng
      simp only [List.take_succ_cons, List.take_nil, List.take_zero, t2]
      cases h : (x == 61)
      · rfl
      · simp only [if_true]; rw [beq_iff_eq.mp h]
    rw [e]
    cases h : (x == 61)
    · simp [h]
    · rw [beq_iff_eq.mp h]; simp
  · have e : lng (61 :: x :: y :: v) = if x == 61 then [61, 61] else [61] := by
      unfold lng
      simp only [List.take_succ_cons, List.take_zero, t2, tok61]
      cases h : (x == 61)
      · rfl
      · simp only [if_true]; rw [beq_iff_eq.mp h]; rfl
    rw [e]
    cases h : (x == 61)
    · simp [h]
    · rw [beq_iff_eq.mp h]; simp

theorem tokLong {w : List Nat} (h : 4 ≤ w.length) : isTok w = false := by
  rw [← Bool.not_eq_true]
  intro z
  have hm : w ∈ rowL := by simpa [isTok] using z
  have : ∀ u ∈ rowL, u.length ≤ 3 := by decide
  have := this w hm
  omega

/-- a word before: the glue is its rest's -/
theorem glue_cons {w : List Nat} {k k' v : List Nat} (hk : wd k = w :: wd k') (h : wd k' ≠ [] ∨ isTok (w ++ [61]) = false) : glue k v = w :: glue k' v := by
  unfold glue
  rw [hk]
  cases h' : wd k' with
  | nil =>
    have ht := h.resolve_left fun q => q h'
    simp only [List.getLast?_singleton, ht, List.getLast?_nil]
    simp only [Bool.false_eq_true, if_false]
    split <;> rfl
  | cons a r =>
    rw [List.getLast?_cons_cons]
    cases hl : (a :: r).getLast? with
    | none => simp at hl
    | some u =>
      simp only
      split
      · rfl
      · split <;> rfl

theorem wd_glue (v : List Nat) (k : List Nat) : 61 ∉ k → wd (k ++ 61 :: v) = glue k v := by
  refine wd_ind (P := fun k => 61 ∉ k → wd (k ++ 61 :: v) = glue k v) ?_ ?_ k
  · intro _
    rw [List.nil_append, wd61]
    unfold glue
    simp [wd_nil]
  · intro c r ih hk
    have hc : c ≠ 61 := fun q => hk (by rw [q]; exact List.mem_cons_self)
    have hrest : 61 ∉ (c :: r).drop (lng (c :: r)).length := fun q => hk (List.mem_of_mem_drop q)
    -- the usual step: the first word is the same
    have usual : lng ((c :: r) ++ 61 :: v) = lng (c :: r) → (wd ((c :: r).drop (lng (c :: r)).length) ≠ [] ∨ isTok (lng (c :: r) ++ [61]) = false) → wd ((c :: r) ++ 61 :: v) = glue (c :: r) v := by
      intro h1 h2
      rw [glue_cons (wd_cons c r) h2, ← ih hrest, List.cons_append, wd_cons, ← List.cons_append, h1, List.drop_append_of_le_length (lng_pre (c :: r)).2]
    rcases r with _ | ⟨x, _ | ⟨y, r⟩⟩
    · -- one sign
      have e1 : lng [c] = [c] := by unfold lng; simp
      cases t : isTok [c, 61] with
      | false =>
        refine usual ?_ (.inr (by rw [e1]; exact t))
        rw [e1]
        rcases v with _ | ⟨z, v⟩
        · unfold lng; simp [t]
        · have t3 := tok16 hc z
          unfold lng; simp [t, t3]
      | true =>
        have e2 : lng ([c] ++ 61 :: v) = [c, 61] := by
          rcases v with _ | ⟨z, v⟩
          · unfold lng; simp [t]
          · have t3 := tok16 hc z
            unfold lng; simp [t, t3]
        have e3 : wd [c] = [[c]] := by rw [wd_cons, e1]; rfl
        rw [List.cons_append, wd_cons, ← List.cons_append, e2]
        unfold glue
        rw [e3]
        simp [t]
    · -- two signs
      have hx : x ≠ 61 := fun q => hk (by rw [q]; simp)
      cases t : isTok [c, x, 61] with
      | true =>
        have t2 : isTok [c, x] = true := by rw [tok2, ← tokc6, t, Bool.true_or, Bool.or_true]
        have e1 : lng [c, x] = [c, x] := by unfold lng; simp [t2]
        have e2 : lng ([c, x] ++ 61 :: v) = [c, x, 61] := by unfold lng; simp [t]
        have e3 : wd [c, x] = [[c, x]] := by rw [wd_cons, e1]; rfl
        rw [List.cons_append, wd_cons, ← List.cons_append, e2]
        unfold glue
        rw [e3]
        simp [t]
      | false =>
        cases t2 : isTok [c, x] with
        | true =>
          have e1 : lng [c, x] = [c, x] := by unfold lng; simp [t2]
          refine usual ?_ (.inr (by rw [e1]; exact t))
          rw [e1]; unfold lng; simp [t, t2]
        | false =>
          have e1 : lng [c, x] = [c] := by unfold lng; simp [t2]
          refine usual ?_ (.inl ?_)
          · rw [e1]; unfold lng; simp [t, t2]
          · rw [e1]; show wd [x] ≠ []; rw [wd_cons]; simp
    · -- three and more
      refine usual (by unfold lng; rfl) ?_
      by_cases hl : (lng (c :: x :: y :: r)).length = 3
      · right; exact tokLong (by rw [List.length_append, hl]; simp)
      · left
        have h3 := lng_len3 (c :: x :: y :: r)
        intro q
        have hne : (c :: x :: y :: r).drop (lng (c :: x :: y :: r)).length ≠ [] := by
          intro z
          have := congrArg List.length z
          simp only [List.length_drop, List.length_cons, List.length_nil] at this
          omega
        cases z : (c :: x :: y :: r).drop (lng (c :: x :: y :: r)).length with
        | nil => exact hne z
        | cons a b => rw [z, wd_cons] at q; cases q
end Mine

-- F11
namespace Mine

theorem tg_tok {w : List Nat} (h : isTok w = true) : tgF w = some (num w) := by unfold tgF num; rw [if_pos h, if_pos h]

section
variable {C : Cfg} {n : Nat} {scope sc : Scope} {Γ Γf : Gm}

theorem EV.glue3 {e1 e2 e3 : Expr} {p1 p2 p3 : Pos} {xs ys : Wds} {w : List Nat} (h1 : EV C n sc Γ e1 (.list (xs.map pd))) (h2 : EV C n sc Γ e2 (pd w)) (h3 : EV C n sc Γ e3 (.list (ys.map pd))) (hl : xs.length + ys.length ≤ 5000) (hs : starred e2 = false := by rfl) :
    EV C n sc Γ (.BinOp (.BinOp e1 .Add (.List [e2] p1) p2) .Add e3 p3) (rD (xs ++ [w] ++ ys)) := by
  have e : rD (xs ++ [w] ++ ys) = .list ((xs.map pd ++ [pd w]) ++ ys.map pd) := by unfold rD; simp
  rw [e]
  exact EV.bin (EV.bin h1 (EV.list (EVs.one h2 hs) (by simp)) (OP2.addList (by simp; omega))) h3 (OP2.addList (by simp; omega))

/-- e[:-1] -/
theorem EV.lcutLast {e : Expr} {q p1 p pos : Pos} {k : Nat} {ds es : List D} (hu : ds.dropLast = es) (he : EV C n sc Γ e (.list ds)) (hsz : ds.length ≤ 1000) : EV C n sc Γ (.Subscript e (.Slice none (some (.UnaryOp .USub (.Constant (.int 1) k p1) q)) none p) pos) (.list es) := by
  subst hu
  have := EV.listCut (p := p) (pos := pos) he .none (.some (EV.neg1 (i := 1) (k := k) (p := p1) (pos := q))) (by omega)
  rw [sl_butLast] at this; exact this

theorem getLast_pd {ws : Wds} {w : List Nat} (h : ws.getLast? = some w) : (ws.map pd).getLast? = some (pd w) := by
  rw [List.getLast?_map, h]; rfl

theorem fn_glued (P : Prg C) {k v : List Nat} (hk : k.length ≤ 900) (hv : v.length ≤ 900) : FN C (n + 4) 86 [.str k, .str v] (rD (glue k v)) := by
  refine FN.of P.f_glued rfl ?_
  have hwk := wd_length k
  have hwv := wd_length v
  have hwv1 := wd_length (v.drop 1)
  have hd1 : (v.drop 1).length ≤ v.length := by simp
  refine EX.cons (ES.assign (d := .list ((wd k).map pd)) (EVO.of (EV.callF (EV.glob P.g_by_table rfl rfl) (EVs.one (EV.name rfl rfl)) (fn_byTable P (by omega)) P.f_by_table.fd)) rfl (.inl rfl) Own.noneNe) ?_
  -- the two last ways
  have rest : EX C (n + 3) (scopeAt 61) ((Str.ofString "front", .list ((wd k).map pd)) :: (paramsAt 61).zip [.str k, .str v]) .none ((bodyAt 61).drop 2) (.ret (rD (if v.take 1 == [61] then wd k ++ [[61, 61]] ++ wd (v.drop 1) else wd k ++ [[61]] ++ wd v))) := by
    cases h : (v.take 1 == [61]) with
    | true =>
      rw [if_pos rfl]
      refine EX.ret (ES.iff (c := true) (EBO.of (EB.cmp (EV.cutTo (i := 1) (u := v.take 1) rfl (EV.name rfl rfl) (EV.cInt (i := 1)) rfl (by omega)) (EV.cStr (l := [61]) rfl) (OP2.eqB h))) (fun _ => ?_) (fun q => by cases q))
      exact EX.ret (ES.ret (EVO.of (EV.glue3 (EV.name rfl rfl) (EV.tuple (EVs.two (EV.tabItem P.tab (EV.glob P.g_tab rfl rfl) (EV.cStr (l := [61, 61]) rfl) (tg_tok rfl)) (EV.cStr (l := [61, 61]) rfl)) (by simp))
        (EV.callF (EV.glob P.g_by_table rfl rfl) (EVs.one (EV.cutFrom (i := 1) (u := v.drop 1) rfl (EV.name rfl rfl) (EV.cInt (i := 1)) rfl (by omega))) (fn_byTable P (by omega)) P.f_by_table.fd) (by omega))))
    | false =>
      rw [if_neg (by decide)]
      refine EX.cons (ES.iff (c := false) (EBO.of (EB.cmp (EV.cutTo (i := 1) (u := v.take 1) rfl (EV.name rfl rfl) (EV.cInt (i := 1)) rfl (by omega)) (EV.cStr (l := [61]) rfl) (OP2.eqB h))) (fun q => by cases q) (fun _ => EX.nil)) ?_
      exact EX.ret (ES.ret (EVO.of (EV.glue3 (EV.name rfl rfl) (EV.tuple (EVs.two (EV.tabItem P.tab (EV.glob P.g_tab rfl rfl) (EV.cStr (l := [61]) rfl) (tg_tok rfl)) (EV.cStr (l := [61]) rfl)) (by simp))
        (EV.callF (EV.glob P.g_by_table rfl rfl) (EVs.one (EV.name rfl rfl)) (fn_byTable P (by omega)) P.f_by_table.fd) (by omega))))
  cases hw : (wd k).getLast? with
  | none =>
    have eg : glue k v = (if v.take 1 == [61] then wd k ++ [[61, 61]] ++ wd (v.drop 1) else wd k ++ [[61]] ++ wd v) := by unfold glue; rw [hw]
    rw [eg]
    have h0 : wd k = [] := List.getLast?_eq_none_iff.mp hw
    refine EX.cons (ES.iff (c := false) (EBO.of (EB.and (.ff (EB.val (EV.name rfl rfl) (by rw [h0]; exact TR.list (by simp)))))) (fun q => by cases q) (fun _ => EX.nil)) ?_
    exact rest
  | some w =>
    have hne : wd k ≠ [] := fun q => by rw [q] at hw; cases hw
    have htr : TR C (n + 3) (.list ((wd k).map pd)) true := by
      have := TR.list (C := C) (n := n + 3) (l := (wd k).map pd) (by rw [List.length_map]; omega)
      have e : (!((wd k).map pd).isEmpty) = true := by cases h : wd k <;> simp_all
      rw [e] at this; exact this
    have hwl : w.length ≤ 3 := wd_small k w (List.mem_of_getLast? hw)
    have hlast := getLast_pd hw
    cases ht : isTok (w ++ [61]) with
    | true =>
      have eg : glue k v = (wd k).dropLast ++ [w ++ [61]] ++ wd v := by unfold glue; rw [hw]; simp only [ht, if_true]
      rw [eg]
      refine EX.ret (ES.iff (c := true) (EBO.of (EB.and2' rfl (EB.val (EV.name rfl rfl) htr) (EB.cmp (EV.bin (EV.tupAt (ds := [.int (num w), .str w]) (EV.listLast (EV.name rfl rfl) EV.neg1 hlast) (EV.cInt (i := 1)) (by decide) (by decide) rfl) (EV.cStr (l := [61]) rfl) (OP2.addStr (by simp; omega))) (EV.glob P.g_tab rfl rfl) (OP2.inTok P ht)))) (fun _ => ?_) (fun q => by cases q))
      refine EX.cons (ES.assign (d := .str (w ++ [61])) (EVO.of (EV.bin (EV.tupAt (ds := [.int (num w), .str w]) (EV.listLast (EV.name rfl rfl) EV.neg1 hlast) (EV.cInt (i := 1)) (by decide) (by decide) rfl) (EV.cStr (l := [61]) rfl) (OP2.addStr (by simp; omega)))) rfl (.inl rfl) Own.noneNe) ?_
      have hdl : (wd k).dropLast.length ≤ (wd k).length := by simp
      exact EX.ret (ES.ret (EVO.of (EV.glue3 (xs := (wd k).dropLast) (EV.lcutLast (by rw [List.map_dropLast]) (EV.name rfl rfl) (by rw [List.length_map]; omega)) (EV.tuple (EVs.two (EV.tabItem P.tab (EV.glob P.g_tab rfl rfl) (EV.name rfl rfl) (tg_tok ht)) (EV.name rfl rfl)) (by simp)) (EV.callF (EV.glob P.g_by_table rfl rfl) (EVs.one (EV.name rfl rfl)) (fn_byTable P (by omega)) P.f_by_table.fd) (by omega))))
    | false =>
      have eg : glue k v = (if v.take 1 == [61] then wd k ++ [[61, 61]] ++ wd (v.drop 1) else wd k ++ [[61]] ++ wd v) := by unfold glue; rw [hw]; simp only [ht]; rfl
      rw [eg]
      refine EX.cons (ES.iff (c := false) (EBO.of (EB.and2' rfl (EB.val (EV.name rfl rfl) htr) (EB.cmp (EV.bin (EV.tupAt (ds := [.int (num w), .str w]) (EV.listLast (EV.name rfl rfl) EV.neg1 hlast) (EV.cInt (i := 1)) (by decide) (by decide) rfl) (EV.cStr (l := [61]) rfl) (OP2.addStr (by simp; omega))) (EV.glob P.g_tab rfl rfl) (OP2.inTok P ht)))) (fun q => by cases q) (fun _ => EX.nil)) ?_
      exact rest
end
end Mine

-- F12
namespace Mine

section
variable {C : Cfg} {n : Nat} {scope sc : Scope} {Γ Γf : Gm}

theorem FnAt.loud {a : Addr} {ps : List Str} {body : List Stmt} (f : FnAt C a ps sc body) : FnAt C.loud a ps sc body := ⟨f.ex, f.nodup, f.kinds, f.fn, f.co, f.gen⟩
theorem Prg.loud (P : Prg C) : Prg C.loud :=
  ⟨P.f_keqv.loud, P.g_keqv, P.f_http.loud, P.g_http, P.f_text.loud, P.g_text, P.f_words.loud, P.g_words, P.f_longest.loud, P.g_longest, P.f_shape.loud, P.g_shape, P.f_by_table.loud, P.g_by_table, P.f_by_shape.loud, P.g_by_shape, P.f_rows.loud, P.g_rows, P.f_bare.loud, P.g_bare, P.f_glued.loud, P.g_glued, P.f_read.loud, P.g_read, P.f_told.loud, P.g_told, P.f_sound.loud, P.g_sound, P.f_written.loud, P.g_written, P.f_last.loud, P.g_last, P.f_law.loud, P.g_law,
    P.g_tab, P.tab, P.b_len, P.b_range, P.b_list, P.b_isinstance, P.b_ValueError, P.b_IndexError⟩

theorem bbVE : bootBuiltins (Str.ofString "ValueError") = some (.type "ValueError") := by decide +kernel
theorem bbIE : bootBuiltins (Str.ofString "IndexError") = some (.type "IndexError") := by decide +kernel
theorem subVE : isSubtype (.type "ValueError") (.type "BaseException") = pure true := by rw [isSubtype_type]; kernel_rfl
theorem subIE : isSubtype (.type "IndexError") (.type "BaseException") = pure true := by rw [isSubtype_type]; kernel_rfl
theorem metaVE : isSubtype (.type ((Manifest.find? "ValueError").elim "type" fun x => x.metatype)) (.type "tuple") = pure false := by rw [isSubtype_type]; kernel_rfl
theorem metaIE : isSubtype (.type ((Manifest.find? "IndexError").elim "type" fun x => x.metatype)) (.type "tuple") = pure false := by rw [isSubtype_type]; kernel_rfl
theorem subVV : isSubtype (.type "ValueError") (.type "ValueError") = pure true := by rw [isSubtype_type]; kernel_rfl
theorem subII : isSubtype (.type "IndexError") (.type "IndexError") = pure true := by rw [isSubtype_type]; kernel_rfl
theorem subIV : isSubtype (.type "IndexError") (.type "ValueError") = pure false := by rw [isSubtype_type]; kernel_rfl

/-- the answer's form -/
noncomputable def readD (s : List Nat) : D := .tuple [ansD (ansF s), rD (wd s)]

theorem kv_one (k v : List Nat) (h : ¬ (v.head? = some 34)) : [(k, v)].foldl kvStep [] = [(k, v)] := by
  have e : unq v = v := by
    unfold unq
    have : (v.head? == some 34) = false := by rw [beq_eq_false_iff_ne]; exact h
    rw [this]; rfl
  simp [kvStep, e, storeKV]

theorem fn_read (P : Prg C) (hq : C.q = true) {s : List Nat} (hs : ∀ c ∈ s, gc c) (hl : s.length ≤ 800) : FNL C (n + 5) 93 [.str s] (readD s) := by
  have hsm : ∀ x ∈ s, x < 128 := fun x hx => Nat.lt_trans (hs x hx).1.2.1 (by decide)
  by_cases h61 : 61 ∈ s
  · obtain ⟨k, v, e, hk⟩ := first61 h61
    cases v with
    | nil =>
      have ea : ansF s = .bh := by rw [e]; exact ansF_bh hk
      unfold readD
      rw [ea]
      refine FNL.try (X := "IndexError") P.f_read rfl (EVF.listItems (EV.builtin P.b_list bbList rfl rfl) (EVF.callF (EV.glob P.g_keqv rfl rfl) (EVs.one (EV.list (EVs.one (EV.name (d := .str s) rfl rfl)) (by simp))) (by rw [e]; exact fnr_bh P hk (by rw [← e]; exact hsm) (by rw [← e]; omega)) P.f_keqv.fd))
        (.miss (EV.builtin P.loud.b_ValueError bbVE rfl rfl) subVE metaVE subIV (.hit (EV.builtin P.loud.b_IndexError bbIE rfl rfl) subIE metaIE subII ?_)) (fun _ => rfl)
      exact EX.ret (ES.ret (EVO.of (EV.tuple (EVs.two (EV.cStr (l := msgBh) (by decide +kernel)) (EV.callF (EV.glob P.loud.g_by_table rfl rfl) (EVs.one (EV.name rfl rfl)) (fn_byTable P.loud (by omega)) P.loud.f_by_table.fd)) (by simp))))
    | cons c v =>
      have ea : ansF s = .pair k (c :: v) := by rw [e]; exact ansF_pair hk (by simp)
      have e61 : s = itemOf (k, c :: v) := e
      have hc : c ≠ 34 := (hs c (by rw [e]; simp)).2
      have hkv : k.length + (v.length + 2) = s.length := by rw [e]; simp
      unfold readD
      rw [ea]
      refine FNL.fn (FN.of P.f_read rfl ?_)
      have ok : PrOk (k, c :: v) := ⟨hk, by simp, by rw [← e61]; exact hsm, by rw [← e61]; omega⟩
      have hkq : FN C (n + 4) 21 [.list [.str s]] (.dict [(k, c :: v)]) := by
        have := fn_keqv (n := n + 3) P (ps := [(k, c :: v)]) (fun p hp => by rw [List.mem_singleton.mp hp]; exact ok) (by simp)
        rw [kv_one k (c :: v) (by simp; exact hc), List.map_singleton, ← e61] at this
        exact this
      refine EX.cons (ES.tryOk (EX.cons (ES.assign (EVO.of (EV.listItems (kvs := [(k, c :: v)]) hq (EV.builtin P.b_list bbList rfl rfl) (EV.callF (EV.glob P.g_keqv rfl rfl) (EVs.one (EV.list (EVs.one (EV.name (d := .str s) rfl rfl)) (by simp))) hkq P.f_keqv.fd) (by simp))) rfl (.inl rfl) Own.noneNe) EX.nil)) ?_
      have eg : wd s = glue k (c :: v) := by rw [e]; exact wd_glue (c :: v) k hk
      rw [eg]
      have hk9 : k.length ≤ 900 := by omega
      have hv9 : (c :: v).length ≤ 900 := by simp only [List.length_cons]; omega
      exact EX.ret (ES.ret (EVO.of (EV.tuple (EVs.two (EV.name rfl rfl) (EV.callF (EV.glob P.g_glued rfl rfl) (EVs.two (EV.tupAt (ds := [.str k, .str (c :: v)]) (EV.listAt (ds := [pairD (k, c :: v)]) (EV.name rfl rfl) (EV.cInt (i := 0)) (by decide) (by decide) rfl) (EV.cInt (i := 0)) (by decide) (by decide) rfl)
        (EV.tupAt (ds := [.str k, .str (c :: v)]) (EV.listAt (ds := [pairD (k, c :: v)]) (EV.name rfl rfl) (EV.cInt (i := 0)) (by decide) (by decide) rfl) (EV.cInt (i := 1)) (by decide) (by decide) rfl)) (fn_glued P hk9 hv9) P.f_glued.fd)) (by simp))))
  · have ea : ansF s = .no := ansF_no h61
    unfold readD
    rw [ea]
    refine FNL.try (X := "ValueError") P.f_read rfl (EVF.listItems (EV.builtin P.b_list bbList rfl rfl) (EVF.callF (EV.glob P.g_keqv rfl rfl) (EVs.one (EV.list (EVs.one (EV.name (d := .str s) rfl rfl)) (by simp))) (fnr_no P h61 hsm) P.f_keqv.fd))
      (.hit (EV.builtin P.loud.b_ValueError bbVE rfl rfl) subVE metaVE subVV ?_) (fun _ => rfl)
    exact EX.ret (ES.ret (EVO.of (EV.tuple (EVs.two (EV.cStr (l := msgNo) (by decide +kernel)) (EV.callF (EV.glob P.loud.g_by_table rfl rfl) (EVs.one (EV.name rfl rfl)) (fn_byTable P.loud (by omega)) P.loud.f_by_table.fd)) (by simp))))
end
end Mine

-- F13
namespace Mine

noncomputable def isPair : Ans → Bool
  | .pair _ _ => true
  | _ => false
noncomputable def prOf : Ans → Pr
  | .pair k v => (k, v)
  | _ => ([], [])
/-- the pairs of the sound items -/
noncomputable def pairsF (ls : Wds) : List Pr := (ls.filter fun s => isPair (ansF s)).map fun s => prOf (ansF s)
noncomputable def wr (p : Pr) : List Nat := p.1 ++ [61, 34] ++ p.2 ++ [44, 34]
noncomputable def writtenF (ps : List Pr) : List Nat := joinL [44, 32] (ps.map wr)

section
variable {C : Cfg} {n : Nat} {scope sc : Scope} {Γ Γf : Gm}

theorem bbIsi : bootBuiltins (Str.ofString "isinstance") = some (.builtin "isinstance") := by decide +kernel

theorem isiAns (a : Ans) : BI C n "isinstance" [ansD a, .val (.type "list")] (.bool (isPair a)) := by
  cases a with
  | no => exact BI.notList
  | bh => exact BI.notList
  | pair k v => exact BI.isList

theorem fn_sound (P : Prg C) {ls : Wds} (hl : ls.length ≤ 1000) : FN C (n + 1) 103 [.list (ls.map readD)] (.list ((pairsF ls).map pairD)) := by
  refine FN.of P.f_sound rfl ?_
  unfold pairsF
  rw [List.map_map]
  refine EX.ret (ES.ret (EVO.of (EV.comp (Γf := []) (EI.of (EV.name rfl rfl) ITER.list) (CL.filter (f := readD) (g := pairD ∘ fun s => prOf (ansF s)) (fun s hs => ?_) (fun s hs ht => ?_) rfl rfl) rfl (Seen.none (by decide +kernel)) (by simp; omega) (by decide +kernel))))
  · exact IFS.one (EB.val (EV.callB (EV.builtin P.b_isinstance bbIsi rfl rfl) (EVs.two (EV.tupAt (ds := [ansD (ansF s), rD (wd s)]) (EV.name rfl rfl) (EV.cInt (i := 0)) (by decide) (by decide) rfl) (EV.builtin P.b_list bbList rfl rfl)) (isiAns _)) TR.bool)
  · cases ha : ansF s with
    | no => rw [ha] at ht; cases ht
    | bh => rw [ha] at ht; cases ht
    | pair k v =>
      have e : (pairD ∘ fun s => prOf (ansF s)) s = pairD (k, v) := by show pairD (prOf (ansF s)) = _; rw [ha]; rfl
      rw [e]
      exact EV.listAt (ds := [pairD (k, v)]) (EV.tupAt (ds := [ansD (ansF s), rD (wd s)]) (EV.name rfl rfl) (EV.cInt (i := 0)) (by decide) (by decide) (by rw [ha]; rfl)) (EV.cInt (i := 0)) (by decide) (by decide) rfl

theorem fn_written (P : Prg C) (hq : C.q = true) {ps : List Pr} (hl : ps.length ≤ 1000) (hs : (ps.map fun p => (wr p).length).sum ≤ 100000) (hp : ∀ p ∈ ps, (wr p).length ≤ 1000) : FN C (n + 1) 108 [.list (ps.map pairD)] (.str (writtenF ps)) := by
  refine FN.of P.f_written rfl ?_
  refine EX.ret (ES.ret (EVO.of (EV.meth (ds := [.list ((ps.map wr).map .str)]) (EV.cStr (l := [44, 32]) rfl) (EVs.one (EV.comp (Γf := []) (EI.of (EV.name (d := .list (ps.map pairD)) rfl rfl) ITER.list) (by
    rw [List.map_map]
    exact CL.mapPair (f := fun p : Pr => .str p.1) (f' := fun p : Pr => .str p.2) (g := D.str ∘ wr) hq (fun p hpp => by
      have := hp p hpp
      unfold wr at this
      simp only [List.length_append, List.length_cons, List.length_nil] at this
      exact EV.bin (EV.bin (EV.bin (EV.name (d := .str p.1) rfl rfl) (EV.cStr (l := [61, 34]) rfl) (OP2.addStr (by simp; omega))) (EV.name (d := .str p.2) rfl rfl) (OP2.addStr (by simp; omega))) (EV.cStr (l := [44, 34]) rfl) (OP2.addStr (by simp; omega))) rfl rfl rfl (by decide +kernel)) rfl (Seen.none (by decide +kernel)) (by simp; omega) (by decide +kernel))) HasT.str F.plainAttrs_str F.slot_str_join F.type_str_join (BI.join (by simp) ?_) (by simp))))
  rw [List.map_map, List.length_map]
  have e : (ps.map (List.length ∘ wr)) = ps.map fun p => (wr p).length := rfl
  rw [e]; omega
end
end Mine

-- F14
namespace Mine

noncomputable def keysF (ps : List Pr) : Wds := ps.map (·.1)
noncomputable def newAt (ks : Wds) (i : Nat) : Bool := !(ks.take i).contains (ks.getD i [])
noncomputable def firstsF (ps : List Pr) : Wds := ((List.range (keysF ps).length).filter (newAt (keysF ps))).map fun i => (keysF ps).getD i []
noncomputable def lastVal (ps : List Pr) (f : List Nat) : List Nat := ((ps.filter fun p => p.1 == f).map (·.2)).getLastD []
noncomputable def lastF (ps : List Pr) : List Pr := (firstsF ps).map fun f => (f, lastVal ps f ++ [44])

theorem firsts_mem {ps : List Pr} {f : List Nat} (h : f ∈ firstsF ps) : ∃ p ∈ ps, p.1 = f := by
  unfold firstsF at h
  obtain ⟨i, hi, rfl⟩ := List.mem_map.mp h
  have hi := List.mem_range.mp (List.mem_filter.mp hi).1
  have hm : (keysF ps).getD i [] ∈ keysF ps := by
    rw [List.getD_eq_getElem?_getD, List.getElem?_eq_getElem hi]
    exact List.getElem_mem hi
  obtain ⟨p, hp, e⟩ := List.mem_map.mp hm
  exact ⟨p, hp, e⟩
theorem lastVal_at {ps : List Pr} {f : List Nat} (h : f ∈ firstsF ps) : ((ps.filter fun p => p.1 == f).map (·.2)).getLast? = some (lastVal ps f) := by
  obtain ⟨p, hp, e⟩ := firsts_mem h
  have hm : p ∈ ps.filter fun p => p.1 == f := List.mem_filter.mpr ⟨hp, by simp [e]⟩
  unfold lastVal
  rw [List.getLastD_eq_getLast?]
  cases hl : ((ps.filter fun p => p.1 == f).map (·.2)).getLast? with
  | none =>
    have := List.getLast?_eq_none_iff.mp hl
    rw [List.map_eq_nil_iff] at this
    rw [this] at hm; cases hm
  | some v => rfl
theorem lastVal_mem {ps : List Pr} {f : List Nat} (h : f ∈ firstsF ps) : ∃ p ∈ ps, p.2 = lastVal ps f := by
  have := List.mem_of_getLast? (lastVal_at h)
  obtain ⟨p, hp, e⟩ := List.mem_map.mp this
  exact ⟨p, (List.mem_filter.mp hp).1, e⟩
theorem firsts_len (ps : List Pr) : (firstsF ps).length ≤ ps.length := by
  unfold firstsF
  rw [List.length_map]
  exact Nat.le_trans (List.length_filter_le _ _) (by simp [keysF])

section
variable {C : Cfg} {n : Nat} {scope sc : Scope} {Γ Γf : Gm}

theorem CL.filterPair {α : Type} {x y : Str} {p p' pos : Pos} {k : Nat} {ifs : List Expr} {elt : Expr} {f f' g : α → D} {t : α → Bool} {ls : List α} (hq : C.q = true) (h : ∀ w ∈ ls, IFS C n sc ((y, f' w) :: (x, f w) :: Γf) ifs (t w)) (h' : ∀ w ∈ ls, t w = true → EV C n sc ((y, f' w) :: (x, f w) :: Γf) elt (g w)) (hf : sc.kind = .function) (hx : sc.names.lookup x = some .local) (hy : sc.names.lookup y = some .local) (hxy : x ≠ y) :
    CL C n scope sc (.Tuple [.Name x p, .Name y p'] k pos) ifs elt Γf (ls.map fun w => .tuple [f w, f' w]) ((ls.filter t).map g) := by
  induction ls with
  | nil => exact .nil
  | cons w r ih =>
    have ih := ih (fun u hu => h u (List.mem_cons_of_mem _ hu)) (fun u hu => h' u (List.mem_cons_of_mem _ hu))
    cases ht : t w with
    | true =>
      rw [List.filter_cons_of_pos ht]
      exact .keep (TG.pair hq hf hx hy hxy) (ht ▸ h w List.mem_cons_self) (h' w List.mem_cons_self ht) ih
    | false =>
      rw [List.filter_cons_of_neg (by rw [ht]; decide)]
      exact .skip (TG.pair hq hf hx hy hxy) (ht ▸ h w List.mem_cons_self) ih
theorem CL.mapCell {α : Type} {x : Str} {p : Pos} {elt : Expr} {f g : α → D} : ∀ {ls : List α}, (∀ w ∈ ls, EV C n sc ((x, f w) :: Γf) elt (g w)) → sc.kind = .function → sc.names.lookup x = some .cell → (x, NameKind.cell) ∈ scope.names → (∀ y, (y, NameKind.cell) ∈ scope.names → y = x) → CL C n scope sc (.Name x p) [] elt Γf (ls.map f) (ls.map g)
  | [], _, _, _, _, _ => .nil
  | w :: _, h, hf, hx, hc, ho => .keep (TG.cell hf hx hc ho) .nil (h w List.mem_cons_self) (CL.mapCell (fun u hu => h u (List.mem_cons_of_mem _ hu)) hf hx hc ho)

theorem OP2.notInB {ls : Wds} {ds : List D} {l : List Nat} (e : ds = ls.map D.str) : OP2 C n (compareOp .NotIn) (.str l) (.list ds) (.bool (!ls.contains l)) := by subst e; exact OP2.notInStrs

set_option maxHeartbeats 1000000 in
theorem fn_last (P : Prg C) (hq : C.q = true) {ps : List Pr} (hl : ps.length ≤ 1000) (hv : ∀ p ∈ ps, p.2.length ≤ 1000) : FN C (n + 1) 113 [.list (ps.map pairD)] (.list ((lastF ps).map pairD)) := by
  refine FN.of P.f_last rfl ?_
  have hkl : (keysF ps).length = ps.length := by simp [keysF]
  refine EX.cons (ES.assign (d := wsD (keysF ps)) (EVO.of (EV.comp (Γf := []) (EI.of (EV.name (d := .list (ps.map pairD)) rfl rfl) ITER.list) (by
    unfold keysF; rw [List.map_map]
    exact CL.mapPair (f := fun p : Pr => .str p.1) (f' := fun p : Pr => .str p.2) hq (fun p hp => EV.name rfl rfl) rfl rfl rfl (by decide +kernel)) rfl (Seen.none (by decide +kernel)) (by simp; omega) (by decide +kernel))) rfl (.inr rfl) Own.noneNe) ?_
  refine EX.cons (ES.assignComp (Γf := [(Str.ofString "keys", wsD (keysF ps))]) (ds' := (firstsF ps).map .str) (EI.range (k := (keysF ps).length) (EV.builtin P.b_range bbRange rfl rfl) (EV.callB (EV.builtin P.b_len bbLen rfl rfl) (EVs.one (EV.name (d := wsD (keysF ps)) rfl rfl)) (BI.lenList' (by simp) (by omega))) (by omega))
    (by
      unfold firstsF; rw [List.map_map]
      refine CL.filter (t := newAt (keysF ps)) (g := D.str ∘ fun i => (keysF ps).getD i []) (fun i hi => IFS.one (EB.cmp (EV.listAt (ds := (keysF ps).map D.str) (EV.name rfl rfl) (EV.name rfl rfl) (by omega) (by have := List.mem_range.mp hi; omega) (ws_at (List.mem_range.mp hi))) (EV.lcutTo (i := i) rfl (EV.name (d := .list ((keysF ps).map D.str)) rfl rfl) (EV.name rfl rfl) rfl (by simp; omega)) (OP2.notInB (by rw [List.map_take])))) (fun i hi _ => ?_) rfl rfl
      exact EV.listAt (ds := (keysF ps).map D.str) (EV.name rfl rfl) (EV.name rfl rfl) (by omega) (by have := List.mem_range.mp hi; omega) (ws_at (List.mem_range.mp hi)))
    rfl (Seen.one rfl (by decide +kernel) (by decide +kernel) (.inl rfl) (by decide +kernel) (by decide +kernel)) (by simp; omega) (by decide +kernel) rfl (.inl rfl) Own.noneNe (by intro _; rfl)) ?_
  have hfl := firsts_len ps
  refine EX.ret (ES.ret (EVO.of (EV.comp (Γf := [(Str.ofString "pairs", .list (ps.map pairD))]) (EI.of (EV.name (d := .list ((firstsF ps).map .str)) rfl rfl) ITER.list) (by
    unfold lastF; rw [List.map_map]
    refine CL.mapCell (g := pairD ∘ fun f => (f, lastVal ps f ++ [44])) (fun f hf => ?_) rfl rfl (by decide +kernel) ?_
    · obtain ⟨p, hp, hpv⟩ := lastVal_mem hf
      have hlen : (lastVal ps f).length ≤ 1000 := by rw [← hpv]; exact hv p hp
      refine EV.tuple (EVs.two (EV.name rfl rfl) (EV.bin (d₁ := .str (lastVal ps f)) (EV.listLast (ds := (ps.filter fun p => p.1 == f).map fun p => .str p.2) (EV.comp (Γf := [(Str.ofString "first", .str f)]) (EI.of (EV.name (d := .list (ps.map pairD)) rfl rfl) ITER.list)
        (CL.filterPair (f := fun p : Pr => .str p.1) (f' := fun p : Pr => .str p.2) (g := fun p : Pr => .str p.2) (t := fun p => p.1 == f) hq (fun p hp => IFS.one (EB.cmp (EV.name (d := .str p.1) rfl rfl) (EV.name (d := .str f) rfl rfl) OP2.eqStr)) (fun p hp _ => EV.name rfl rfl) rfl rfl rfl (by decide +kernel))
        rfl (Seen.one rfl (by decide +kernel) (by decide +kernel) (.inl rfl) (by decide +kernel) (by decide +kernel)) (by simp; omega) (by decide +kernel)) (EV.neg1 (i := 1)) ?_) (EV.cStr (l := [44]) rfl) (OP2.addStr (by simp; omega)))) (by simp)
      have := lastVal_at hf
      have e : ((ps.filter fun p => p.1 == f).map fun p => D.str p.2) = ((ps.filter fun p => p.1 == f).map (·.2)).map D.str := by rw [List.map_map]; rfl
      rw [e, List.getLast?_map, this]; rfl
    · intro y hy
      simp only [List.mem_cons, Prod.mk.injEq, reduceCtorEq, and_false, and_true, false_or, or_false, List.not_mem_nil] at hy
      exact hy) rfl (Seen.one rfl (by decide +kernel) (by decide +kernel) (.inl rfl) (by decide +kernel) (by decide +kernel)) (by simp; omega) (by decide +kernel))))
end
end Mine

-- Pu4
namespace Mine

/-! the rows of the words are the words of the parts -/
theorem num12 (w : List Nat) : (num w == 12) = (w == [44]) := by
  by_cases h : w = [44]
  · subst h; decide
  · have e2 : (w == [44]) = false := by simpa using h
    rw [e2, beq_eq_false_iff_ne]
    intro q
    unfold num at q
    split at q
    · rename_i ht
      have hi : rowL.idxOf w = 5 := by omega
      have hm : w ∈ rowL := by simpa [isTok] using ht
      have hg := List.getElem_idxOf (List.idxOf_lt_length_of_mem hm)
      apply h
      rw [← hg]
      simp only [hi]
      rfl
    · cases q

theorem no44 {t : List Nat} (h : 44 ∉ t) : ∀ w ∈ wd t, w ≠ [44] := fun w hw q => by
  have : 44 ∈ (wd t).flatten := List.mem_flatten.mpr ⟨w, hw, by rw [q]; simp⟩
  rw [wd_flat] at this
  exact h this
theorem rstep_plain : ∀ (ws : Wds) (p : List Wds × Wds), (∀ w ∈ ws, w ≠ [44]) → ws.foldl rstep p = (p.1, p.2 ++ ws)
  | [], p, _ => by simp
  | w :: r, p, h => by
    have e : rstep p w = (p.1, p.2 ++ [w]) := by
      unfold rstep
      rw [num12]
      have : (w == [44]) = false := by simpa using h w List.mem_cons_self
      rw [this]; rfl
    rw [List.foldl_cons, e, rstep_plain r _ fun u hu => h u (List.mem_cons_of_mem _ hu)]
    simp
theorem hst_plain : ∀ (t : List Nat) (res : Wds) (part : List Nat), 44 ∉ t → 34 ∉ t → t.foldl hst (res, part, false) = (res, part ++ t, false)
  | [], res, part, _, _ => by simp
  | c :: r, res, part, h1, h2 => by
    have c1 : (c == 44) = false := by rw [beq_eq_false_iff_ne]; exact fun q => h1 (by rw [q]; exact List.mem_cons_self)
    have c2 : (c == 34) = false := by rw [beq_eq_false_iff_ne]; exact fun q => h2 (by rw [q]; exact List.mem_cons_self)
    have e : hst (res, part, false) c = (res, part ++ [c], false) := by simp [hst, c1, c2]
    rw [List.foldl_cons, e, hst_plain r _ _ (fun q => h1 (List.mem_cons_of_mem _ q)) (fun q => h2 (List.mem_cons_of_mem _ q))]
    simp
theorem split44 : ∀ (t : List Nat), 44 ∈ t → ∃ a b, t = a ++ 44 :: b ∧ 44 ∉ a
  | [], h => by cases h
  | c :: r, h => by
    by_cases q : c = 44
    · exact ⟨[], r, by rw [q]; rfl, by simp⟩
    · obtain ⟨a, b, e, ha⟩ := split44 r ((List.mem_cons.mp h).resolve_left fun z => q z.symm)
      exact ⟨c :: a, b, by rw [e]; rfl, fun z => (List.mem_cons.mp z).elim (fun y => q y.symm) ha⟩

theorem rows_http : ∀ (m : Nat) (t : List Nat), t.length ≤ m → 34 ∉ t → ∀ res : Wds, (wd t).foldl rstep (res.map wd, []) = ((t.foldl hst (res, [], false)).1.map wd, wd (t.foldl hst (res, [], false)).2.1) := by
  intro m
  induction m with
  | zero =>
    intro t h _ res
    have : t = [] := List.eq_nil_of_length_eq_zero (by omega)
    subst this; rfl
  | succ m ih =>
    intro t h h34 res
    by_cases h44 : 44 ∈ t
    · obtain ⟨a, b, e, ha⟩ := split44 t h44
      have h34a : 34 ∉ a := fun q => h34 (by rw [e]; exact List.mem_append_left _ q)
      have h34b : 34 ∉ b := fun q => h34 (by rw [e]; exact List.mem_append_right _ (List.mem_cons_of_mem _ q))
      have hb : b.length ≤ m := by rw [e] at h; simp at h; omega
      have e1 : hst (res, a, false) 44 = (res ++ [a], [], false) := by simp [hst]
      have e2 : rstep (res.map wd, wd a) [44] = ((res ++ [a]).map wd, []) := by
        unfold rstep
        rw [num12]; simp
      rw [e, wd_lone lone44, List.foldl_append, List.foldl_append, hst_plain a res [] ha h34a, rstep_plain (wd a) _ (no44 ha), List.nil_append, List.nil_append, List.foldl_cons, List.foldl_cons, e1]
      show List.foldl rstep (rstep (res.map wd, wd a) [44]) (wd b) = _
      rw [e2]
      exact ih b hb h34b (res ++ [a])
    · rw [hst_plain t res [] h44 h34, rstep_plain (wd t) _ (no44 h44)]
      simp

theorem wd_nil_iff (p : List Nat) : (wd p).isEmpty = p.isEmpty := by
  cases p with
  | nil => rfl
  | cons c r => rw [wd_cons]; rfl

theorem rows_parts {t : List Nat} (h : 34 ∉ t) : rowsF (wd t) = (partsOf (t.foldl hst ([], [], false))).map wd := by
  have e : rowsG (wd t) = _ := rows_http t.length t (Nat.le_refl _) h []
  unfold rowsF partsOf
  rw [e]
  simp only [wd_nil_iff]
  split
  · rfl
  · simp

/-! bare words are the words of the bare text -/
theorem filter_last (p : Nat → Bool) (m k : Nat) (h0 : ∀ i, m < i → i < m + (k + 1) → p i = false) (h1 : p m = true) : ∃ init, (List.range (m + (k + 1))).filter p = init ++ [m] := by
  refine ⟨(List.range m).filter p, ?_⟩
  rw [List.range_add, List.filter_append, List.range_succ_eq_map, List.map_cons, List.filter_cons, Nat.add_zero, if_pos h1]
  congr 1
  rw [List.cons.injEq]
  refine ⟨rfl, ?_⟩
  rw [List.filter_eq_nil_iff]
  intro a ha
  obtain ⟨b, hb, rfl⟩ := List.mem_map.mp ha
  obtain ⟨c, hc, rfl⟩ := List.mem_map.mp hb
  have := List.mem_range.mp hc
  rw [h0 (m + (c + 1)) (by omega) (by omega)]
  decide

theorem bare_pad (i j : Nat) (ms : Wds) (h1 : ms.head? ≠ some [32]) (h2 : ms.getLast? ≠ some [32]) : bareF (List.replicate i [32] ++ ms ++ List.replicate j [32]) = ms := by
  generalize hw : List.replicate i [32] ++ ms ++ List.replicate j [32] = ws
  have hlen : ws.length = i + ms.length + j := by rw [← hw]; simp; omega
  have hlow : ∀ x, x < i → ws.getD x [] = [32] := fun x hx => by
    rw [List.getD_eq_getElem?_getD, ← hw, List.append_assoc, List.getElem?_append_left (by simpa using hx), List.getElem?_replicate, if_pos hx]; rfl
  have hhigh : ∀ x, i + ms.length ≤ x → x < ws.length → ws.getD x [] = [32] := fun x hx hx' => by
    rw [List.getD_eq_getElem?_getD, ← hw, List.getElem?_append_right (by simpa using hx), List.getElem?_replicate, if_pos (by simp; omega)]; rfl
  have hmid : ∀ x, x < ms.length → ws.getD (i + x) [] = ms.getD x [] := fun x hx => by
    rw [List.getD_eq_getElem?_getD, List.getD_eq_getElem?_getD, ← hw, List.append_assoc, List.getElem?_append_right (by simp), List.length_replicate, Nat.add_sub_cancel_left, List.getElem?_append_left hx]
  cases ms with
  | nil =>
    have : places ws = [] := by
      unfold places
      rw [List.filter_eq_nil_iff]
      intro x hx
      have hx := List.mem_range.mp hx
      have : ws.getD x [] = [32] := by
        by_cases q : x < i
        · exact hlow x q
        · exact hhigh x (by simp; omega) hx
      rw [this]; decide
    unfold bareF
    rw [this]
  | cons u us =>
    have p0 : (ws.getD i [] != [32]) = true := by
      have := hmid 0 (by simp)
      rw [Nat.add_zero] at this
      rw [this]
      simp only [List.getD_cons_zero, bne_iff_ne, ne_eq]
      intro q; exact h1 (by rw [q]; rfl)
    have pl : (ws.getD (i + us.length) [] != [32]) = true := by
      rw [hmid us.length (by simp)]
      rw [bne_iff_ne]
      intro q
      apply h2
      rw [List.getLast?_eq_getElem?]
      simp only [List.length_cons, Nat.add_sub_cancel]
      rw [List.getD_eq_getElem?_getD, List.getElem?_eq_getElem (by simp)] at q
      rw [List.getElem?_eq_getElem (by simp)]
      exact congrArg some q
    simp only [List.length_cons] at hlen
    obtain ⟨rest, hf⟩ := filter_first (fun x => (ws.getD x [] != [32])) i (us.length + j) (fun x hx => by rw [hlow x hx]; decide) p0
    obtain ⟨init, hg⟩ := filter_last (fun x => (ws.getD x [] != [32])) (i + us.length) j (fun x hx hx' => by rw [hhigh x (by simp only [List.length_cons]; omega) (by omega)]; decide) pl
    have hp1 : places ws = i :: rest := by
      unfold places
      rw [hlen, show i + (us.length + 1) + j = i + (us.length + j + 1) by omega]; exact hf
    have hp2 : places ws = init ++ [i + us.length] := by
      unfold places
      rw [hlen, show i + (us.length + 1) + j = i + us.length + (j + 1) by omega]; exact hg
    have hlast : (i :: rest).getLastD 0 = i + us.length := by
      rw [← hp1, hp2, List.getLastD_eq_getLast?]; simp
    unfold bareF
    rw [hp1]
    dsimp only
    rw [hlast, ← hw, List.append_assoc, show i + us.length + 1 - i = us.length + 1 by omega]
    rw [List.drop_append_of_le_length (by simp), List.drop_eq_nil_of_le (by simp), List.nil_append]
    rw [List.take_append_of_le_length (by simp), List.take_of_length_le (by simp)]

theorem takeWhile32 : ∀ l : List Nat, l.takeWhile (· == 32) = List.replicate (l.takeWhile (· == 32)).length 32
  | [] => rfl
  | c :: r => by
    rw [List.takeWhile_cons]
    split
    · rename_i h
      have h : c = 32 := by simpa using h
      rw [List.length_cons, List.replicate_succ, ← takeWhile32 r, h]
    · rfl
theorem dropWhile_head : ∀ l : List Nat, (l.dropWhile (· == 32)).head? ≠ some 32
  | [] => by simp
  | c :: r => by
    rw [List.dropWhile_cons]
    split
    · exact dropWhile_head r
    · rename_i h
      intro q
      simp at q h
      exact h q

/-- a text is its bare text with blanks at both ends -/
theorem strip_parts (l : List Nat) : ∃ i j, l = List.replicate i 32 ++ stripS l ++ List.replicate j 32 ∧ (stripS l).head? ≠ some 32 ∧ (stripS l).getLast? ≠ some 32 := by
  generalize hm : l.dropWhile (· == 32) = m
  have e1 : l = List.replicate (l.takeWhile (· == 32)).length 32 ++ m := by
    rw [← takeWhile32, ← hm, List.takeWhile_append_dropWhile]
  have e2 : m = stripS l ++ List.replicate (m.reverse.takeWhile (· == 32)).length 32 := by
    have : m.reverse = List.replicate (m.reverse.takeWhile (· == 32)).length 32 ++ m.reverse.dropWhile (· == 32) := by
      rw [← takeWhile32, List.takeWhile_append_dropWhile]
    have := congrArg List.reverse this
    rw [List.reverse_reverse, List.reverse_append, List.reverse_replicate] at this
    unfold stripS
    rw [hm]; exact this
  refine ⟨(l.takeWhile (· == 32)).length, (m.reverse.takeWhile (· == 32)).length, ?_, ?_, ?_⟩
  · rw [List.append_assoc, ← e2]; exact e1
  · have hh := dropWhile_head l
    rw [hm, e2] at hh
    cases hs : stripS l with
    | nil => simp
    | cons c r => rw [hs] at hh; simpa using hh
  · unfold stripS
    rw [List.getLast?_reverse]
    exact dropWhile_head _

theorem wd_blanks : ∀ j : Nat, wd (List.replicate j 32) = List.replicate j [32]
  | 0 => rfl
  | j + 1 => by
    have := wd_lone lone32 [] (List.replicate j 32)
    rw [List.replicate_succ, List.replicate_succ, ← wd_blanks j]; exact this
theorem wd_pad (m : List Nat) : ∀ (i j : Nat), wd (List.replicate i 32 ++ m ++ List.replicate j 32) = List.replicate i [32] ++ wd m ++ List.replicate j [32]
  | 0, 0 => by simp
  | 0, j + 1 => by
    have := wd_lone lone32 m (List.replicate j 32)
    rw [wd_blanks] at this
    simpa [List.replicate_succ] using this
  | i + 1, j => by
    have := wd_lone lone32 [] (List.replicate i 32 ++ m ++ List.replicate j 32)
    rw [wd_pad m i j] at this
    simpa [List.replicate_succ, wd_nil] using this

theorem lng_head (c : Nat) (r : List Nat) : (lng (c :: r)).head? = some c := by
  have h1 := lng_pos c r
  have h2 := (lng_pre (c :: r)).1
  rw [h2]
  cases h : (lng (c :: r)).length with
  | zero => omega
  | succ k => simp
theorem wd_head {m : List Nat} (h : m.head? ≠ some 32) : (wd m).head? ≠ some [32] := by
  cases m with
  | nil => simp [wd_nil]
  | cons c r =>
    rw [wd_cons]
    intro q
    have q : lng (c :: r) = [32] := by simpa using q
    have := lng_head c r
    rw [q] at this
    simp at this
    exact h (by rw [← this]; rfl)
theorem wd_last {m : List Nat} (h : m.getLast? ≠ some 32) : (wd m).getLast? ≠ some [32] := by
  intro q
  obtain ⟨init, e⟩ := List.getLast?_eq_some_iff.mp q
  apply h
  rw [← wd_flat m, e]
  simp

theorem bare_wd (p : List Nat) : bareF (wd p) = wd (stripS p) := by
  obtain ⟨i, j, e, h1, h2⟩ := strip_parts p
  have : wd p = List.replicate i [32] ++ wd (stripS p) ++ List.replicate j [32] := by
    rw [← wd_pad]; exact congrArg wd e
  rw [this]
  exact bare_pad i j _ (wd_head h1) (wd_last h2)
end Mine

-- Pu5
namespace Mine

/-! the dict that is filled: each key where it first comes, with its last value -/
noncomputable def putAll (ps : List Pr) : List Pr := ps.foldl (fun kvs p => storeKV kvs p.1 (p.2 ++ [44])) []

theorem keys_snoc (qs : List Pr) (p : Pr) : keysF (qs ++ [p]) = keysF qs ++ [p.1] := by simp [keysF]
theorem firsts_snoc (qs : List Pr) (p : Pr) : firstsF (qs ++ [p]) = if (keysF qs).contains p.1 then firstsF qs else firstsF qs ++ [p.1] := by
  unfold firstsF
  rw [keys_snoc]
  generalize keysF qs = ks
  have e1 : (List.range (ks ++ [p.1]).length) = List.range ks.length ++ [ks.length] := by simp [List.range_succ]
  have e2 : (List.range ks.length).filter (newAt (ks ++ [p.1])) = (List.range ks.length).filter (newAt ks) := by
    apply List.filter_congr
    intro i hi
    have hi := List.mem_range.mp hi
    unfold newAt
    rw [List.take_append_of_le_length (Nat.le_of_lt hi), List.getD_eq_getElem?_getD, List.getD_eq_getElem?_getD, List.getElem?_append_left hi]
  have e3 : ((List.range ks.length).filter (newAt ks)).map (fun i => (ks ++ [p.1]).getD i []) = ((List.range ks.length).filter (newAt ks)).map (fun i => ks.getD i []) := by
    apply List.map_congr_left
    intro i hi
    have hi := List.mem_range.mp (List.mem_filter.mp hi).1
    rw [List.getD_eq_getElem?_getD, List.getD_eq_getElem?_getD, List.getElem?_append_left hi]
  have e4 : newAt (ks ++ [p.1]) ks.length = !ks.contains p.1 := by
    unfold newAt
    rw [List.take_left, List.getD_eq_getElem?_getD, List.getElem?_append_right (Nat.le_refl _)]
    simp
  rw [e1, List.filter_append, List.map_append, e2, e3, List.filter_cons, e4]
  cases ks.contains p.1 with
  | true => simp
  | false => simp
theorem keys_firsts (ps : List Pr) : ∀ k ∈ keysF ps, k ∈ firstsF ps := by
  have key : ∀ rs : List Pr, ∀ k ∈ keysF rs.reverse, k ∈ firstsF rs.reverse := by
    intro rs
    induction rs with
    | nil => intro k hk; cases hk
    | cons p r ih =>
      intro k hk
      rw [List.reverse_cons] at hk ⊢
      rw [keys_snoc] at hk
      rw [firsts_snoc]
      split
      · rename_i hc
        rcases List.mem_append.mp hk with q | q
        · exact ih k q
        · rw [List.mem_singleton.mp q]; exact ih _ (by simpa using hc)
      · rcases List.mem_append.mp hk with q | q
        · exact List.mem_append_left _ (ih k q)
        · exact List.mem_append_right _ q
  have := key ps.reverse
  rwa [List.reverse_reverse] at this
theorem lastVal_snoc (qs : List Pr) (p : Pr) (f : List Nat) : lastVal (qs ++ [p]) f = if p.1 == f then p.2 else lastVal qs f := by
  unfold lastVal
  rw [List.filter_append, List.filter_cons]
  cases h : (p.1 == f) with
  | true => simp
  | false => simp
theorem last_any (ps : List Pr) (k : List Nat) : (lastF ps).any (fun p => p.1 == k) = (keysF ps).contains k := by
  rw [Bool.eq_iff_iff]
  unfold lastF
  simp only [List.any_map, List.any_eq_true, Function.comp, List.contains_iff_mem]
  constructor
  · rintro ⟨f, hf, e⟩
    have e : f = k := by simpa using e
    subst e
    obtain ⟨p, hp, e⟩ := firsts_mem hf
    exact List.mem_map.mpr ⟨p, hp, e⟩
  · intro h
    exact ⟨k, keys_firsts ps k h, by simp⟩

theorem putAll_last (ps : List Pr) : putAll ps = lastF ps := by
  have key : ∀ rs : List Pr, putAll rs.reverse = lastF rs.reverse := by
    intro rs
    induction rs with
    | nil => rfl
    | cons p r ih =>
      rw [List.reverse_cons]
      generalize r.reverse = qs at ih
      have e1 : putAll (qs ++ [p]) = storeKV (putAll qs) p.1 (p.2 ++ [44]) := by unfold putAll; rw [List.foldl_append]; rfl
      rw [e1, ih]
      unfold storeKV
      rw [last_any]
      have hfn : (keysF qs).contains p.1 = false → ∀ f ∈ firstsF qs, (p.1 == f) = false := fun hc f hf => by
        rw [beq_eq_false_iff_ne]
        intro q
        obtain ⟨x, hx, e⟩ := firsts_mem hf
        have : (keysF qs).contains p.1 = true := by
          rw [List.contains_iff_mem, q]; exact List.mem_map.mpr ⟨x, hx, e⟩
        rw [hc] at this; cases this
      cases hc : (keysF qs).contains p.1 with
      | true =>
        rw [if_pos rfl]
        unfold lastF
        rw [firsts_snoc, hc, if_pos rfl, List.map_map]
        apply List.map_congr_left
        intro f _
        simp only [Function.comp]
        rw [lastVal_snoc]
        by_cases q : f = p.1
        · subst q; simp
        · have a1 : (f == p.1) = false := by simpa using q
          have a2 : (p.1 == f) = false := by simpa using fun z => q z.symm
          rw [a1, a2]; rfl
      | false =>
        rw [if_neg (by decide)]
        unfold lastF
        rw [firsts_snoc, hc, if_neg (by decide), List.map_append]
        congr 1
        · apply List.map_congr_left
          intro f hf
          rw [lastVal_snoc, hfn hc f hf]; rfl
        · simp [lastVal_snoc]
  have := key ps.reverse
  rwa [List.reverse_reverse] at this

/-! the second text -/
/-- a pair out of the first text -/
structure PP (p : Pr) : Prop where
  key : 61 ∉ p.1
  val : p.2 ≠ []
  kch : ∀ c ∈ p.1, gc c ∧ c ≠ 44
  vch : ∀ c ∈ p.2, gc c ∧ c ≠ 44
  head : p.1.head? ≠ some 32
  len : p.1.length + p.2.length ≤ 100

theorem hst_quoted : ∀ (t : List Nat) (res : Wds) (part : List Nat), 34 ∉ t → t.foldl hst (res, part, true) = (res, part ++ t, true)
  | [], res, part, _ => by simp
  | c :: r, res, part, h => by
    have c2 : (c != 34) = true := by rw [bne_iff_ne]; exact fun q => h (by rw [q]; exact List.mem_cons_self)
    have e : hst (res, part, true) c = (res, part ++ [c], true) := by simp [hst, c2]
    rw [List.foldl_cons, e, hst_quoted r _ _ fun q => h (List.mem_cons_of_mem _ q)]
    simp
theorem hst_wr {p : Pr} (ok : PP p) (res : Wds) (part : List Nat) : (wr p).foldl hst (res, part, false) = (res, part ++ wr p, false) := by
  have k44 : 44 ∉ p.1 ++ [61] := fun q => by
    rcases List.mem_append.mp q with q | q
    · exact (ok.kch 44 q).2 rfl
    · simp at q
  have k34 : 34 ∉ p.1 ++ [61] := fun q => by
    rcases List.mem_append.mp q with q | q
    · exact (ok.kch 34 q).1.2 rfl
    · simp at q
  have v34 : 34 ∉ p.2 ++ [44] := fun q => by
    rcases List.mem_append.mp q with q | q
    · exact (ok.vch 34 q).1.2 rfl
    · simp at q
  have e : wr p = (p.1 ++ [61]) ++ (34 :: ((p.2 ++ [44]) ++ [34])) := by simp [wr]
  rw [e, List.foldl_append, hst_plain _ _ _ k44 k34, List.foldl_cons]
  have e1 : hst (res, part ++ (p.1 ++ [61]), false) 34 = (res, part ++ (p.1 ++ [61]) ++ [34], true) := by simp [hst]
  rw [e1, List.foldl_append, hst_quoted _ _ _ v34]
  simp [hst]

theorem dropWhile_no {l : List Nat} (h : l.head? ≠ some 32) : l.dropWhile (· == 32) = l := by
  cases l with
  | nil => rfl
  | cons c r =>
    rw [List.dropWhile_cons, if_neg]
    intro q
    exact h (by simp at q; rw [q]; rfl)
theorem strip_same {l : List Nat} (h1 : l.head? ≠ some 32) (h2 : l.getLast? ≠ some 32) : stripS l = l := by
  unfold stripS
  rw [dropWhile_no h1, dropWhile_no (by rw [List.head?_reverse]; exact h2), List.reverse_reverse]
theorem wr_head {p : Pr} (ok : PP p) : (wr p).head? ≠ some 32 := by
  have := ok.head
  cases h : p.1 with
  | nil => simp [wr, h]
  | cons c r => rw [h] at this; simpa [wr, h] using this
theorem wr_last (p : Pr) : (wr p).getLast? ≠ some 32 := by
  have e : wr p = (p.1 ++ [61, 34] ++ p.2 ++ [44]) ++ [34] := by simp [wr]
  rw [e, List.getLast?_concat]; decide
theorem wr_ne (p : Pr) : (wr p).isEmpty = false := by
  unfold wr; simp
theorem strip_wr {p : Pr} (ok : PP p) : stripS (wr p) = wr p := strip_same (wr_head ok) (wr_last p)
theorem strip_blank (l : List Nat) : stripS (32 :: l) = stripS l := by unfold stripS; rw [List.dropWhile_cons, if_pos (by simp)]

/-- what is left to read, behind a first part -/
theorem http_more : ∀ (ps : List Pr) (p : Pr) (res : Wds) (part : List Nat), (∀ q ∈ p :: ps, PP q) →
    (joinL [44, 32] ((p :: ps).map wr)).foldl hst (res, part, false) = (res ++ ((part ++ wr p) :: ps.map fun q => 32 :: wr q).dropLast, (((part ++ wr p) :: ps.map fun q => 32 :: wr q)).getLastD [], false)
  | [], p, res, part, h => by
    show (wr p).foldl hst _ = _
    rw [hst_wr (h p List.mem_cons_self)]
    simp
  | q :: r, p, res, part, h => by
    show (wr p ++ [44, 32] ++ joinL [44, 32] ((q :: r).map wr)).foldl hst _ = _
    have e1 : hst (hst (res, part ++ wr p, false) 44) 32 = (res ++ [part ++ wr p], [32], false) := by simp [hst]
    rw [List.foldl_append, List.foldl_append, hst_wr (h p List.mem_cons_self), List.foldl_cons, List.foldl_cons, List.foldl_nil, e1, http_more r q _ _ fun x hx => h x (List.mem_cons_of_mem _ hx)]
    simp

theorem http_written {ps : List Pr} (h : ∀ p ∈ ps, PP p) : httpF (writtenF ps) = ps.map wr := by
  unfold httpF writtenF
  cases ps with
  | nil => rfl
  | cons p r =>
    rw [http_more r p [] [] h]
    unfold partsOf
    simp only [List.nil_append]
    have hne : (wr p :: r.map fun q => 32 :: wr q) ≠ [] := by simp
    have el : (wr p :: r.map fun q => 32 :: wr q).getLastD [] = (wr p :: r.map fun q => 32 :: wr q).getLast hne := by
      rw [List.getLastD_eq_getLast?, List.getLast?_eq_some_getLast hne]; rfl
    have hl : ((wr p :: r.map fun q => 32 :: wr q).getLastD []).isEmpty = false := by
      rw [el]
      have hm := List.getLast_mem hne
      rcases List.mem_cons.mp hm with q | q
      · rw [q]; exact wr_ne p
      · obtain ⟨x, _, e⟩ := List.mem_map.mp q
        rw [← e]; rfl
    rw [hl, if_neg (by decide), el, List.dropLast_concat_getLast]
    rw [List.map_cons, List.map_cons, strip_wr (h p List.mem_cons_self), List.map_map]
    congr 1
    apply List.map_congr_left
    intro q hq
    show stripS (32 :: wr q) = wr q
    rw [strip_blank, strip_wr (h q (List.mem_cons_of_mem _ hq))]

/-- the pair with its quoted value -/
noncomputable def quo (p : Pr) : Pr := (p.1, 34 :: (p.2 ++ [44]) ++ [34])
theorem wr_item (p : Pr) : wr p = itemOf (quo p) := by simp [wr, itemOf, quo]
theorem unq_quo (p : Pr) : unq (quo p).2 = p.2 ++ [44] := by
  unfold unq quo
  have h1 : ((34 :: (p.2 ++ [44]) ++ [34]).head? == some 34) = true := by simp
  have h2 : ((34 :: (p.2 ++ [44]) ++ [34]).getLast? == some 34) = true := by rw [List.getLast?_concat]; rfl
  rw [h1, h2]
  exact sl_inner 34 34 (p.2 ++ [44])
theorem kv_written (ps : List Pr) : (ps.map quo).foldl kvStep [] = lastF ps := by
  rw [← putAll_last]
  unfold putAll
  rw [List.foldl_map]
  congr 1
  funext kvs p
  unfold kvStep
  rw [unq_quo]; rfl

/-! the pairs of the first text -/
theorem ansF_inv {s k v : List Nat} (h : ansF s = .pair k v) : s = k ++ 61 :: v ∧ 61 ∉ k ∧ v ≠ [] := by
  by_cases h61 : 61 ∈ s
  · obtain ⟨a, b, e, ha⟩ := first61 h61
    cases b with
    | nil => rw [e, ansF_bh ha] at h; cases h
    | cons c b =>
      rw [e, ansF_pair ha (by simp)] at h
      cases h
      exact ⟨e, ha, by simp⟩
  · rw [ansF_no h61] at h; cases h

theorem hst_no44 : ∀ (t : List Nat) (s : HS), s.2.2 = false → 34 ∉ t → (∀ p ∈ s.1, 44 ∉ p) → 44 ∉ s.2.1 → (∀ p ∈ (t.foldl hst s).1, 44 ∉ p) ∧ 44 ∉ (t.foldl hst s).2.1
  | [], _, _, _, h1, h2 => ⟨h1, h2⟩
  | c :: r, (res, part, q), hq, h34, h1, h2 => by
    simp only at hq
    subst hq
    have h34' : 34 ∉ r := fun z => h34 (List.mem_cons_of_mem _ z)
    rw [List.foldl_cons]
    by_cases hc : c = 44
    · have e : hst (res, part, false) c = (res ++ [part], [], false) := by simp [hst, hc]
      rw [e]
      refine hst_no44 r _ rfl h34' (fun p hp => ?_) (by simp)
      rcases List.mem_append.mp hp with z | z
      · exact h1 p z
      · rw [List.mem_singleton.mp z]; exact h2
    · have c2 : (c == 34) = false := by rw [beq_eq_false_iff_ne]; exact fun z => h34 (by rw [z]; exact List.mem_cons_self)
      have e : hst (res, part, false) c = (res, part ++ [c], false) := by simp [hst, hc, c2]
      rw [e]
      refine hst_no44 r _ rfl h34' h1 fun z => ?_
      rcases List.mem_append.mp z with z | z
      · exact h2 z
      · exact hc (List.mem_singleton.mp z).symm

theorem stripS_sub (l : List Nat) : ∀ c ∈ stripS l, c ∈ l := fun c hc => by
  unfold stripS at hc
  have h1 := List.mem_reverse.mp hc
  have h2 := (List.dropWhile_sublist _).subset h1
  exact (List.dropWhile_sublist _).subset (List.mem_reverse.mp h2)
theorem stripS_len (l : List Nat) : (stripS l).length ≤ l.length := by
  unfold stripS
  rw [List.length_reverse]
  refine Nat.le_trans (List.dropWhile_sublist _).length_le ?_
  rw [List.length_reverse]
  exact (List.dropWhile_sublist _).length_le

/-- an item of the first text -/
structure IT (s : List Nat) : Prop where
  ch : ∀ c ∈ s, gc c ∧ c ≠ 44
  head : s.head? ≠ some 32
  len : s.length ≤ 83

theorem items_ok {t : List Nat} (h : ∀ c ∈ t, gc c) (hl : t.length ≤ 83) : ∀ s ∈ httpF t, IT s := by
  have h34 : 34 ∉ t := fun q => (h 34 q).2 rfl
  have hsub : ∀ c ∈ t, okc c := fun c hc => (h c hc).1
  have hp := parts_ok hsub
  have h44 := hst_no44 t ([], [], false) rfl h34 (fun p hp => by cases hp) (by simp)
  have hp44 : ∀ p ∈ partsOf (t.foldl hst ([], [], false)), 44 ∉ p := fun p hpm => by
    unfold partsOf at hpm
    split at hpm
    · exact h44.1 p hpm
    · rcases List.mem_append.mp hpm with q | q
      · exact h44.1 p q
      · rw [List.mem_singleton.mp q]; exact h44.2
  have hp34 : ∀ p ∈ partsOf (t.foldl hst ([], [], false)), ∀ c ∈ p, c ∈ t := by
    have key : ∀ (u : List Nat) (s : HS), (∀ c ∈ u, c ∈ t) → (∀ p ∈ s.1, ∀ c ∈ p, c ∈ t) → (∀ c ∈ s.2.1, c ∈ t) → (∀ p ∈ (u.foldl hst s).1, ∀ c ∈ p, c ∈ t) ∧ ∀ c ∈ (u.foldl hst s).2.1, c ∈ t := by
      intro u
      induction u with
      | nil => intro s _ a b; exact ⟨a, b⟩
      | cons a r ih =>
        intro s h0 h1 h2
        rw [List.foldl_cons]
        have h3 : ∀ c ∈ s.2.1 ++ [a], c ∈ t := fun c hc => by
          rcases List.mem_append.mp hc with q | q
          · exact h2 c q
          · rw [List.mem_singleton.mp q]; exact h0 a List.mem_cons_self
        refine ih _ (fun c hc => h0 c (List.mem_cons_of_mem _ hc)) ?_ ?_
        · unfold hst
          split
          · exact h1
          · split
            · intro p hp
              rcases List.mem_append.mp hp with q | q
              · exact h1 p q
              · rw [List.mem_singleton.mp q]; exact h2
            · exact h1
        · unfold hst
          split
          · exact h3
          · split
            · intro c hc; cases hc
            · exact h3
    have hk := key t ([], [], false) (fun _ h => h) (fun p hp => by cases hp) (fun c hc => by cases hc)
    intro p hpm
    unfold partsOf at hpm
    split at hpm
    · exact hk.1 p hpm
    · rcases List.mem_append.mp hpm with q | q
      · exact hk.1 p q
      · rw [List.mem_singleton.mp q]; exact hk.2
  intro s hs
  unfold httpF at hs
  obtain ⟨p, hpm, rfl⟩ := List.mem_map.mp hs
  obtain ⟨_, _, _, h1, _⟩ := strip_parts p
  refine ⟨fun c hc => ?_, h1, ?_⟩
  · have hcp := stripS_sub p c hc
    exact ⟨h c (hp34 p hpm c hcp), fun q => hp44 p hpm (q ▸ hcp)⟩
  · have := (hp p hpm).2
    have := stripS_len p
    omega

theorem pairs_ok {ls : Wds} (h : ∀ s ∈ ls, IT s) : ∀ p ∈ pairsF ls, PP p := by
  intro p hp
  unfold pairsF at hp
  obtain ⟨s, hs, rfl⟩ := List.mem_map.mp hp
  obtain ⟨hs, ht⟩ := List.mem_filter.mp hs
  have ok := h s hs
  cases ha : ansF s with
  | no => rw [ha] at ht; cases ht
  | bh => rw [ha] at ht; cases ht
  | pair k v =>
    obtain ⟨e, hk, hv⟩ := ansF_inv ha
    show PP (k, v)
    refine ⟨hk, hv, fun c hc => ok.ch c (by rw [e]; exact List.mem_append_left _ hc), fun c hc => ok.ch c (by rw [e]; exact List.mem_append_right _ (List.mem_cons_of_mem _ hc)), ?_, ?_⟩
    · have := ok.head
      cases k with
      | nil => simp
      | cons c r => rw [e] at this; simpa using this
    · have := ok.len
      rw [e] at this
      simp only [List.length_append, List.length_cons] at this
      show k.length + v.length ≤ 100
      omega
theorem pairs_len (ls : Wds) : (pairsF ls).length ≤ ls.length := by
  unfold pairsF
  rw [List.length_map]
  exact List.length_filter_le _ _
theorem http_len (t : List Nat) : (httpF t).length ≤ t.length + 1 := by
  unfold httpF
  rw [List.length_map]
  exact parts_len t
theorem quo_ok {p : Pr} (ok : PP p) : PrOk (quo p) := by
  refine ⟨ok.key, by simp [quo], fun c hc => ?_, ?_⟩
  · rw [← wr_item] at hc
    unfold wr at hc
    simp only [List.mem_append, List.mem_cons, List.not_mem_nil, or_false] at hc
    rcases hc with ((q | q | q) | q) | q | q
    · exact Nat.lt_trans (ok.kch c q).1.1.2.1 (by decide)
    · rw [q]; decide
    · rw [q]; decide
    · exact Nat.lt_trans (ok.vch c q).1.1.2.1 (by decide)
    · rw [q]; decide
    · rw [q]; decide
  · rw [← wr_item]
    have := ok.len
    unfold wr
    simp only [List.length_append, List.length_cons, List.length_nil]; omega
theorem wr_len {p : Pr} (ok : PP p) : (wr p).length ≤ 104 := by
  have := ok.len
  unfold wr
  simp only [List.length_append, List.length_cons, List.length_nil]; omega
theorem wr_ok {p : Pr} (ok : PP p) : ∀ c ∈ wr p, okc c := fun c hc => by
  unfold wr at hc
  simp only [List.mem_append, List.mem_cons, List.not_mem_nil, or_false] at hc
  rcases hc with ((q | q | q) | q) | q | q
  · exact (ok.kch c q).1.1
  · rw [q]; decide
  · rw [q]; decide
  · exact (ok.vch c q).1.1
  · rw [q]; decide
  · rw [q]; decide
theorem join_ok (m : List Nat) (hm : ∀ c ∈ m, okc c) : ∀ ls : Wds, (∀ l ∈ ls, ∀ c ∈ l, okc c) → ∀ c ∈ joinL m ls, okc c
  | [], _, c, hc => by cases hc
  | [l], h, c, hc => h l List.mem_cons_self c hc
  | l :: k :: r, h, c, hc => by
    have hc : c ∈ l ++ m ++ joinL m (k :: r) := hc
    rcases List.mem_append.mp hc with q | q
    · rcases List.mem_append.mp q with q | q
      · exact h l List.mem_cons_self c q
      · exact hm c q
    · exact join_ok m hm (k :: r) (fun x hx => h x (List.mem_cons_of_mem _ hx)) c q
theorem join_len (m : List Nat) (b : Nat) : ∀ ls : Wds, (∀ l ∈ ls, l.length ≤ b) → (joinL m ls).length ≤ ls.length * (b + m.length)
  | [], _ => by simp [joinL]
  | [l], h => by
    have := h l List.mem_cons_self
    show l.length ≤ 1 * _
    omega
  | l :: k :: r, h => by
    have h1 := h l List.mem_cons_self
    have ih := join_len m b (k :: r) fun x hx => h x (List.mem_cons_of_mem _ hx)
    show (l ++ m ++ joinL m (k :: r)).length ≤ _
    rw [List.length_append, List.length_append, List.length_cons, Nat.succ_mul]
    omega
theorem written_ok {ps : List Pr} (h : ∀ p ∈ ps, PP p) : ∀ c ∈ writtenF ps, okc c := by
  refine join_ok _ (by decide) _ fun l hl => ?_
  obtain ⟨p, hp, rfl⟩ := List.mem_map.mp hl
  exact wr_ok (h p hp)
end Mine

-- F15
namespace Mine

theorem plains_map {α : Type} {f : α → D} : ∀ {l : List α}, (∀ a ∈ l, plain (f a) = true) → plains (l.map f) = true
  | [], _ => rfl
  | a :: r, h => by
    rw [List.map_cons, plains, h a List.mem_cons_self, plains_map fun x hx => h x (List.mem_cons_of_mem _ hx)]; rfl
theorem depths_map {α : Type} {f : α → D} {k : Nat} : ∀ {l : List α}, (∀ a ∈ l, depth (f a) ≤ k) → depths (l.map f) ≤ k
  | [], _ => Nat.zero_le _
  | a :: r, h => by
    have h1 := h a List.mem_cons_self
    have h2 := depths_map fun x hx => h x (List.mem_cons_of_mem _ hx)
    rw [List.map_cons, depths]; exact Nat.max_le.mpr ⟨h1, h2⟩
theorem plain_pd (w : List Nat) : plain (pd w) = true := rfl
theorem plain_pairD (p : Pr) : plain (pairD p) = true := rfl
theorem depth_pd (w : List Nat) : depth (pd w) ≤ 1 := Nat.le_refl _
theorem depth_pairD (p : Pr) : depth (pairD p) ≤ 1 := Nat.le_refl _
theorem plain_rD (ws : Wds) : plain (rD ws) = true := by
  show plains (ws.map pd) = true
  exact plains_map fun w _ => plain_pd w
theorem depth_rD (ws : Wds) : depth (rD ws) ≤ 2 := Nat.succ_le_succ (depths_map (f := pd) (k := 1) (l := ws) fun w _ => depth_pd w)
theorem plain_ansD (a : Ans) : plain (ansD a) = true := by cases a <;> rfl
theorem depth_ansD (a : Ans) : depth (ansD a) ≤ 2 := by
  cases a with
  | no => exact Nat.zero_le _
  | bh => exact Nat.zero_le _
  | pair k v => exact Nat.le_refl _
theorem plain_readD (s : List Nat) : plain (readD s) = true := by
  show plains [ansD (ansF s), rD (wd s)] = true
  simp only [plains, plain_ansD, plain_rD]; rfl
theorem depth_readD (s : List Nat) : depth (readD s) ≤ 3 := Nat.succ_le_succ (Nat.max_le.mpr ⟨depth_ansD (ansF s), Nat.max_le.mpr ⟨depth_rD (wd s), Nat.zero_le _⟩⟩)
theorem to1000 {x : Nat} (h : x ≤ 83) : x ≤ 1000 := Nat.le_trans h (by decide)
theorem to84 {x y : Nat} (h : x ≤ y) (h' : y ≤ 83) : x ≤ 83 := Nat.le_trans h h'

section
variable {C : Cfg} {n : Nat} {scope sc : Scope} {Γ Γf : Gm}

theorem CLL.map {x : Str} {elt : Expr} {α : Type} {f g : α → D} : ∀ {ls : List α}, (∀ w ∈ ls, EVL C n sc [(x, f w)] elt (g w)) → CLL C n sc x elt (ls.map f) (ls.map g)
  | [], _ => .nil
  | w :: _, h => .keep (h w List.mem_cons_self) (CLL.map fun u hu => h u (List.mem_cons_of_mem _ hu))

/-- the outermost call -/
theorem callTop {a : Addr} {ps : List Str} {body : List Stmt} {ds : List D} {d : D} (f : FnAt C a ps sc body) (hlen : ps.length = ds.length) (h : EXF C n sc (ps.zip ds) body d) (hnc : ∀ k, cellsFrom k sc.names [] = [])
    {A : Around} {s : Shared} {bad : List Addr} {vs : List Value} {Q : Value → Shared → Prop} {E : Value → Shared → Prop} (W : Wd C (n + 1) A bad s.heap) (hh : A.handled = none) (hfr : A.frames = some []) (all : DAll C bad s.heap vs ds)
    (K : ∀ v s', Kp s s' → DIn C bad s'.heap v d → Q v s') : wpAny (model C.prog C.w) A (call (.ref a) vs) Q E s := by
  exact call_in f hlen W all fun r mu s₁ U => h.run _ s₁ r bad mu _ _ hh (Around.frames_deeper hfr) U.fr (U.cs.trans (hnc _)) U.W U.F fun v s' st i => K v s' (U.back st) i

set_option maxHeartbeats 1000000 in
theorem law_body (P : Prg C) (hq : C.q = true) {ns : List Int} (hns : ns.length ≤ 63) : EXF C (n + 5) (scopeAt 67) ((paramsAt 67).zip [.list (ns.map .int)]) (bodyAt 67) (.bool true) := by
  obtain ⟨htc, htl⟩ := text_ok ns
  generalize ht : textF ns = t at htc htl
  have h34 : 34 ∉ t := fun q => (htc 34 q).2 rfl
  have hok : ∀ c ∈ t, okc c := fun c hc => (htc c hc).1
  have hit := items_ok htc htl
  have hil := http_len t
  have hpp := pairs_ok hit
  have hppl := pairs_len (httpF t)
  generalize hps : pairsF (httpF t) = ps at hpp hppl
  have hparts := parts_ok hok
  have hpl : (partsOf (t.foldl hst ([], [], false))).length ≤ 84 := Nat.le_trans (parts_len t) (Nat.succ_le_succ htl)
  have hil' : (httpF t).length ≤ 84 := Nat.le_trans hil (Nat.succ_le_succ htl)
  have hps84 : ps.length ≤ 84 := Nat.le_trans hppl hil'
  have htext : FN C (n + 5) 36 [.list (ns.map .int)] (.str t) := ht ▸ fn_text (n := n + 4) P (Nat.le_trans hns (by decide))
  refine EXF.cons (ES.assign (EVO.of (EV.callF (EV.glob P.g_text rfl rfl) (EVs.one (EV.name rfl rfl)) htext P.f_text.fd)) rfl (.inl rfl) Own.noneNe) ?_
  -- told
  have hrows : FN C (n + 5) 74 [.list ((wd t).map pd)] (.list ((partsOf (t.foldl hst ([], [], false))).map fun p => rD (wd p))) := by
    have := fn_rows (n := n + 4) P (ws := wd t) (to1000 (Nat.le_trans (wd_length t) htl))
    rw [rows_parts h34, List.map_map] at this
    exact this
  refine EXF.cons (ES.assignComp (Γf := []) (ds' := (httpF t).map readD) (EI.of (EV.callF (EV.glob P.g_rows rfl rfl) (EVs.one (EV.callF (EV.glob P.g_by_shape rfl rfl) (EVs.one (EV.name rfl rfl)) (fn_byShape P (to1000 htl)) P.f_by_shape.fd)) hrows P.f_rows.fd) ITER.list) (by
    unfold httpF
    rw [List.map_map]
    refine CL.map (g := readD ∘ stripS) (fun p hp => ?_) rfl rfl
    have hp83 : p.length ≤ 83 := Nat.le_trans (hparts p hp).2 htl
    have hw1 := wd_length p
    have hw2 := wd_length (stripS p)
    have hs2 := stripS_len p
    have hbare : FN C (n + 5) 79 [rD (wd p)] (rD (wd (stripS p))) := by
      have := fn_bare (n := n + 4) P (ws := wd p) (to1000 (Nat.le_trans hw1 hp83))
      rw [bare_wd] at this; exact this
    have htold : FN C (n + 5) 98 [rD (wd (stripS p))] (readD (stripS p)) := by
      have := fn_told (n := n + 4) P hq (ws := wd (stripS p)) (to1000 (Nat.le_trans hw2 (Nat.le_trans hs2 hp83))) (by rw [wd_flat]; exact Nat.le_trans (Nat.le_trans hs2 hp83) (by decide))
      rw [wd_flat] at this; exact this
    exact EV.callF (EV.glob P.g_told rfl rfl) (EVs.one (EV.callF (EV.glob P.g_bare rfl rfl) (EVs.one (EV.name rfl rfl)) hbare P.f_bare.fd)) htold P.f_told.fd) rfl (Seen.none (by decide +kernel)) (by rw [List.length_map]; exact Nat.le_trans hpl (by decide)) (by decide +kernel) rfl (.inl rfl) Own.noneNe (by intro _; rfl)) ?_
  -- read
  refine EXF.consF (ESF.assignComp (ds' := (httpF t).map readD) (EI.of (EV.callF (EV.glob P.g_http rfl rfl) (EVs.one (EV.name rfl rfl)) (fn_http P hok (Nat.le_trans htl (by decide))) P.f_http.fd) ITER.list) (CLL.map fun s hs => EVL.callF (EV.glob P.g_read rfl rfl) (EVs.one (EV.name rfl rfl)) (fn_read P hq (fun c hc => ((hit s hs).ch c hc).1) (Nat.le_trans (hit s hs).len (by decide))) P.f_read.fd) rfl rfl rfl (by
      intro x hx
      simp at hx) (by rw [List.length_map]; exact Nat.le_trans hil' (by decide)) (by decide +kernel) rfl (.inl rfl) (by intro _; rfl)) ?_
  -- pairs
  have hsound : FN C (n + 5) 103 [.list ((httpF t).map readD)] (.list (ps.map pairD)) := hps ▸ fn_sound (n := n + 4) P (Nat.le_trans hil' (by decide))
  refine EX.cons (ES.assign (EVO.of (EV.callF (EV.glob P.g_sound rfl rfl) (EVs.one (EV.name rfl rfl)) hsound P.f_sound.fd)) rfl (.inl rfl) Own.noneNe) ?_
  -- again
  have hwsum : (ps.map fun p => (wr p).length).sum ≤ ps.length * 104 := by
    have : ∀ l : List Pr, (∀ p ∈ l, PP p) → (l.map fun p => (wr p).length).sum ≤ l.length * 104 := by
      intro l
      induction l with
      | nil => intro _; simp
      | cons a r ih =>
        intro hl
        have h1 := wr_len (hl a List.mem_cons_self)
        have h2 := ih fun p hp => hl p (List.mem_cons_of_mem _ hp)
        rw [List.map_cons, List.sum_cons, List.length_cons, Nat.succ_mul]; omega
    exact this ps hpp
  have hwritten : FN C (n + 5) 108 [.list (ps.map pairD)] (.str (writtenF ps)) := fn_written (n := n + 4) P hq (Nat.le_trans hps84 (by decide)) (Nat.le_trans hwsum (Nat.le_trans (Nat.mul_le_mul_right _ hps84) (by decide))) (fun p hp => Nat.le_trans (wr_len (hpp p hp)) (by decide))
  have hwl : (writtenF ps).length ≤ ps.length * 106 := by
    have := join_len [44, 32] 104 (ps.map wr) fun l hl => by
      obtain ⟨p, hp, rfl⟩ := List.mem_map.mp hl
      exact wr_len (hpp p hp)
    rw [List.length_map] at this
    exact this
  have hhttp : FN C (n + 5) 26 [.str (writtenF ps)] (.list ((ps.map quo).map fun p => .str (itemOf p))) := by
    have := fn_http (n := n + 4) P (written_ok hpp) (Nat.le_trans hwl (Nat.le_trans (Nat.mul_le_mul_right _ hps84) (by decide)))
    rw [http_written hpp, List.map_map] at this
    rw [List.map_map]
    have e : (D.str ∘ wr) = ((fun p : Pr => D.str (itemOf p)) ∘ quo) := by funext p; show D.str (wr p) = D.str (itemOf (quo p)); rw [wr_item]
    rw [← e]; exact this
  have hkeqv : FN C (n + 5) 21 [.list ((ps.map quo).map fun p => .str (itemOf p))] (.dict (lastF ps)) := by
    have := fn_keqv (n := n + 4) P (ps := ps.map quo) (fun q hq => by
      obtain ⟨p, hp, rfl⟩ := List.mem_map.mp hq
      exact quo_ok (hpp p hp)) (by rw [List.length_map]; exact Nat.le_trans hps84 (by decide))
    rw [kv_written] at this; exact this
  refine EX.cons (ES.assign (EVO.of (EV.callF (EV.glob P.g_keqv rfl rfl) (EVs.one (EV.callF (EV.glob P.g_http rfl rfl) (EVs.one (EV.callF (EV.glob P.g_written rfl rfl) (EVs.one (EV.name rfl rfl)) hwritten P.f_written.fd)) hhttp P.f_http.fd)) hkeqv P.f_keqv.fd)) rfl (.inl rfl) Own.noneNe) ?_
  -- the answer
  have hlf : (lastF ps).length ≤ ps.length := by
    unfold lastF; rw [List.length_map]; exact firsts_len ps
  have hlast : FN C (n + 5) 113 [.list (ps.map pairD)] (.list ((lastF ps).map pairD)) := fn_last (n := n + 4) P hq (Nat.le_trans hps84 (by decide)) (fun p hp => Nat.le_trans (Nat.le_add_left _ _) (Nat.le_trans (hpp p hp).len (by decide)))
  exact EX.ret (ES.ret (EVO.of (EV.and2 (EV.cmp (EV.name rfl rfl) (EV.name rfl rfl) (OP2.eqList (plains_map fun s _ => plain_readD s) (Nat.le_trans (depths_map fun s _ => depth_readD s) (by decide))))
    (EV.cmp (EV.listItems hq (EV.builtin P.b_list bbList rfl rfl) (EV.name rfl rfl) (Nat.le_trans hlf (Nat.le_trans hps84 (by decide)))) (EV.callF (EV.glob P.g_last rfl rfl) (EVs.one (EV.name rfl rfl)) hlast P.f_last.fd) (OP2.eqList (plains_map fun p _ => plain_pairD p) (Nat.le_trans (depths_map fun p _ => depth_pairD p) (by decide)))))))
end
end Mine

-- K0
namespace Mine

noncomputable def fdOf (k : Nat) (c : Addr) (m : Str) (t : Tok) : FuncData := match PySem.Challenge.pw_mj0158_01.main.body[k]? with
  | some (.FunctionDef x a b _ _ _ sc _ _ _) => { name := x, qualname := x, params := a, body := .stmts b, scope := sc, globals := 3, closure := [], defaults := .none, kwdefaults := .none, pyModule := .str m t, code := .ref c }
  | _ => default
noncomputable def fnObj (k : Nat) (c : Addr) (m : Str) (t : Tok) : Obj := { cls := .type "function", data := .func (fdOf k c m t) }
/-- the name that the k-th statement of the text binds -/
noncomputable def nmAt (k : Nat) : Str := match PySem.Challenge.pw_mj0158_01.main.body[k]? with
  | some (.FunctionDef x _ _ _ _ _ _ _ _ _) => x
  | some (.Assign [.Name x _] _ _) => x
  | _ => default
noncomputable def nmE (P : Params) (x : Nat × Tok × Value) : DictEntry := ⟨PyData.keyHash P (nmAt x.1), .str (nmAt x.1) x.2.1, x.2.2⟩
noncomputable def tE (P : Params) (x : List Nat × Tok × Value) : DictEntry := ⟨PyData.keyHash P (T x.1), .str (T x.1) x.2.1, x.2.2⟩
/-- the table: each token's signs, their tag, its number, its tag -/
noncomputable def kvT : List (List Nat × Tok × Int × Tok) := [([33], 302, 54, 300), ([33, 61], 304, 28, 248), ([37], 306, 24, 240), ([37, 61], 308, 40, 272), ([38], 310, 19, 230), ([38, 61], 312, 41, 274), ([40], 314, 7, 206), ([41], 316, 8, 208), ([42], 318, 16, 224), ([42, 42], 320, 35, 262), ([42, 42, 61], 322, 46, 284), ([42, 61], 324, 38, 268), ([43], 326, 14, 220), ([43, 61], 328, 36, 264), ([44], 330, 12, 216), ([45], 332, 15, 222), ([45, 61], 334, 37, 266), ([45, 62], 336, 51, 294), ([46], 338, 23, 238), ([46, 46, 46], 340, 52, 296), ([47], 342, 17, 226), ([47, 47], 344, 47, 286), ([47, 47, 61], 346, 48, 288), ([47, 61], 348, 39, 270), ([58], 350, 11, 214), ([58, 61], 352, 53, 298), ([59], 354, 13, 218), ([60], 356, 20, 232), ([60, 60], 358, 33, 258), ([60, 60, 61], 360, 44, 280), ([60, 61], 362, 29, 250), ([61], 364, 22, 236), ([61, 61], 366, 27, 246), ([62], 368, 21, 234), ([62, 61], 370, 30, 252), ([62, 62], 371, 34, 260), ([62, 62, 61], 372, 45, 282), ([64], 373, 49, 290), ([64, 61], 374, 50, 292), ([91], 375, 9, 210), ([93], 376, 10, 212), ([94], 377, 32, 256), ([94, 61], 378, 43, 278), ([123], 379, 25, 242), ([124], 380, 18, 228), ([124, 61], 381, 42, 276), ([125], 382, 26, 244), ([126], 383, 31, 254)]
noncomputable def entE (P : Params) (x : List Nat × Tok × Int × Tok) : DictEntry := ⟨PyData.keyHash P (T x.1), .str (T x.1) x.2.1, .int x.2.2.1 x.2.2.2⟩
noncomputable def ent3 (P : Params) : List DictEntry :=
  [([95, 95, 110, 97, 109, 101, 95, 95], 165, Value.str (T [108, 97, 119, 95, 109, 106, 48, 49, 53, 56, 95, 48, 49]) 399), ([95, 95, 100, 111, 99, 95, 95], 166, Value.none), ([95, 95, 112, 97, 99, 107, 97, 103, 101, 95, 95], 167, Value.none), ([95, 95, 108, 111, 97, 100, 101, 114, 95, 95], 168, Value.builtin "__main__.__loader__#opaque"), ([95, 95, 115, 112, 101, 99, 95, 95], 169, Value.none), ([95, 95, 97, 110, 110, 111, 116, 97, 116, 105, 111, 110, 115, 95, 95], 170, Value.ref 6), ([95, 95, 98, 117, 105, 108, 116, 105, 110, 115, 95, 95], 171, Value.ref 4), ([95, 95, 102, 105, 108, 101, 95, 95], 173, Value.str (T [47, 99, 108, 97, 105, 109, 47, 99, 117, 116, 46, 112, 121]) 172), ([95, 95, 99, 97, 99, 104, 101, 100, 95, 95], 174, Value.none)].map (tE P) ++ ([(1, 199, .ref 21), (2, 205, .ref 26)].map (nmE P) ++ ((List.range 48).map (fun i => nmE P (3 + i, 207 + 2 * i, .int (7 + (i : Int)) (206 + 2 * i))) ++ [(51, 398, Value.ref 27), (53, 411, Value.ref 36), (54, 421, Value.ref 43), (55, 430, Value.ref 50), (56, 439, Value.ref 57), (57, 445, Value.ref 62), (58, 451, Value.ref 67), (59, 460, Value.ref 74), (60, 466, Value.ref 79), (61, 476, Value.ref 86), (62, 484, Value.ref 93), (63, 490, Value.ref 98), (64, 496, Value.ref 103), (65, 502, Value.ref 108), (66, 508, Value.ref 113), (67, 514, Value.ref 118)].map (nmE P)))
noncomputable def codeObj (k t u : Nat) (r : List Value) : Obj := { cls := .type "code", data := .fields (.str (nmAt k) t :: .str (nmAt k) u :: r).toArray }
/-- what stands behind the text's top, as far as the walk asks -/
noncomputable def K0 (P : Params) : Frag :=
  [(3, { cls := Value.type "dict", data := Data.dict (ent3 P).toArray 75 }),
    (27, { cls := Value.type "dict", data := Data.dict (kvT.map (entE P)).toArray 48 }),
    (21, fnObj 1 20 (T [99, 112, 121, 51, 49, 51, 46, 117, 114, 108, 108, 105, 98, 46, 114, 101, 113, 117, 101, 115, 116]) 187),
    (20, codeObj 1 189 190 [Value.str (T [47, 99, 108, 97, 105, 109, 47, 99, 117, 116, 46, 112, 121]) 191, Value.int 2 0, Value.int 1 0, Value.int 0 0, Value.int 0 0, Value.int 3 0, Value.ref 15, Value.bool true, Value.int 181 0, Value.ref 16, Value.none, Value.ref 17, Value.ref 18, Value.ref 19, Value.int 197 0, Value.int 2 0, Value.str (T [47, 99, 108, 97, 105, 109, 47, 99, 117, 116, 46, 112, 121]) 198]),
    (26, fnObj 2 25 (T [99, 112, 121, 51, 49, 51, 46, 117, 114, 108, 108, 105, 98, 46, 114, 101, 113, 117, 101, 115, 116]) 187),
    (25, codeObj 2 200 201 [Value.str (T [47, 99, 108, 97, 105, 109, 47, 99, 117, 116, 46, 112, 121]) 202, Value.int 10 0, Value.int 1 0, Value.int 0 0, Value.int 0 0, Value.int 3 0, Value.ref 22, Value.bool true, Value.int 181 0, Value.ref 23, Value.none, Value.none, Value.none, Value.ref 24, Value.int 203 0, Value.int 10 0, Value.str (T [47, 99, 108, 97, 105, 109, 47, 99, 117, 116, 46, 112, 121]) 204]),
    (36, fnObj 53 35 (T [108, 97, 119, 95, 109, 106, 48, 49, 53, 56, 95, 48, 49]) 399),
    (35, codeObj 53 401 402 [Value.str (T [47, 99, 108, 97, 105, 109, 47, 99, 117, 116, 46, 112, 121]) 403, Value.int 87 0, Value.int 1 0, Value.int 0 0, Value.int 0 0, Value.int 3 0, Value.ref 30, Value.bool true, Value.int 181 0, Value.ref 31, Value.none, Value.ref 32, Value.ref 33, Value.ref 34, Value.int 409 0, Value.int 87 0, Value.str (T [47, 99, 108, 97, 105, 109, 47, 99, 117, 116, 46, 112, 121]) 410]),
    (43, fnObj 54 42 (T [108, 97, 119, 95, 109, 106, 48, 49, 53, 56, 95, 48, 49]) 399),
    (42, codeObj 54 412 413 [Value.str (T [47, 99, 108, 97, 105, 109, 47, 99, 117, 116, 46, 112, 121]) 414, Value.int 94 0, Value.int 2 0, Value.int 0 0, Value.int 0 0, Value.int 3 0, Value.ref 37, Value.bool true, Value.int 181 0, Value.ref 38, Value.none, Value.ref 39, Value.ref 40, Value.ref 41, Value.int 419 0, Value.int 94 0, Value.str (T [47, 99, 108, 97, 105, 109, 47, 99, 117, 116, 46, 112, 121]) 420]),
    (50, fnObj 55 49 (T [108, 97, 119, 95, 109, 106, 48, 49, 53, 56, 95, 48, 49]) 399),
    (49, codeObj 55 422 423 [Value.str (T [47, 99, 108, 97, 105, 109, 47, 99, 117, 116, 46, 112, 121]) 424, Value.int 101 0, Value.int 2 0, Value.int 0 0, Value.int 0 0, Value.int 3 0, Value.ref 44, Value.bool true, Value.int 181 0, Value.ref 45, Value.none, Value.ref 46, Value.ref 47, Value.ref 48, Value.int 428 0, Value.int 101 0, Value.str (T [47, 99, 108, 97, 105, 109, 47, 99, 117, 116, 46, 112, 121]) 429]),
    (57, fnObj 56 56 (T [108, 97, 119, 95, 109, 106, 48, 49, 53, 56, 95, 48, 49]) 399),
    (56, codeObj 56 431 432 [Value.str (T [47, 99, 108, 97, 105, 109, 47, 99, 117, 116, 46, 112, 121]) 433, Value.int 106 0, Value.int 2 0, Value.int 0 0, Value.int 0 0, Value.int 3 0, Value.ref 51, Value.bool true, Value.int 181 0, Value.ref 52, Value.none, Value.ref 53, Value.ref 54, Value.ref 55, Value.int 437 0, Value.int 106 0, Value.str (T [47, 99, 108, 97, 105, 109, 47, 99, 117, 116, 46, 112, 121]) 438]),
    (62, fnObj 57 61 (T [108, 97, 119, 95, 109, 106, 48, 49, 53, 56, 95, 48, 49]) 399),
    (61, codeObj 57 440 441 [Value.str (T [47, 99, 108, 97, 105, 109, 47, 99, 117, 116, 46, 112, 121]) 442, Value.int 117 0, Value.int 1 0, Value.int 0 0, Value.int 0 0, Value.int 3 0, Value.ref 58, Value.bool true, Value.int 181 0, Value.ref 59, Value.none, Value.none, Value.none, Value.ref 60, Value.int 443 0, Value.int 117 0, Value.str (T [47, 99, 108, 97, 105, 109, 47, 99, 117, 116, 46, 112, 121]) 444]),
    (67, fnObj 58 66 (T [108, 97, 119, 95, 109, 106, 48, 49, 53, 56, 95, 48, 49]) 399),
    (66, codeObj 58 446 447 [Value.str (T [47, 99, 108, 97, 105, 109, 47, 99, 117, 116, 46, 112, 121]) 448, Value.int 119 0, Value.int 1 0, Value.int 0 0, Value.int 0 0, Value.int 3 0, Value.ref 63, Value.bool true, Value.int 181 0, Value.ref 64, Value.none, Value.none, Value.none, Value.ref 65, Value.int 449 0, Value.int 119 0, Value.str (T [47, 99, 108, 97, 105, 109, 47, 99, 117, 116, 46, 112, 121]) 450]),
    (74, fnObj 59 73 (T [108, 97, 119, 95, 109, 106, 48, 49, 53, 56, 95, 48, 49]) 399),
    (73, codeObj 59 452 453 [Value.str (T [47, 99, 108, 97, 105, 109, 47, 99, 117, 116, 46, 112, 121]) 454, Value.int 122 0, Value.int 1 0, Value.int 0 0, Value.int 0 0, Value.int 3 0, Value.ref 68, Value.bool true, Value.int 181 0, Value.ref 69, Value.none, Value.ref 70, Value.ref 71, Value.ref 72, Value.int 458 0, Value.int 122 0, Value.str (T [47, 99, 108, 97, 105, 109, 47, 99, 117, 116, 46, 112, 121]) 459]),
    (79, fnObj 60 78 (T [108, 97, 119, 95, 109, 106, 48, 49, 53, 56, 95, 48, 49]) 399),
    (78, codeObj 60 461 462 [Value.str (T [47, 99, 108, 97, 105, 109, 47, 99, 117, 116, 46, 112, 121]) 463, Value.int 132 0, Value.int 1 0, Value.int 0 0, Value.int 0 0, Value.int 3 0, Value.ref 75, Value.bool true, Value.int 181 0, Value.ref 76, Value.none, Value.none, Value.none, Value.ref 77, Value.int 464 0, Value.int 132 0, Value.str (T [47, 99, 108, 97, 105, 109, 47, 99, 117, 116, 46, 112, 121]) 465]),
    (86, fnObj 61 85 (T [108, 97, 119, 95, 109, 106, 48, 49, 53, 56, 95, 48, 49]) 399),
    (85, codeObj 61 467 468 [Value.str (T [47, 99, 108, 97, 105, 109, 47, 99, 117, 116, 46, 112, 121]) 469, Value.int 135 0, Value.int 2 0, Value.int 0 0, Value.int 0 0, Value.int 3 0, Value.ref 80, Value.bool true, Value.int 181 0, Value.ref 81, Value.none, Value.ref 82, Value.ref 83, Value.ref 84, Value.int 474 0, Value.int 135 0, Value.str (T [47, 99, 108, 97, 105, 109, 47, 99, 117, 116, 46, 112, 121]) 475]),
    (93, fnObj 62 92 (T [108, 97, 119, 95, 109, 106, 48, 49, 53, 56, 95, 48, 49]) 399),
    (92, codeObj 62 477 478 [Value.str (T [47, 99, 108, 97, 105, 109, 47, 99, 117, 116, 46, 112, 121]) 479, Value.int 143 0, Value.int 1 0, Value.int 0 0, Value.int 0 0, Value.int 3 0, Value.ref 87, Value.bool true, Value.int 181 0, Value.ref 88, Value.none, Value.ref 89, Value.ref 90, Value.ref 91, Value.int 482 0, Value.int 143 0, Value.str (T [47, 99, 108, 97, 105, 109, 47, 99, 117, 116, 46, 112, 121]) 483]),
    (98, fnObj 63 97 (T [108, 97, 119, 95, 109, 106, 48, 49, 53, 56, 95, 48, 49]) 399),
    (97, codeObj 63 485 486 [Value.str (T [47, 99, 108, 97, 105, 109, 47, 99, 117, 116, 46, 112, 121]) 487, Value.int 151 0, Value.int 1 0, Value.int 0 0, Value.int 0 0, Value.int 3 0, Value.ref 94, Value.bool true, Value.int 181 0, Value.ref 95, Value.none, Value.none, Value.none, Value.ref 96, Value.int 488 0, Value.int 151 0, Value.str (T [47, 99, 108, 97, 105, 109, 47, 99, 117, 116, 46, 112, 121]) 489]),
    (103, fnObj 64 102 (T [108, 97, 119, 95, 109, 106, 48, 49, 53, 56, 95, 48, 49]) 399),
    (102, codeObj 64 491 492 [Value.str (T [47, 99, 108, 97, 105, 109, 47, 99, 117, 116, 46, 112, 121]) 493, Value.int 162 0, Value.int 1 0, Value.int 0 0, Value.int 0 0, Value.int 3 0, Value.ref 99, Value.bool true, Value.int 181 0, Value.ref 100, Value.none, Value.none, Value.none, Value.ref 101, Value.int 494 0, Value.int 162 0, Value.str (T [47, 99, 108, 97, 105, 109, 47, 99, 117, 116, 46, 112, 121]) 495]),
    (108, fnObj 65 107 (T [108, 97, 119, 95, 109, 106, 48, 49, 53, 56, 95, 48, 49]) 399),
    (107, codeObj 65 497 498 [Value.str (T [47, 99, 108, 97, 105, 109, 47, 99, 117, 116, 46, 112, 121]) 499, Value.int 164 0, Value.int 1 0, Value.int 0 0, Value.int 0 0, Value.int 3 0, Value.ref 104, Value.bool true, Value.int 181 0, Value.ref 105, Value.none, Value.none, Value.none, Value.ref 106, Value.int 500 0, Value.int 164 0, Value.str (T [47, 99, 108, 97, 105, 109, 47, 99, 117, 116, 46, 112, 121]) 501]),
    (113, fnObj 66 112 (T [108, 97, 119, 95, 109, 106, 48, 49, 53, 56, 95, 48, 49]) 399),
    (112, codeObj 66 503 504 [Value.str (T [47, 99, 108, 97, 105, 109, 47, 99, 117, 116, 46, 112, 121]) 505, Value.int 166 0, Value.int 1 0, Value.int 0 0, Value.int 0 0, Value.int 3 0, Value.ref 109, Value.bool true, Value.int 181 0, Value.ref 110, Value.none, Value.none, Value.none, Value.ref 111, Value.int 506 0, Value.int 166 0, Value.str (T [47, 99, 108, 97, 105, 109, 47, 99, 117, 116, 46, 112, 121]) 507]),
    (118, fnObj 67 117 (T [108, 97, 119, 95, 109, 106, 48, 49, 53, 56, 95, 48, 49]) 399),
    (117, codeObj 67 509 510 [Value.str (T [47, 99, 108, 97, 105, 109, 47, 99, 117, 116, 46, 112, 121]) 511, Value.int 170 0, Value.int 1 0, Value.int 0 0, Value.int 0 0, Value.int 3 0, Value.ref 114, Value.bool true, Value.int 181 0, Value.ref 115, Value.none, Value.none, Value.none, Value.ref 116, Value.int 512 0, Value.int 170 0, Value.str (T [47, 99, 108, 97, 105, 109, 47, 99, 117, 116, 46, 112, 121]) 513])]
noncomputable def A0 : List Addr := [3, 27, 21, 20, 26, 25, 36, 35, 43, 42, 50, 49, 57, 56, 62, 61, 67, 66, 74, 73, 79, 78, 86, 85, 93, 92, 98, 97, 103, 102, 108, 107, 113, 112, 118, 117]
theorem A0_eq (P : Params) : A0 = (K0 P).map (·.1) := rfl
end Mine

-- TopP
namespace Mine

theorem bind1 {fd : FuncData} {p : Str} (h : ∀ v, bindArgs fd ⟨[v], []⟩ = pure [(p, v)]) (vs : List Value) (e : vs.length = 1) : bindArgs fd ⟨vs, []⟩ = pure ([p].zip vs) := by
  obtain ⟨v, rfl⟩ := List.length_eq_one_iff.mp e
  exact h v
theorem bind2 {fd : FuncData} {p q : Str} (h : ∀ u v, bindArgs fd ⟨[u, v], []⟩ = pure [(p, u), (q, v)]) (vs : List Value) (e : vs.length = 2) : bindArgs fd ⟨vs, []⟩ = pure ([p, q].zip vs) := by
  cases vs with
  | nil => cases e
  | cons u vs =>
    obtain ⟨v, rfl⟩ := List.length_eq_one_iff.mp (Nat.succ.inj e)
    exact h u v

section
variable {w : World} {mg : Str → Option Value} {h : Heap}

noncomputable def cfgOf (w : World) (mg : Str → Option Value) (h : Heap) : Cfg := ⟨PySem.Challenge.pw_mj0158_01, w, mg, h, true⟩

theorem fa_keqv (Y : (K0 w.params).In h) : FnAt (cfgOf w mg h) 21 (paramsAt 1) (scopeAt 1) (bodyAt 1) :=
  ⟨⟨fnObj 1 20 (T [99, 112, 121, 51, 49, 51, 46, 117, 114, 108, 108, 105, 98, 46, 114, 101, 113, 117, 101, 115, 116]) 187, fdOf 1 20 (T [99, 112, 121, 51, 49, 51, 46, 117, 114, 108, 108, 105, 98, 46, 114, 101, 113, 117, 101, 115, 116]) 187, Y 21 _ rfl, rfl, ⟨20, _, _, _, rfl, Y 20 _ rfl, rfl, rfl⟩, rfl, rfl, rfl, rfl, rfl, bind1 (fun _ => by kernel_rfl)⟩, by decide +kernel, by decide +kernel, rfl, rfl, rfl⟩
theorem fa_http (Y : (K0 w.params).In h) : FnAt (cfgOf w mg h) 26 (paramsAt 2) (scopeAt 2) (bodyAt 2) :=
  ⟨⟨fnObj 2 25 (T [99, 112, 121, 51, 49, 51, 46, 117, 114, 108, 108, 105, 98, 46, 114, 101, 113, 117, 101, 115, 116]) 187, fdOf 2 25 (T [99, 112, 121, 51, 49, 51, 46, 117, 114, 108, 108, 105, 98, 46, 114, 101, 113, 117, 101, 115, 116]) 187, Y 26 _ rfl, rfl, ⟨25, _, _, _, rfl, Y 25 _ rfl, rfl, rfl⟩, rfl, rfl, rfl, rfl, rfl, bind1 (fun _ => by kernel_rfl)⟩, by decide +kernel, by decide +kernel, rfl, rfl, rfl⟩
theorem fa_text (Y : (K0 w.params).In h) : FnAt (cfgOf w mg h) 36 (paramsAt 53) (scopeAt 53) (bodyAt 53) :=
  ⟨⟨fnObj 53 35 (T [108, 97, 119, 95, 109, 106, 48, 49, 53, 56, 95, 48, 49]) 399, fdOf 53 35 (T [108, 97, 119, 95, 109, 106, 48, 49, 53, 56, 95, 48, 49]) 399, Y 36 _ rfl, rfl, ⟨35, _, _, _, rfl, Y 35 _ rfl, rfl, rfl⟩, rfl, rfl, rfl, rfl, rfl, bind1 (fun _ => by kernel_rfl)⟩, by decide +kernel, by decide +kernel, rfl, rfl, rfl⟩
theorem fa_words (Y : (K0 w.params).In h) : FnAt (cfgOf w mg h) 43 (paramsAt 54) (scopeAt 54) (bodyAt 54) :=
  ⟨⟨fnObj 54 42 (T [108, 97, 119, 95, 109, 106, 48, 49, 53, 56, 95, 48, 49]) 399, fdOf 54 42 (T [108, 97, 119, 95, 109, 106, 48, 49, 53, 56, 95, 48, 49]) 399, Y 43 _ rfl, rfl, ⟨42, _, _, _, rfl, Y 42 _ rfl, rfl, rfl⟩, rfl, rfl, rfl, rfl, rfl, bind2 (fun _ _ => by kernel_rfl)⟩, by decide +kernel, by decide +kernel, rfl, rfl, rfl⟩
theorem fa_longest (Y : (K0 w.params).In h) : FnAt (cfgOf w mg h) 50 (paramsAt 55) (scopeAt 55) (bodyAt 55) :=
  ⟨⟨fnObj 55 49 (T [108, 97, 119, 95, 109, 106, 48, 49, 53, 56, 95, 48, 49]) 399, fdOf 55 49 (T [108, 97, 119, 95, 109, 106, 48, 49, 53, 56, 95, 48, 49]) 399, Y 50 _ rfl, rfl, ⟨49, _, _, _, rfl, Y 49 _ rfl, rfl, rfl⟩, rfl, rfl, rfl, rfl, rfl, bind2 (fun _ _ => by kernel_rfl)⟩, by decide +kernel, by decide +kernel, rfl, rfl, rfl⟩
theorem fa_shape (Y : (K0 w.params).In h) : FnAt (cfgOf w mg h) 57 (paramsAt 56) (scopeAt 56) (bodyAt 56) :=
  ⟨⟨fnObj 56 56 (T [108, 97, 119, 95, 109, 106, 48, 49, 53, 56, 95, 48, 49]) 399, fdOf 56 56 (T [108, 97, 119, 95, 109, 106, 48, 49, 53, 56, 95, 48, 49]) 399, Y 57 _ rfl, rfl, ⟨56, _, _, _, rfl, Y 56 _ rfl, rfl, rfl⟩, rfl, rfl, rfl, rfl, rfl, bind2 (fun _ _ => by kernel_rfl)⟩, by decide +kernel, by decide +kernel, rfl, rfl, rfl⟩
theorem fa_by_table (Y : (K0 w.params).In h) : FnAt (cfgOf w mg h) 62 (paramsAt 57) (scopeAt 57) (bodyAt 57) :=
  ⟨⟨fnObj 57 61 (T [108, 97, 119, 95, 109, 106, 48, 49, 53, 56, 95, 48, 49]) 399, fdOf 57 61 (T [108, 97, 119, 95, 109, 106, 48, 49, 53, 56, 95, 48, 49]) 399, Y 62 _ rfl, rfl, ⟨61, _, _, _, rfl, Y 61 _ rfl, rfl, rfl⟩, rfl, rfl, rfl, rfl, rfl, bind1 (fun _ => by kernel_rfl)⟩, by decide +kernel, by decide +kernel, rfl, rfl, rfl⟩
theorem fa_by_shape (Y : (K0 w.params).In h) : FnAt (cfgOf w mg h) 67 (paramsAt 58) (scopeAt 58) (bodyAt 58) :=
  ⟨⟨fnObj 58 66 (T [108, 97, 119, 95, 109, 106, 48, 49, 53, 56, 95, 48, 49]) 399, fdOf 58 66 (T [108, 97, 119, 95, 109, 106, 48, 49, 53, 56, 95, 48, 49]) 399, Y 67 _ rfl, rfl, ⟨66, _, _, _, rfl, Y 66 _ rfl, rfl, rfl⟩, rfl, rfl, rfl, rfl, rfl, bind1 (fun _ => by kernel_rfl)⟩, by decide +kernel, by decide +kernel, rfl, rfl, rfl⟩
theorem fa_rows (Y : (K0 w.params).In h) : FnAt (cfgOf w mg h) 74 (paramsAt 59) (scopeAt 59) (bodyAt 59) :=
  ⟨⟨fnObj 59 73 (T [108, 97, 119, 95, 109, 106, 48, 49, 53, 56, 95, 48, 49]) 399, fdOf 59 73 (T [108, 97, 119, 95, 109, 106, 48, 49, 53, 56, 95, 48, 49]) 399, Y 74 _ rfl, rfl, ⟨73, _, _, _, rfl, Y 73 _ rfl, rfl, rfl⟩, rfl, rfl, rfl, rfl, rfl, bind1 (fun _ => by kernel_rfl)⟩, by decide +kernel, by decide +kernel, rfl, rfl, rfl⟩
theorem fa_bare (Y : (K0 w.params).In h) : FnAt (cfgOf w mg h) 79 (paramsAt 60) (scopeAt 60) (bodyAt 60) :=
  ⟨⟨fnObj 60 78 (T [108, 97, 119, 95, 109, 106, 48, 49, 53, 56, 95, 48, 49]) 399, fdOf 60 78 (T [108, 97, 119, 95, 109, 106, 48, 49, 53, 56, 95, 48, 49]) 399, Y 79 _ rfl, rfl, ⟨78, _, _, _, rfl, Y 78 _ rfl, rfl, rfl⟩, rfl, rfl, rfl, rfl, rfl, bind1 (fun _ => by kernel_rfl)⟩, by decide +kernel, by decide +kernel, rfl, rfl, rfl⟩
theorem fa_glued (Y : (K0 w.params).In h) : FnAt (cfgOf w mg h) 86 (paramsAt 61) (scopeAt 61) (bodyAt 61) :=
  ⟨⟨fnObj 61 85 (T [108, 97, 119, 95, 109, 106, 48, 49, 53, 56, 95, 48, 49]) 399, fdOf 61 85 (T [108, 97, 119, 95, 109, 106, 48, 49, 53, 56, 95, 48, 49]) 399, Y 86 _ rfl, rfl, ⟨85, _, _, _, rfl, Y 85 _ rfl, rfl, rfl⟩, rfl, rfl, rfl, rfl, rfl, bind2 (fun _ _ => by kernel_rfl)⟩, by decide +kernel, by decide +kernel, rfl, rfl, rfl⟩
theorem fa_read (Y : (K0 w.params).In h) : FnAt (cfgOf w mg h) 93 (paramsAt 62) (scopeAt 62) (bodyAt 62) :=
  ⟨⟨fnObj 62 92 (T [108, 97, 119, 95, 109, 106, 48, 49, 53, 56, 95, 48, 49]) 399, fdOf 62 92 (T [108, 97, 119, 95, 109, 106, 48, 49, 53, 56, 95, 48, 49]) 399, Y 93 _ rfl, rfl, ⟨92, _, _, _, rfl, Y 92 _ rfl, rfl, rfl⟩, rfl, rfl, rfl, rfl, rfl, bind1 (fun _ => by kernel_rfl)⟩, by decide +kernel, by decide +kernel, rfl, rfl, rfl⟩
theorem fa_told (Y : (K0 w.params).In h) : FnAt (cfgOf w mg h) 98 (paramsAt 63) (scopeAt 63) (bodyAt 63) :=
  ⟨⟨fnObj 63 97 (T [108, 97, 119, 95, 109, 106, 48, 49, 53, 56, 95, 48, 49]) 399, fdOf 63 97 (T [108, 97, 119, 95, 109, 106, 48, 49, 53, 56, 95, 48, 49]) 399, Y 98 _ rfl, rfl, ⟨97, _, _, _, rfl, Y 97 _ rfl, rfl, rfl⟩, rfl, rfl, rfl, rfl, rfl, bind1 (fun _ => by kernel_rfl)⟩, by decide +kernel, by decide +kernel, rfl, rfl, rfl⟩
theorem fa_sound (Y : (K0 w.params).In h) : FnAt (cfgOf w mg h) 103 (paramsAt 64) (scopeAt 64) (bodyAt 64) :=
  ⟨⟨fnObj 64 102 (T [108, 97, 119, 95, 109, 106, 48, 49, 53, 56, 95, 48, 49]) 399, fdOf 64 102 (T [108, 97, 119, 95, 109, 106, 48, 49, 53, 56, 95, 48, 49]) 399, Y 103 _ rfl, rfl, ⟨102, _, _, _, rfl, Y 102 _ rfl, rfl, rfl⟩, rfl, rfl, rfl, rfl, rfl, bind1 (fun _ => by kernel_rfl)⟩, by decide +kernel, by decide +kernel, rfl, rfl, rfl⟩
theorem fa_written (Y : (K0 w.params).In h) : FnAt (cfgOf w mg h) 108 (paramsAt 65) (scopeAt 65) (bodyAt 65) :=
  ⟨⟨fnObj 65 107 (T [108, 97, 119, 95, 109, 106, 48, 49, 53, 56, 95, 48, 49]) 399, fdOf 65 107 (T [108, 97, 119, 95, 109, 106, 48, 49, 53, 56, 95, 48, 49]) 399, Y 108 _ rfl, rfl, ⟨107, _, _, _, rfl, Y 107 _ rfl, rfl, rfl⟩, rfl, rfl, rfl, rfl, rfl, bind1 (fun _ => by kernel_rfl)⟩, by decide +kernel, by decide +kernel, rfl, rfl, rfl⟩
theorem fa_last (Y : (K0 w.params).In h) : FnAt (cfgOf w mg h) 113 (paramsAt 66) (scopeAt 66) (bodyAt 66) :=
  ⟨⟨fnObj 66 112 (T [108, 97, 119, 95, 109, 106, 48, 49, 53, 56, 95, 48, 49]) 399, fdOf 66 112 (T [108, 97, 119, 95, 109, 106, 48, 49, 53, 56, 95, 48, 49]) 399, Y 113 _ rfl, rfl, ⟨112, _, _, _, rfl, Y 112 _ rfl, rfl, rfl⟩, rfl, rfl, rfl, rfl, rfl, bind1 (fun _ => by kernel_rfl)⟩, by decide +kernel, by decide +kernel, rfl, rfl, rfl⟩
theorem fa_law (Y : (K0 w.params).In h) : FnAt (cfgOf w mg h) 118 (paramsAt 67) (scopeAt 67) (bodyAt 67) :=
  ⟨⟨fnObj 67 117 (T [108, 97, 119, 95, 109, 106, 48, 49, 53, 56, 95, 48, 49]) 399, fdOf 67 117 (T [108, 97, 119, 95, 109, 106, 48, 49, 53, 56, 95, 48, 49]) 399, Y 118 _ rfl, rfl, ⟨117, _, _, _, rfl, Y 117 _ rfl, rfl, rfl⟩, rfl, rfl, rfl, rfl, rfl, bind1 (fun _ => by kernel_rfl)⟩, by decide +kernel, by decide +kernel, rfl, rfl, rfl⟩
end
end Mine

-- TopQ
namespace Mine

noncomputable def dEnts : Data → List DictEntry
  | .dict es _ => es.toList
  | _ => []
noncomputable def entsAt (P : Params) (a : Addr) : List DictEntry := ((K0 P).lookup a).elim [] fun o => dEnts o.data
theorem kvT_eq (P : Params) : entsAt P 27 = kvT.map (entE P) := rfl
theorem ent_keys (P : Params) : ∀ l : List (List Nat × Tok × Int × Tok), KeysLit P (l.map (entE P))
  | [] => trivial
  | x :: r => ⟨⟨T x.1, x.2.1, rfl, rfl⟩, ent_keys P r⟩
theorem ent_find (P : Params) (l : List Nat) : ∀ es : List (List Nat × Tok × Int × Tok), ((∀ e ∈ es, e.1 ≠ l) → ((es.map (entE P)).find? fun e => Value.isStrOf (T l) e.key).map (·.val) = none) ∧
    ∀ i, (∃ e ∈ es, e.1 = l) → (∀ e ∈ es, e.1 = l → e.2.2.1 = i) → ∃ u, ((es.map (entE P)).find? fun e => Value.isStrOf (T l) e.key).map (·.val) = some (.int i u)
  | [] => ⟨fun _ => rfl, fun i h => by obtain ⟨e, he, _⟩ := h; cases he⟩
  | x :: r => by
    have ih := ent_find P l r
    rw [List.map_cons, List.find?_cons]
    by_cases q : x.1 = l
    · have e2 : Value.isStrOf (T l) (entE P x).key = true := by
        rw [← q]; exact beq_self_eq_true (T x.1)
      rw [e2]
      exact ⟨fun z => absurd q (z x List.mem_cons_self), fun i _ hi => ⟨x.2.2.2, by rw [← hi x List.mem_cons_self q]; rfl⟩⟩
    · have e2 : Value.isStrOf (T l) (entE P x).key = false := beq_eq_false_iff_ne.mpr fun z => q (T_inj z)
      rw [e2]
      exact ⟨fun z => ih.1 fun e he => z e (List.mem_cons_of_mem _ he), fun i hx hi => ih.2 i (by
        obtain ⟨e, he, h⟩ := hx
        rcases List.mem_cons.mp he with z | z
        · exact absurd (z ▸ h) q
        · exact ⟨e, z, h⟩) fun e he => hi e (List.mem_cons_of_mem _ he)⟩

section
variable {w : World} {mg : Str → Option Value} {h : Heap}
theorem tab_of (Y : (K0 w.params).In h) : TabAt (cfgOf w mg h) 27 tgF := by
  refine ⟨by decide +kernel, ⟨_, _, Y 27 _ rfl⟩, _, mapOf_K (prog := PySem.Challenge.pw_mj0158_01) (w := w) (a := 27) (es := (entsAt w.params 27).toArray) Y rfl (by rw [List.toList_toArray, kvT_eq]; exact ent_keys _ _), fun l => ?_⟩
  have hf := ent_find w.params l kvT
  rw [← kvT_eq] at hf
  have h1 : ∀ e ∈ kvT, tgF e.1 = some e.2.2.1 := by decide +kernel
  have h2 : ∀ u ∈ rowL, ∃ e ∈ kvT, e.1 = u := by decide +kernel
  unfold findBy
  rw [List.find?_toArray]
  refine ⟨fun q => hf.1 fun e he z => ?_, fun i q => hf.2 i ?_ fun e he z => ?_⟩
  · have := h1 e he; rw [z, q] at this; cases this
  · refine h2 l ?_
    unfold tgF at q
    split at q
    · rename_i t; simpa [isTok] using t
    · cases q
  · have := h1 e he; rw [z, q] at this; exact (Option.some.inj this).symm

theorem ge (hn : h.Ns mainGlobals mg) (Y : (K0 w.params).In h) (x : Str) : mg x = ((entsAt w.params 3).find? fun e => e.key.isStr x).map (·.val) := by
  obtain ⟨o, es, ep, ho, hd, _, hm⟩ := hn
  have e1 : some o = (K0 w.params).lookup 3 := ho.symm.trans (Y 3 _ rfl)
  have e2 : es.toList = entsAt w.params 3 := by
    unfold entsAt
    rw [← e1]
    show _ = dEnts o.data
    rw [hd]; rfl
  rw [← hm x, ← e2]
  unfold nsFind findBy
  rw [← Array.find?_toList]

theorem prg_of (hn : h.Ns mainGlobals mg) (Y : (K0 w.params).In h) : Prg (cfgOf w mg h) where
  f_keqv := fa_keqv Y
  g_keqv := (ge hn Y _).trans (by kernel_rfl)
  f_http := fa_http Y
  g_http := (ge hn Y _).trans (by kernel_rfl)
  f_text := fa_text Y
  g_text := (ge hn Y _).trans (by kernel_rfl)
  f_words := fa_words Y
  g_words := (ge hn Y _).trans (by kernel_rfl)
  f_longest := fa_longest Y
  g_longest := (ge hn Y _).trans (by kernel_rfl)
  f_shape := fa_shape Y
  g_shape := (ge hn Y _).trans (by kernel_rfl)
  f_by_table := fa_by_table Y
  g_by_table := (ge hn Y _).trans (by kernel_rfl)
  f_by_shape := fa_by_shape Y
  g_by_shape := (ge hn Y _).trans (by kernel_rfl)
  f_rows := fa_rows Y
  g_rows := (ge hn Y _).trans (by kernel_rfl)
  f_bare := fa_bare Y
  g_bare := (ge hn Y _).trans (by kernel_rfl)
  f_glued := fa_glued Y
  g_glued := (ge hn Y _).trans (by kernel_rfl)
  f_read := fa_read Y
  g_read := (ge hn Y _).trans (by kernel_rfl)
  f_told := fa_told Y
  g_told := (ge hn Y _).trans (by kernel_rfl)
  f_sound := fa_sound Y
  g_sound := (ge hn Y _).trans (by kernel_rfl)
  f_written := fa_written Y
  g_written := (ge hn Y _).trans (by kernel_rfl)
  f_last := fa_last Y
  g_last := (ge hn Y _).trans (by kernel_rfl)
  f_law := fa_law Y
  g_law := (ge hn Y _).trans (by kernel_rfl)
  g_tab := (ge hn Y _).trans (by kernel_rfl)
  tab := tab_of Y
  b_len := (ge hn Y _).trans (by kernel_rfl)
  b_range := (ge hn Y _).trans (by kernel_rfl)
  b_list := (ge hn Y _).trans (by kernel_rfl)
  b_isinstance := (ge hn Y _).trans (by kernel_rfl)
  b_ValueError := (ge hn Y _).trans (by kernel_rfl)
  b_IndexError := (ge hn Y _).trans (by kernel_rfl)
end
end Mine

-- Fin
namespace Mine

theorem items_int : ∀ {xs : List WData}, WShape.hasItems [] xs .int = true → ∃ ns : List Int, xs = ns.map .int
  | [], _ => ⟨[], rfl⟩
  | x :: r, h => by
    obtain ⟨h1, h2⟩ := Bool.and_eq_true_iff.mp (show (WShape.has [] x .int && WShape.hasItems [] r .int) = true from h)
    obtain ⟨ns, e⟩ := items_int h2
    cases x with
    | int i => exact ⟨i :: ns, congrArg _ e⟩
    | _ => exact Bool.noConfusion (show false = true from h1)

theorem list_int {d : WData} (h : WShape.has [] d (.list .int) = true) : ∃ ns : List Int, d = .list (ns.map .int) := by
  cases d with
  | list xs =>
    obtain ⟨ns, e⟩ := items_int (xs := xs) ((Bool.or_false _).symm.trans h)
    exact ⟨ns, congrArg _ e⟩
  | _ => exact Bool.noConfusion (show false = true from h)

theorem args_of {args : List WData} (h : PySem.Challenge.rw_mj0158_01.row.toRowW.claim.pre args = true) : ∃ ns : List Int, args = [.list (ns.map .int)] ∧ ns.length ≤ 63 := by
  obtain ⟨h1, h2⟩ := Bool.and_eq_true_iff.mp (show (WShape.hasAll [] args [.list .int] && PySem.Challenge.rw_mj0158_01.pre.holds [] { args := args }) = true from h)
  match args, h1, h2 with
  | [d], h1, h2 =>
    obtain ⟨ns, rfl⟩ := list_int (Bool.and_eq_true_iff.mp (show (WShape.has [] d (.list .int) && true) = true from h1)).1
    refine ⟨ns, rfl, ?_⟩
    have h3 : WTm.holds [] (.and (.not (.lit (.bool (decide ((63 : Int) < ((ns.map WData.int).length : Int)))))) (.lit (.bool true))) { args := [.list (ns.map .int)] } = true := h2
    rcases Nat.lt_or_ge 63 ns.length with q | q
    · rw [List.length_map, decide_eq_true (show (63 : Int) < (ns.length : Int) from Int.ofNat_lt.mpr q)] at h3
      exact Bool.noConfusion (show false = true from h3)
    · exact q
  | d :: d' :: r, h1, _ => exact Bool.noConfusion ((Bool.and_false _).symm.trans (show (WShape.has [] d (.list .int) && false) = true from h1))

theorem well_int {P : Params} {h : Heap} {v : Value} {i : Int} (x : Well P h v (.int i)) : ∃ t, v = .int i t := by cases x; exact ⟨_, rfl⟩
theorem well_list {P : Params} {h : Heap} {v : Value} {xs : List WData} (x : Well P h v (.list xs)) : ∃ a vs, v = .ref a ∧ h.get? a = some { cls := .type "list", data := .seq vs.toArray } ∧ WellAll P h vs xs := by cases x with | list a b => exact ⟨_, _, rfl, a, b⟩
theorem well_cons {P : Params} {h : Heap} {vs : List Value} {x : WData} {xs : List WData} (y : WellAll P h vs (x :: xs)) : ∃ v us, vs = v :: us ∧ Well P h v x ∧ WellAll P h us xs := by cases y with | cons a b => exact ⟨_, _, rfl, a, b⟩
theorem well_nil {P : Params} {h : Heap} {vs : List Value} (y : WellAll P h vs []) : vs = [] := by cases y; rfl
theorem ints_all {C : Cfg} {bad : List Addr} {P : Params} {h : Heap} : ∀ {ns : List Int} {vs : List Value}, WellAll P h vs (ns.map .int) → DAll C bad h vs (ns.map .int)
  | [], _, x => by rw [well_nil x]; exact .nil
  | n :: r, _, x => by
    obtain ⟨v, us, rfl, a, b⟩ := well_cons x
    obtain ⟨t, rfl⟩ := well_int a
    exact .cons (.int _ _) (ints_all b)

theorem post_of (args : List WData) : PySem.Challenge.rw_mj0158_01.row.toRowW.claim.post args (.bool true) args = true := by
  show (WShape.has [] (.bool true) .bool && (WTm.eq .res (.lit (.bool true))).holds [] { args := args, res := some (.bool true), after := args }) = true
  kernel_rfl

theorem walk {q : Program} {loose : List Str} {XP : (Str → Option Value) → Heap → Prop} {d : DefRec} {kwd : List (Str × Expr)} (hd0 : d.name = Str.ofString "law") :
    WalkO q loose XP (kHook K0 A0 A0_eq).says PySem.Challenge.rw_mj0158_01.row.toRowW d kwd (fun f vs => call f vs) := by
  intro w s₀ s₁ mg mb G Y a o pm cd doc dV kV ho hod hcd hdf hmg hgens args vals as hpre hlay hrd hwell hlow
  obtain ⟨ns, rfl, hns⟩ := args_of hpre
  have P := prg_of G.T.g (kIn_of Y)
  have ha : a = 118 := by
    have h1 : mg (Str.ofString "law") = some (.ref 118) := P.g_law
    have h2 : mg (Str.ofString "law") = some (.ref a) := hd0 ▸ hmg
    rw [h1] at h2
    injection h2 with h2
    injection h2 with h2
    exact h2.symm
  subst ha
  have top : Top0 (cfgOf w mg s₁.heap) := ⟨G.T.g, ⟨mb, G.T.b, G.T.builtins⟩, G.T.nolimit⟩
  have W : Wd (cfgOf w mg s₁.heap) 6 callerA [] s₁.heap := ⟨by decide, by decide, top, fun _ _ e => e, .inl rfl, fun _ => rfl, fun a ha => (by cases ha), fun a ha => (by cases ha)⟩
  obtain ⟨v0, us, rfl, hw1, hw2⟩ := well_cons hwell
  obtain rfl := well_nil hw2
  obtain ⟨l, vs, rfl, hl, hall⟩ := well_list hw1
  have all : DAll (cfgOf w mg s₁.heap) [] s₁.heap [.ref _] [.list (ns.map .int)] := .cons (.list (n := 0) (by simp) hl (ints_all hall)) .nil
  refine callTop (C := cfgOf w mg s₁.heap) P.f_law rfl (law_body (n := 0) P rfl hns) (fun _ => rfl) W rfl rfl all fun v s' k i => ?_
  obtain rfl := i.boolInv
  obtain ⟨h', tk, rfl, hk⟩ := k
  exact ⟨.inl ⟨.bool true, .bool true, [], rfl, fun _ => rfl, .bool true, post_of _, fun _ => ⟨List.nodup_nil, fun _ h => by cases h⟩⟩, .of_keep hk, rfl, .of_eq hgens⟩
end Mine
set_option maxHeartbeats 8000000 in
theorem PySem.Challenge.cw_mj0158_01_holds : PySem.Challenge.rw_mj0158_01.Holds := by
  w_on
  o_law
  o_head (kHook Mine.K0 Mine.A0 Mine.A0_eq)
  (case hw => w_witness2)
  exact Mine.walk rfl
