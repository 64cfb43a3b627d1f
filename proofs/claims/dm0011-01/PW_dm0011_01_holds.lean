import PyProof.Rows.All
import Wide.All
import OpenK.AllK
import Wide.FinOn
import PySem.Challenge.RW_dm0011_01
open PySem PySem.W PyProof.Rows
set_option Elab.async false
set_option linter.unusedVariables false
set_option linter.unusedSimpArgs false
set_option maxRecDepth 100000
set_option maxHeartbeats 8000000

-- part Gw1
namespace Mine

/-- pure values: `ref k` is the k-th mutable list -/
inductive V where
  | none
  | bool (b : Bool)
  | int (i : Int)
  | str (s : Str)
  | tup (l : List V)
  | lst (l : List V)
  | ref (k : Nat)
  | val (x : Value)

abbrev Store := List (List V)

def tupObj (vs : Array Value) (n : Nat) : Obj := { cls := .type "tuple", data := .seq vs n }
def lisObj (vs : Array Value) (n : Nat) : Obj := { cls := .type "list", data := .seq vs n }

/-- the addresses of the mutable lists, and of other things that no data may reach -/
structure Hd where
  hs : List Addr
  xs : List Addr
def Hd.has (H : Hd) (a : Addr) : Prop := a ∈ H.hs ∨ a ∈ H.xs

mutual
inductive Rep (H : Hd) (h : Heap) : Value → V → Prop
  | none : Rep H h .none .none
  | bool (b) : Rep H h (.bool b) (.bool b)
  | int (i t) : Rep H h (.int i t) (.int i)
  | str (x t) : Rep H h (.str x t) (.str x)
  | tup {a vs n l} : ¬ H.has a → h.get? a = some (tupObj vs n) → RepAll H h vs.toList l → Rep H h (.ref a) (.tup l)
  | lst {a vs n l} : ¬ H.has a → h.get? a = some (lisObj vs n) → RepAll H h vs.toList l → Rep H h (.ref a) (.lst l)
  | ref {k a} : H.hs[k]? = some a → Rep H h (.ref a) (.ref k)
  | val (x) : Rep H h x (.val x)
inductive RepAll (H : Hd) (h : Heap) : List Value → List V → Prop
  | nil : RepAll H h [] []
  | cons {x xs v vs} : Rep H h x v → RepAll H h xs vs → RepAll H h (x :: xs) (v :: vs)
end

def IsSeq (o : Obj) : Prop := ∃ vs n, o.data = .seq vs n

/-- the objects of the text's code tables -/
def TabO (o : Obj) : Prop := o.cls = .none ∧ ∃ fs, o.data = .fields fs
theorem seq_notTab {o : Obj} (h : IsSeq o) : ¬ TabO o := fun ⟨_, fs, e⟩ => by obtain ⟨vs, n, e'⟩ := h; rw [e] at e'; cases e'

/-- data is kept: handles grow by fresh ones, all other sequences stay -/
structure DKeep (H : Hd) (h : Heap) (H' : Hd) (h' : Heap) : Prop where
  pre : ∃ N, H'.hs = H.hs ++ N
  new : ∀ a, H'.has a → ¬ H.has a → h.get? a = none
  keep : ∀ b o, ¬ H.has b → IsSeq o → h.get? b = some o → h'.get? b = some o

theorem DKeep.refl (H : Hd) (h : Heap) : DKeep H h H h :=
  ⟨⟨[], by simp⟩, fun _ h1 h2 => absurd h1 h2, fun _ _ _ _ e => e⟩

theorem DKeep.of_full {H : Hd} {h h' : Heap} (hk : ∀ b o, h.get? b = some o → h'.get? b = some o) : DKeep H h H h' :=
  ⟨⟨[], by simp⟩, fun _ h1 h2 => absurd h1 h2, fun b o _ _ e => hk b o e⟩

theorem DKeep.notMem {H H' : Hd} {h h' : Heap} (x : DKeep H h H' h') {a : Addr} {o : Obj} (ha : ¬ H.has a) (ho : h.get? a = some o) : ¬ H'.has a := by
  intro hm
  rw [x.new a hm ha] at ho; cases ho

theorem DKeep.trans {H H' H'' : Hd} {h h' h'' : Heap} (x : DKeep H h H' h') (y : DKeep H' h' H'' h'')
    (live : ∀ b o, ¬ H.has b → h.get? b = some o → (h'.get? b).isSome) : DKeep H h H'' h'' := by
  refine ⟨?_, fun a ha hn => ?_, fun b o hb hs e => ?_⟩
  · obtain ⟨N, e⟩ := x.pre
    obtain ⟨N', e'⟩ := y.pre
    exact ⟨N ++ N', by rw [e', e, List.append_assoc]⟩
  · by_cases h1 : H'.has a
    · exact x.new a h1 hn
    · have := y.new a ha h1
      cases e : h.get? a with
      | none => rfl
      | some o => have := live a o hn e; simp_all
  · exact y.keep b o (x.notMem hb e) hs (x.keep b o hb hs e)

theorem isSeq_tup (vs n) : IsSeq (tupObj vs n) := ⟨vs, n, rfl⟩
theorem isSeq_lis (vs n) : IsSeq (lisObj vs n) := ⟨vs, n, rfl⟩

mutual
theorem Rep.ext {H H' : Hd} {h h' : Heap} (x : DKeep H h H' h') : ∀ {y : Value} {v : V}, Rep H h y v → Rep H' h' y v
  | _, _, .none => .none
  | _, _, .bool b => .bool b
  | _, _, .int i t => .int i t
  | _, _, .str s t => .str s t
  | _, _, .tup ha ho hr => .tup (x.notMem ha ho) (x.keep _ _ ha (isSeq_tup ..) ho) (RepAll.ext x hr)
  | _, _, .lst ha ho hr => .lst (x.notMem ha ho) (x.keep _ _ ha (isSeq_lis ..) ho) (RepAll.ext x hr)
  | _, _, .ref hk => .ref (by
      obtain ⟨N, e⟩ := x.pre
      have := (List.getElem?_eq_some_iff.mp hk).1
      rw [e, List.getElem?_append_left this]; exact hk)
  | _, _, .val y => .val y
theorem RepAll.ext {H H' : Hd} {h h' : Heap} (x : DKeep H h H' h') : ∀ {ys : List Value} {vs : List V}, RepAll H h ys vs → RepAll H' h' ys vs
  | _, _, .nil => .nil
  | _, _, .cons hy hr => .cons (Rep.ext x hy) (RepAll.ext x hr)
end

section
variable {H : Hd} {h : Heap} {xs ys : List Value} {vs ws : List V} {x : Value} {v : V}
theorem RepAll.length (r : RepAll H h xs vs) : xs.length = vs.length := by
  induction xs generalizing vs with
  | nil => cases r; rfl
  | cons y xs ih => cases r with | cons _ r => simp [ih r]
theorem RepAll.append (r : RepAll H h xs vs) (q : RepAll H h ys ws) : RepAll H h (xs ++ ys) (vs ++ ws) := by
  induction xs generalizing vs with
  | nil => cases r; exact q
  | cons y xs ih => cases r with | cons hy r => exact .cons hy (ih r)
theorem RepAll.one (r : Rep H h x v) : RepAll H h [x] [v] := .cons r .nil
theorem RepAll.get {i : Nat} (r : RepAll H h xs vs) (hi : vs[i]? = some v) : ∃ x, xs[i]? = some x ∧ Rep H h x v := by
  induction xs generalizing vs i with
  | nil => cases r; simp at hi
  | cons y xs ih =>
    cases r with
    | cons hy r =>
      cases i with
      | zero => simp at hi; subst hi; exact ⟨y, rfl, hy⟩
      | succ i => simpa using ih r (by simpa using hi)
theorem RepAll.get' {i : Nat} (r : RepAll H h xs vs) (hi : xs[i]? = some x) : ∃ v, vs[i]? = some v ∧ Rep H h x v := by
  induction xs generalizing vs i with
  | nil => simp at hi
  | cons y xs ih =>
    cases r with
    | cons hy r =>
      cases i with
      | zero => simp at hi; subst hi; exact ⟨_, rfl, hy⟩
      | succ i => simpa using ih r (by simpa using hi)
theorem RepAll.set {i : Nat} (r : RepAll H h xs vs) (q : Rep H h x v) : RepAll H h (xs.set i x) (vs.set i v) := by
  induction xs generalizing vs i with
  | nil => cases r; simpa using RepAll.nil
  | cons y xs ih =>
    cases r with
    | cons hy r =>
      cases i with
      | zero => exact .cons q r
      | succ i => exact .cons hy (ih r)
theorem RepAll.take (r : RepAll H h xs vs) (n : Nat) : RepAll H h (xs.take n) (vs.take n) := by
  induction xs generalizing vs n with
  | nil => cases r; simpa using RepAll.nil
  | cons y xs ih =>
    cases r with
    | cons hy r =>
      cases n with
      | zero => exact .nil
      | succ n => exact .cons hy (ih r n)
theorem RepAll.drop (r : RepAll H h xs vs) (n : Nat) : RepAll H h (xs.drop n) (vs.drop n) := by
  induction xs generalizing vs n with
  | nil => cases r; simpa using RepAll.nil
  | cons y xs ih =>
    cases r with
    | cons hy r =>
      cases n with
      | zero => exact .cons hy r
      | succ n => exact ih r n
end

/-- the store of mutable lists stands in the heap -/
structure SimH (H : Hd) (st : Store) (h : Heap) : Prop where
  len : H.hs.length = st.length
  nd : H.hs.Nodup
  at_ : ∀ (k : Nat) (a : Addr) (l : List V), H.hs[k]? = some a → st[k]? = some l → ∃ vs n, h.get? a = some (lisObj vs n) ∧ RepAll H h vs.toList l
  live : ∀ a, H.has a → ∃ o, h.get? a = some o ∧ IsSeq o
  dj : ∀ a ∈ H.xs, a ∉ H.hs


/-- a code whose body makes lambdas: the code, its table, the lambdas' name -/
structure Tab where
  c : Addr
  P : Addr
  q : Str

/-- what stands below the law's call -/
structure Bs where
  prog : Program
  w : World
  h₀ : Heap
  mg : Str → Option Value
  mb : Str → Option Value
  g : h₀.Ns mainGlobals mg
  b : h₀.Ns builtinsNs mb
  lim : h₀.NoLimit
  seer : h₀.NoSeer
  tree : prog.given.tree = none
  K : Frag
  KX : K.In h₀
  bb : ∀ x : Str, x ≠ "__name__" → mb x = bootBuiltins x
  bm : ∃ bm ob, mg "__builtins__" = some (.ref bm) ∧ bm ≠ builtinsNs ∧ h₀.get? bm = some ob ∧ ob.cls = .type "module" ∧ ob.dict = some builtinsNs ∧ ob.data = .plain
  tabs : List Tab
  hid : ∀ t ∈ tabs, h₀.get? t.P = none
  codes : ∀ t ∈ tabs, CodeHd h₀ t.c t.P
  apartT : (tabs.map (·.P)).Nodup

def Bs.isT (B : Bs) (b : Addr) : Prop := ∃ t ∈ B.tabs, t.P = b
/-- new upon the base -/
def Bs.free (B : Bs) (b : Addr) : Prop := B.h₀.get? b = none ∧ ¬ B.isT b
/-- a table that may grow -/
def Ex (B : Bs) (b : Addr) (o : Obj) : Prop := B.isT b ∧ TabO o

/-- the tables -/
def TabsOk (B : Bs) (h : Heap) : Prop := ∀ t ∈ B.tabs, ∃ ps, h.get? t.P = some (tabObj ps) ∧ TriplesOk ps.toList ∧ ∀ pos cv, codeAmong pos ps.toList = some cv → h.CodeRec cv t.q

/-- all is kept but tables that grow -/
structure KH (B : Bs) (h h' : Heap) : Prop where
  keep : ∀ b o, ¬ Ex B b o → h.get? b = some o → h'.get? b = some o
  tab : TabsOk B h → TabsOk B h'
  live : ∀ b o, h.get? b = some o → ∃ o', h'.get? b = some o'

theorem ex_seq {B : Bs} {b : Addr} {o : Obj} (h : IsSeq o) : ¬ Ex B b o := fun e => seq_notTab h e.2
theorem ex_h0 {B : Bs} {b : Addr} {o o' : Obj} (h : B.h₀.get? b = some o) : ¬ Ex B b o' := fun ⟨⟨t, ht, e⟩, _⟩ => by subst e; rw [B.hid t ht] at h; cases h
theorem Bs.free.no {B : Bs} {b : Addr} {o : Obj} (f : B.free b) (e : B.h₀.get? b = some o) : False := by rw [f.1] at e; cases e

theorem tabs_full {B : Bs} {h h' : Heap} (hk : ∀ b o, h.get? b = some o → h'.get? b = some o) (x : TabsOk B h) : TabsOk B h' := fun t ht =>
  let ⟨ps, h1, h2, h3⟩ := x t ht
  ⟨ps, hk _ _ h1, h2, fun pos cv e => (h3 pos cv e).keeps hk⟩
theorem KH.of {B : Bs} {h h' : Heap} (hk : ∀ b o, h.get? b = some o → h'.get? b = some o) : KH B h h' := ⟨fun b o _ e => hk b o e, tabs_full hk, fun b o e => ⟨o, hk b o e⟩⟩
theorem KH.refl (B : Bs) (h : Heap) : KH B h h := .of fun _ _ e => e
theorem KH.seq {B : Bs} {h h' : Heap} (k : KH B h h') {b : Addr} {o : Obj} (hs : IsSeq o) (e : h.get? b = some o) : h'.get? b = some o := k.keep b o (ex_seq hs) e
theorem KH.ns {B : Bs} {h h' : Heap} (k : KH B h h') {a : Addr} {m : Str → Option Value} (x : h.Ns a m) : h'.Ns a m := by
  refine x.at' fun o e => k.keep a o (fun ⟨_, _, fs, ed⟩ => ?_) e
  obtain ⟨o', es, ep, ho', hd, _⟩ := x
  rw [e] at ho'; cases ho'; rw [ed] at hd; cases hd
theorem KH.cell {B : Bs} {h h' : Heap} (k : KH B h h') {a : Addr} {v : Option Value} (x : h.IsCell a v) : h'.IsCell a v := by
  obtain ⟨o, ho, hd⟩ := x
  exact ⟨o, k.keep a o (fun ⟨_, _, fs, ed⟩ => by rw [ed] at hd; cases hd) ho, hd⟩
theorem KH.trans {B : Bs} {h h' h'' : Heap} (x : KH B h h') (y : KH B h' h'') : KH B h h'' := ⟨fun b o n e => y.keep b o n (x.keep b o n e), fun t => y.tab (x.tab t), fun b o e => let ⟨o', e'⟩ := x.live b o e; y.live b o' e'⟩

theorem DKeep.of_keeps {B : Bs} {H : Hd} {h h' : Heap} (hk : KH B h h') : DKeep H h H h' :=
  ⟨⟨[], by simp⟩, fun _ h1 h2 => absurd h1 h2, fun b o _ hs e => hk.seq hs e⟩
theorem SimH.keeps {B : Bs} {H : Hd} {st : Store} {h h' : Heap} (x : SimH H st h) (hk : KH B h h') : SimH H st h' :=
  ⟨x.len, x.nd, fun k a l ha hl => let ⟨vs, n, ho, hr⟩ := x.at_ k a l ha hl; ⟨vs, n, hk.seq (isSeq_lis ..) ho, hr.ext (.of_keeps hk)⟩, fun a ha => let ⟨o, ho, hs⟩ := x.live a ha; ⟨o, hk.seq hs ho, hs⟩, x.dj⟩

/-- the names of a frame -/
structure EnvRep (env : Env) (ρ : Str → Option V) (H : Hd) (h : Heap) : Prop where
  kind : env.scope.kind = .function
  gl : env.globals = mainGlobals
  bi : env.builtins = builtinsNs
  loc : ∃ m, h.Ns env.locals m ∧ ∀ x v, env.kindOf x = some .local → ρ x = some v → ∃ y, m x = some y ∧ Rep H h y v
  cell : ∀ x v, (env.kindOf x = some .cell ∨ env.kindOf x = some .free) → ρ x = some v → ∃ c y, env.cells.lookup x = some c ∧ h.IsCell c (some y) ∧ Rep H h y v
  cells : ∀ x c, (x, c) ∈ env.cells → ∃ v, h.IsCell c v
  has : ∀ x, (env.kindOf x = some .cell ∨ env.kindOf x = some .free) → ∃ c, env.cells.lookup x = some c
  apart : env.cells.Pairwise fun x y => x.2 ≠ y.2

/-- the base heap stands, the handles are new upon it -/
structure Base (B : Bs) (H : Hd) (h : Heap) : Prop where
  keep : ∀ b o, B.h₀.get? b = some o → h.get? b = some o
  new : ∀ a, H.has a → B.free a
  tab : TabsOk B h

/-- what is new is free -/
theorem Base.free {B : Bs} {H : Hd} {h : Heap} (x : Base B H h) {b : Addr} (hb : h.get? b = none) : B.free b := by
  refine ⟨?_, fun ⟨t, ht, e⟩ => ?_⟩
  · cases e : B.h₀.get? b with
    | none => rfl
    | some o => have := x.keep b o e; rw [hb] at this; cases this
  · obtain ⟨ps, h1, _⟩ := x.tab t ht
    rw [e, hb] at h1; cases h1

structure Sim (B : Bs) (env : Env) (ρ : Str → Option V) (st : Store) (H : Hd) (h : Heap) : Prop where
  base : Base B H h
  sto : SimH H st h
  en : EnvRep env ρ H h

theorem EnvRep.keeps {B : Bs} {env : Env} {ρ : Str → Option V} {H : Hd} {h h' : Heap} (x : EnvRep env ρ H h) (hk : KH B h h') : EnvRep env ρ H h' := by
  refine ⟨x.kind, x.gl, x.bi, ?_, fun n v hn hv => ?_, fun n c hn => ?_, x.has, x.apart⟩
  · obtain ⟨m, hm, hr⟩ := x.loc
    exact ⟨m, hk.ns hm, fun n v hn hv => let ⟨y, hy, r⟩ := hr n v hn hv; ⟨y, hy, r.ext (.of_keeps hk)⟩⟩
  · obtain ⟨c, y, h1, h2, h3⟩ := x.cell n v hn hv
    exact ⟨c, y, h1, hk.cell h2, h3.ext (.of_keeps hk)⟩
  · obtain ⟨v, h2⟩ := x.cells n c hn
    exact ⟨v, hk.cell h2⟩

theorem EnvRep.full {env : Env} {ρ : Str → Option V} {H : Hd} {h h' : Heap} (x : EnvRep env ρ H h) (hk : ∀ b o, h.get? b = some o → h'.get? b = some o) : EnvRep env ρ H h' := by
  refine ⟨x.kind, x.gl, x.bi, ?_, fun n v hn hv => ?_, fun n c hn => ?_, x.has, x.apart⟩
  · obtain ⟨m, hm, hr⟩ := x.loc
    exact ⟨m, hm.keeps hk, fun n v hn hv => let ⟨y, hy, r⟩ := hr n v hn hv; ⟨y, hy, r.ext (.of_full hk)⟩⟩
  · obtain ⟨c, y, h1, h2, h3⟩ := x.cell n v hn hv
    exact ⟨c, y, h1, h2.keeps hk, h3.ext (.of_full hk)⟩
  · obtain ⟨v, h2⟩ := x.cells n c hn
    exact ⟨v, h2.keeps hk⟩

theorem Base.keeps {B : Bs} {H : Hd} {h h' : Heap} (x : Base B H h) (hk : KH B h h') : Base B H h' :=
  ⟨fun b o e => hk.keep b o (ex_h0 e) (x.keep b o e), x.new, hk.tab x.tab⟩

theorem Sim.keeps {B : Bs} {env : Env} {ρ : Str → Option V} {st : Store} {H : Hd} {h h' : Heap} (x : Sim B env ρ st H h) (hk : KH B h h') : Sim B env ρ st H h' :=
  ⟨x.base.keeps hk, x.sto.keeps hk, x.en.keeps hk⟩

theorem Sim.of_env {B : Bs} {env env' : Env} {ρ ρ' : Str → Option V} {st : Store} {H : Hd} {h : Heap} (x : Sim B env ρ st H h) (e : EnvRep env' ρ' H h) : Sim B env' ρ' st H h := ⟨x.base, x.sto, e⟩

/-- room for n more levels of calls -/
structure Rm (n : Nat) (A : Around) : Prop where
  hd : A.handled = none
  dp : A.depth + n ≤ 890
  un : A.units + 20 * n ≤ 9000
  fr : ∃ env l, A.frames = some (env :: l) ∧ env.scope.isGenerator = false ∧ env.scope.isCoroutine = false ∧ env.builtins = builtinsNs ∧ env.globals = mainGlobals

theorem Rm.mono {n m : Nat} {A : Around} (x : Rm n A) (h : m ≤ n) : Rm m A := ⟨x.hd, by have := x.dp; omega, by have := x.un; omega, x.fr⟩
theorem Rm.deeper {n : Nat} {A : Around} (x : Rm (n + 1) A) (env : Env) (h1 : env.scope.isGenerator = false) (h2 : env.scope.isCoroutine = false) (h3 : env.builtins = builtinsNs) (h4 : env.globals = mainGlobals) : Rm n (A.deeper env) :=
  ⟨x.hd, by have := x.dp; simp only [Around.deeper]; omega, by have := x.un; simp only [Around.deeper]; omega, by
    obtain ⟨e, l, hf, _⟩ := x.fr
    exact ⟨env, e :: l, by simp only [Around.deeper, hf]; rfl, h1, h2, h3, h4⟩⟩
theorem Rm.in1 {n : Nat} {A : Around} (x : Rm (n + 1) A) : Rm n A.in1 := ⟨x.hd, by have := x.dp; simp only; omega, by have := x.un; simp only; omega, x.fr⟩

/-- as Keeps, but tables may grow -/
def KT (B : Bs) (s s' : Shared) : Prop := ∃ h' tk, s' = { s with heap := h', toks := tk } ∧ KH B s.heap h'
theorem kp_full {B : Bs} {s s' : Shared} (x : Keeps s s') : KT B s s' := let ⟨h, tk, e, k⟩ := x; ⟨h, tk, e, .of k⟩
theorem kp_refl {B : Bs} (s : Shared) : KT B s s := ⟨s.heap, s.toks, rfl, .refl ..⟩
theorem kp_trans {B : Bs} {s s' s'' : Shared} (x : KT B s s') (y : KT B s' s'') : KT B s s'' := by
  obtain ⟨h, tk, rfl, hk⟩ := x
  obtain ⟨h', tk', rfl, hk'⟩ := y
  exact ⟨h', tk', rfl, hk.trans hk'⟩
theorem kp_get {B : Bs} {s s' : Shared} (x : KT B s s') : KH B s.heap s'.heap := by
  obtain ⟨h, tk, rfl, hk⟩ := x; exact hk
theorem kp_dk {B : Bs} {s s' : Shared} (x : KT B s s') (H : Hd) : DKeep H s.heap H s'.heap := .of_keeps (kp_get x)

/-- a pure expression has this value -/
def PE (B : Bs) (n : Nat) (env : Env) (ρ : Str → Option V) (st : Store) (e : Expr) (v : V) : Prop :=
  ∀ A, Rm n A → ∀ E s H, Sim B env ρ st H s.heap →
    wpAny (model B.prog B.w) A (eval e env) (fun x s' => KT B s s' ∧ Rep H s'.heap x v) E s

/-- a test has this truth -/
def PT (B : Bs) (n : Nat) (env : Env) (ρ : Str → Option V) (st : Store) (e : Expr) (b : Bool) : Prop :=
  ∀ A, Rm n A → ∀ E s H, Sim B env ρ st H s.heap →
    wpAny (model B.prog B.w) A (isTrue e env (eval e env)) (fun x s' => x = b ∧ KT B s s') E s

end Mine

-- part Gw2
namespace Mine

/-- base and store, no frame -/
structure SB (B : Bs) (st : Store) (H : Hd) (h : Heap) : Prop where
  base : Base B H h
  sto : SimH H st h
theorem Sim.sb {B : Bs} {env : Env} {ρ : Str → Option V} {st : Store} {H : Hd} {h : Heap} (x : Sim B env ρ st H h) : SB B st H h := ⟨x.base, x.sto⟩
theorem SB.keeps {B : Bs} {st : Store} {H : Hd} {h h' : Heap} (x : SB B st H h) (hk : KH B h h') : SB B st H h' := ⟨x.base.keeps hk, x.sto.keeps hk⟩

/-- an operation upon values -/
def P1 (B : Bs) (n : Nat) (st : Store) (t : Value → Sem Value) (a c : V) : Prop :=
  ∀ A, Rm n A → ∀ E s H x, SB B st H s.heap → Rep H s.heap x a → wpAny (model B.prog B.w) A (t x) (fun z s' => KT B s s' ∧ Rep H s'.heap z c) E s
def P2 (B : Bs) (n : Nat) (st : Store) (t : Value → Value → Sem Value) (a b c : V) : Prop :=
  ∀ A, Rm n A → ∀ E s H x y, SB B st H s.heap → Rep H s.heap x a → Rep H s.heap y b → wpAny (model B.prog B.w) A (t x y) (fun z s' => KT B s s' ∧ Rep H s'.heap z c) E s
/-- an operation upon a list of values -/
def PL (B : Bs) (n : Nat) (st : Store) (t : List Value → Sem Value) (as : List V) (c : V) : Prop :=
  ∀ A, Rm n A → ∀ E s H xs, SB B st H s.heap → RepAll H s.heap xs as → wpAny (model B.prog B.w) A (t xs) (fun z s' => KT B s s' ∧ Rep H s'.heap z c) E s
/-- truth of a value -/
def PTr (B : Bs) (n : Nat) (st : Store) (a : V) (b : Bool) : Prop :=
  ∀ A, Rm n A → ∀ E s H x, SB B st H s.heap → Rep H s.heap x a → wpAny (model B.prog B.w) A (truthy x) (fun z s' => z = b ∧ KT B s s') E s

section
variable {B : Bs} {n : Nat} {env : Env} {ρ : Str → Option V} {st : Store}

theorem kp_tok (s : Shared) (k : Nat) : KT B s { s with toks := k } := ⟨s.heap, k, rfl, .refl ..⟩
theorem kp_heap {s : Shared} {h : Heap} (hk : ∀ b o, s.heap.get? b = some o → h.get? b = some o) : KT B s { s with heap := h } := ⟨h, s.toks, rfl, .of hk⟩
theorem kp_push (s : Shared) (o : Obj) : KT B s { s with heap := s.heap.push o } := kp_heap fun _ _ e => Heap.get?_push_of_some _ e

-- constants
theorem pe_int {i : Int} {k : Nat} {pos : Pos} : PE B n env ρ st (.Constant (.int i) k pos) (.int i) := fun A _ E s H _ => by
  show wpAny _ A (mkInt i) _ _ _
  exact wpAny_mkInt ⟨kp_tok .., .int ..⟩
theorem pe_str {x : Str} {k : Nat} {pos : Pos} : PE B n env ρ st (.Constant (.str x) k pos) (.str x) := fun A _ E s H _ => by
  show wpAny _ A (mkText x) _ _ _
  exact wpAny_mkText ⟨kp_tok .., .str ..⟩
theorem pe_bool {b : Bool} {k : Nat} {pos : Pos} : PE B n env ρ st (.Constant (.bool b) k pos) (.bool b) := fun A _ E s H _ => wpAny_pure ⟨kp_refl _, .bool b⟩
theorem pe_none {k : Nat} {pos : Pos} : PE B n env ρ st (.Constant .none k pos) .none := fun A _ E s H _ => wpAny_pure ⟨kp_refl _, .none⟩

-- names
theorem pe_name {x : Str} {pos : Pos} {v : V} (hv : ρ x = some v) (hk : env.kindOf x = some .local ∨ env.kindOf x = some .cell ∨ env.kindOf x = some .free)
    (hd : (x == ("__debug__" : Str)) = false := by kernel_rfl) (hc : (x == ("__classdict__" : Str)) = false := by kernel_rfl) : PE B n env ρ st (.Name x pos) v := fun A _ E s H S => by
  refine wpAny_Name ?_ hd
  rcases hk with hk | hk | hk
  · obtain ⟨m, hm, hr⟩ := S.en.loc
    obtain ⟨y, hy, r⟩ := hr x v hk hv
    exact wpAny_loadName_local S.en.kind hk hm hy ⟨kp_refl _, r⟩
  · obtain ⟨c, y, h1, h2, h3⟩ := S.en.cell x v (.inl hk) hv
    exact wpAny_loadName_cell S.en.kind hk h1 h2 ⟨kp_refl _, h3⟩
  · obtain ⟨c, y, h1, h2, h3⟩ := S.en.cell x v (.inr hk) hv
    exact wpAny_loadName_free S.en.kind hk h1 h2 ⟨kp_refl _, h3⟩ hc

theorem ld_glob {A : Around} {E : Value → Shared → Prop} {s : Shared} {H : Hd} {x : Str} {pos : Pos} {y : Value} {Q : Value → Shared → Prop} (S : Sim B env ρ st H s.heap)
    (hk : env.kindOf x = some .globalImplicit) (hv : (B.mg x).or (B.mb x) = some y) (h : Q y s) (hd : (x == ("__debug__" : Str)) = false := by kernel_rfl) :
    wpAny (model B.prog B.w) A (eval (.Name x pos) env) Q E s := by
  refine wpAny_Name ?_ hd
  unfold loadName
  simp only [Env.blockKind, S.en.kind, hk, ScopeKind.isAnnotationScope, Bool.false_and, Bool.false_eq_true, if_false]
  unfold loadGlobal
  rw [S.en.gl, S.en.bi]
  refine wpAny_bind (wpAny_nsGet (B.g.keeps S.base.keep) ?_)
  cases hg : B.mg x with
  | some z => rw [hg] at hv; cases hv; exact wpAny_pure h
  | none =>
    rw [hg] at hv
    refine wpAny_bind (wpAny_nsGet (B.b.keeps S.base.keep) ?_)
    have hv' : B.mb x = some y := hv
    rw [hv']; exact wpAny_pure h

/-- a name of the top -/
theorem pe_glob {x : Str} {pos : Pos} {y : Value} (hv : (B.mg x).or (B.mb x) = some y) (hk : env.kindOf x = some .globalImplicit) (hd : (x == ("__debug__" : Str)) = false := by kernel_rfl) :
    PE B n env ρ st (.Name x pos) (.val y) := fun _ _ _ _ _ S => ld_glob S hk hv ⟨kp_refl _, .val y⟩ hd

-- generic nodes
theorem pe_bin {l r : Expr} {op : Operator} {pos : Pos} {a b c : V} (h1 : PE B n env ρ st l a) (h2 : PE B n env ρ st r b) (h3 : P2 B n st (binaryOp op) a b c) : PE B n env ρ st (.BinOp l op r pos) c := fun A hA E s H S => by
  refine wpAny_BinOp (wpAny_mono (h1 A hA E s H S) (fun x s₁ ⟨k1, r1⟩ => wpAny_mono (h2 A hA E s₁ H (S.keeps (kp_get k1))) (fun y s₂ ⟨k2, r2⟩ => ?_) fun _ _ e => e) fun _ _ e => e)
  have k := kp_trans k1 k2
  exact wpAny_mono (h3 A hA E s₂ H x y (S.sb.keeps (kp_get k)) (r1.ext (kp_dk k2 H)) r2) (fun z s₃ ⟨k3, r3⟩ => ⟨kp_trans k k3, r3⟩) fun _ _ e => e
theorem pe_cmp {l r : Expr} {op : CmpOp} {pos : Pos} {a b c : V} (h1 : PE B n env ρ st l a) (h2 : PE B n env ρ st r b) (h3 : P2 B n st (compareOp op) a b c) (hm : behindInMarks op r = false := by with_unfolding_all rfl) : PE B n env ρ st (.Compare l [op] [r] pos) c := fun A hA E s H S => by
  refine wpAny_Compare1 (wpAny_mono (h1 A hA E s H S) (fun x s₁ ⟨k1, r1⟩ => wpAny_mono (h2 A hA E s₁ H (S.keeps (kp_get k1))) (fun y s₂ ⟨k2, r2⟩ => ?_) fun _ _ e => e) fun _ _ e => e) hm
  have k := kp_trans k1 k2
  exact wpAny_mono (h3 A hA E s₂ H x y (S.sb.keeps (kp_get k)) (r1.ext (kp_dk k2 H)) r2) (fun z s₃ ⟨k3, r3⟩ => ⟨kp_trans k k3, r3⟩) fun _ _ e => e
theorem pt_cmp {l r : Expr} {op : CmpOp} {pos : Pos} {a b : V} {c : Bool} (h1 : PE B n env ρ st l a) (h2 : PE B n env ρ st r b) (h3 : P2 B n st (compareOp op) a b (.bool c)) (hm : behindInMarks op r = false := by with_unfolding_all rfl) : PT B n env ρ st (.Compare l [op] [r] pos) c := fun A hA E s H S => by
  refine wpAny_isTrue_Compare1 (wpAny_mono (h1 A hA E s H S) (fun x s₁ ⟨k1, r1⟩ => wpAny_mono (h2 A hA E s₁ H (S.keeps (kp_get k1))) (fun y s₂ ⟨k2, r2⟩ => ?_) fun _ _ e => e) fun _ _ e => e) hm
  have k := kp_trans k1 k2
  refine wpAny_mono (h3 A hA E s₂ H x y (S.sb.keeps (kp_get k)) (r1.ext (kp_dk k2 H)) r2) (fun z s₃ ⟨k3, r3⟩ => ?_) fun _ _ e => e
  cases r3
  exact wpAny_truthy_bool ⟨rfl, kp_trans k k3⟩
theorem pe_un {e : Expr} {op : UnaryOp} {pos : Pos} {a c : V} (h1 : PE B n env ρ st e a) (h3 : P1 B n st (unaryOp op) a c) : PE B n env ρ st (.UnaryOp op e pos) c := fun A hA E s H S =>
  wpAny_UnaryOp (wpAny_mono (h1 A hA E s H S) (fun x s₁ ⟨k1, r1⟩ => wpAny_mono (h3 A hA E s₁ H x (S.sb.keeps (kp_get k1)) r1) (fun z s₃ ⟨k3, r3⟩ => ⟨kp_trans k1 k3, r3⟩) fun _ _ e => e) fun _ _ e => e)
theorem pe_ifexp {t a b : Expr} {pos : Pos} {c : Bool} {v : V} (h1 : PT B n env ρ st t c) (h2 : c = true → PE B n env ρ st a v) (h3 : c = false → PE B n env ρ st b v) : PE B n env ρ st (.IfExp t a b pos) v := fun A hA E s H S => by
  refine wpAny_IfExp (wpAny_mono (h1 A hA E s H S) (fun x s₁ ⟨e1, k1⟩ => ?_) fun _ _ e => e)
  subst e1
  cases x with
  | true => exact wpAny_mono (h2 rfl A hA E s₁ H (S.keeps (kp_get k1))) (fun z s₃ ⟨k3, r3⟩ => ⟨kp_trans k1 k3, r3⟩) fun _ _ e => e
  | false => exact wpAny_mono (h3 rfl A hA E s₁ H (S.keeps (kp_get k1))) (fun z s₃ ⟨k3, r3⟩ => ⟨kp_trans k1 k3, r3⟩) fun _ _ e => e
theorem pt_val {e : Expr} {a : V} {b : Bool} (h1 : PE B n env ρ st e a) (h2 : PTr B n st a b) (he : ∀ whole, isTrue e env whole = (do let v ← whole; standAt e.pos; holding [v] (truthy v)) := by intro _; rfl) : PT B n env ρ st e b := fun A hA E s H S =>
  wpAny_isTrue_value (wpAny_mono (h1 A hA E s H S) (fun x s₁ ⟨k1, r1⟩ => wpAny_mono (h2 A hA E s₁ H x (S.sb.keeps (kp_get k1)) r1) (fun z s₂ ⟨e2, k2⟩ => ⟨e2, kp_trans k1 k2⟩) fun _ _ e => e) fun _ _ e => e) (he _)
theorem pt_not {e : Expr} {pos : Pos} {b : Bool} (h1 : PT B n env ρ st e b) : PT B n env ρ st (.UnaryOp .Not e pos) (!b) := fun A hA E s H S =>
  wpAny_isTrue_Not (wpAny_mono (h1 A hA E s H S) (fun x s₁ ⟨e1, k1⟩ => ⟨by rw [e1], k1⟩) fun _ _ e => e)
theorem pt_and {a b : Expr} {pos : Pos} {p q : Bool} (h1 : PT B n env ρ st a p) (h2 : p = true → PT B n env ρ st b q) : PT B n env ρ st (.BoolOp .And [a, b] pos) (p && q) := fun A hA E s H S => by
  refine wpAny_isTrue_BoolOp ?_
  rw [arm_allTrue_cons]
  refine wpAny_bind (wpAny_mono (h1 A hA E s H S) (fun x s₁ ⟨e1, k1⟩ => ?_) fun _ _ e => e)
  subst e1
  cases x with
  | false => exact wpAny_pure ⟨rfl, k1⟩
  | true =>
    rw [arm_allTrue_cons]
    refine wpAny_bind (wpAny_mono (h2 rfl A hA E s₁ H (S.keeps (kp_get k1))) (fun y s₂ ⟨e2, k2⟩ => ?_) fun _ _ e => e)
    subst e2
    cases y <;> exact wpAny_pure ⟨rfl, kp_trans k1 k2⟩
theorem pt_or {a b : Expr} {pos : Pos} {p q : Bool} (h1 : PT B n env ρ st a p) (h2 : p = false → PT B n env ρ st b q) : PT B n env ρ st (.BoolOp .Or [a, b] pos) (p || q) := fun A hA E s H S => by
  refine wpAny_isTrue_BoolOp ?_
  rw [arm_allTrue_cons]
  refine wpAny_bind (wpAny_mono (h1 A hA E s H S) (fun x s₁ ⟨e1, k1⟩ => ?_) fun _ _ e => e)
  subst e1
  cases x with
  | true => exact wpAny_pure ⟨rfl, k1⟩
  | false =>
    rw [arm_allTrue_cons]
    refine wpAny_bind (wpAny_mono (h2 rfl A hA E s₁ H (S.keeps (kp_get k1))) (fun y s₂ ⟨e2, k2⟩ => ?_) fun _ _ e => e)
    subst e2
    cases y <;> exact wpAny_pure ⟨rfl, kp_trans k1 k2⟩

-- int operations
theorem o_add {a b : Int} : P2 B n st (binaryOp .Add) (.int a) (.int b) (.int (a + b)) := fun A _ E s H x y _ rx ry => by cases rx; cases ry; exact add_int ⟨kp_tok .., .int ..⟩
theorem o_sub {a b : Int} : P2 B n st (binaryOp .Sub) (.int a) (.int b) (.int (a - b)) := fun A _ E s H x y _ rx ry => by cases rx; cases ry; exact sub_int ⟨kp_tok .., .int ..⟩
theorem o_mul {a b : Int} (hm : IntMulOk a b) : P2 B n st (binaryOp .Mult) (.int a) (.int b) (.int (a * b)) := fun A _ E s H x y _ rx ry => by cases rx; cases ry; exact mul_int ⟨kp_tok .., .int ..⟩ hm
theorem o_mod {a b : Int} (hb : b ≠ 0) : P2 B n st (binaryOp .Mod) (.int a) (.int b) (.int (a.fmod b)) := fun A _ E s H x y _ rx ry => by cases rx; cases ry; exact mod_int hb ⟨kp_tok .., .int ..⟩
theorem pylongRoom {A : Around} {s : Shared} {H : Hd} (S : SB B st H s.heap) (R : Rm n A) : PylongRoom (model B.prog B.w) A s := by
  obtain ⟨env, l, hf, h1, h2, h3, h4⟩ := R.fr
  exact PylongRoom.of (B.lim.keeps S.base.keep) (by have := R.dp; simp only [Builtin.pylongFrames, recursionLimit]; omega) (SeerAt.of (B.seer.keeps S.base.keep) B.tree hf h1 h2 h3 h4)
theorem o_fdiv {a b : Int} (hb : b ≠ 0) : P2 B n st (binaryOp .FloorDiv) (.int a) (.int b) (.int (a.fdiv b)) := fun A R E s H x y S rx ry => by
  cases rx; cases ry; exact floordiv_int hb ⟨kp_tok .., .int ..⟩ (.inr (pylongRoom S R))
theorem o_lt {a b : Int} : P2 B n st (compareOp .Lt) (.int a) (.int b) (.bool (decide (a < b))) := fun A _ E s H x y _ rx ry => by cases rx; cases ry; exact lt_int ⟨kp_refl _, .bool _⟩
theorem o_le {a b : Int} : P2 B n st (compareOp .LtE) (.int a) (.int b) (.bool (decide (a ≤ b))) := fun A _ E s H x y _ rx ry => by cases rx; cases ry; exact le_int ⟨kp_refl _, .bool _⟩
theorem o_gt {a b : Int} : P2 B n st (compareOp .Gt) (.int a) (.int b) (.bool (decide (b < a))) := fun A _ E s H x y _ rx ry => by cases rx; cases ry; exact gt_int ⟨kp_refl _, .bool _⟩
theorem o_ge {a b : Int} : P2 B n st (compareOp .GtE) (.int a) (.int b) (.bool (decide (b ≤ a))) := fun A _ E s H x y _ rx ry => by cases rx; cases ry; exact ge_int ⟨kp_refl _, .bool _⟩
theorem o_eq {a b : Int} : P2 B n st (compareOp .Eq) (.int a) (.int b) (.bool (a == b)) := fun A _ E s H x y _ rx ry => by cases rx; cases ry; exact eq_int ⟨kp_refl _, .bool _⟩
theorem o_ne {a b : Int} : P2 B n st (compareOp .NotEq) (.int a) (.int b) (.bool (a != b)) := fun A _ E s H x y _ rx ry => by cases rx; cases ry; exact ne_int ⟨kp_refl _, .bool _⟩
theorem o_neg {a : Int} : P1 B n st (unaryOp .USub) (.int a) (.int (-a)) := fun A _ E s H x _ rx => by cases rx; exact neg_int ⟨kp_tok .., .int ..⟩
theorem o_isNone : P2 B n st (compareOp .Is) .none .none (.bool true) := fun A _ E s H x y _ rx ry => by cases rx; cases ry; exact is_none_none ⟨kp_refl _, .bool _⟩
def notNone : V → Bool
  | .none => false
  | .val .none => false
  | _ => true
theorem o_isNotNone {v : V} (hv : notNone v = true) : P2 B n st (compareOp .Is) v .none (.bool false) := fun A _ E s H x y _ rx ry => by
  cases ry
  refine is_none_ne ?_ ⟨kp_refl _, .bool _⟩
  rintro rfl
  cases rx <;> simp [notNone] at hv
theorem tr_int {a : Int} : PTr B n st (.int a) (a != 0) := fun A _ E s H x _ rx => by cases rx; exact truthy_int ⟨rfl, kp_refl _⟩
theorem tr_bool {b : Bool} : PTr B n st (.bool b) b := fun A _ E s H x _ rx => by cases rx; exact wpAny_truthy_bool ⟨rfl, kp_refl _⟩

end
end Mine

-- part Gw3
namespace Mine

/-- the items of a list value -/
def lis (st : Store) : V → Option (List V)
  | .lst l => some l
  | .ref k => st[k]?
  | _ => none

theorem lis_at {B : Bs} {st : Store} {H : Hd} {h : Heap} {x : Value} {v : V} {l : List V} (S : SimH H st h) (r : Rep H h x v) (hl : lis st v = some l) :
    ∃ a vs n, x = .ref a ∧ h.get? a = some (lisObj vs n) ∧ RepAll H h vs.toList l := by
  cases r with
  | lst ha ho hr => cases hl; exact ⟨_, _, _, rfl, ho, hr⟩
  | ref hk =>
    obtain ⟨vs, n, ho, hr⟩ := S.at_ _ _ _ hk hl
    exact ⟨_, vs, n, rfl, ho, hr⟩
  | _ => cases hl

theorem isList_of {h : Heap} {a : Addr} {vs : Array Value} {n : Nat} (ho : h.get? a = some (lisObj vs n)) : h.IsList a vs := ⟨_, ho, rfl, n, rfl⟩
theorem isTup_of {h : Heap} {a : Addr} {vs : Array Value} {n : Nat} (ho : h.get? a = some (tupObj vs n)) : IsTup h a vs := ⟨_, ho, rfl, n, rfl⟩
theorem RepAll.size {H : Hd} {h : Heap} {vs : Array Value} {l : List V} (r : RepAll H h vs.toList l) : vs.size = l.length := by
  have := r.length; simpa using this

/-- the arguments of a call, a display's items -/
def PEs (B : Bs) (n : Nat) (env : Env) (ρ : Str → Option V) (st : Store) (es : List Expr) (vs : List V) : Prop :=
  ∀ A, Rm n A → ∀ E s H pos, Sim B env ρ st H s.heap →
    wpAny (model B.prog B.w) A (spliced (backTo pos (starEach es env))) (fun xs s' => KT B s s' ∧ RepAll H s'.heap xs vs) E s

theorem notMem_size {H : Hd} {st : Store} {h : Heap} (S : SimH H st h) : ¬ H.has h.objs.size := fun hm => by
  obtain ⟨o, ho, _⟩ := S.live _ hm
  exact Nat.lt_irrefl _ (Heap.lt_size ho)

/-- indices picked out of a list -/
theorem RepAll.pick {H : Hd} {h : Heap} {xs : List Value} {l : List V} (r : RepAll H h xs l) : ∀ ix : List Nat, RepAll H h (ix.filterMap (xs[·]?)) (ix.filterMap (l[·]?))
  | [] => .nil
  | i :: ix => by
    have ih := RepAll.pick r ix
    cases hx : xs[i]? with
    | none =>
      have hl : l[i]? = none := by
        rw [List.getElem?_eq_none_iff] at hx ⊢
        rw [← r.length]; exact hx
      simp only [List.filterMap_cons, hx, hl]; exact ih
    | some x =>
      obtain ⟨v, hv, rv⟩ := r.get' hx
      simp only [List.filterMap_cons, hx, hv]
      exact .cons rv ih

/-- a slice of a list -/
def slc (l : List V) (lo hi st : Option Int) : List V :=
  (sliceRange (sliceBounds lo hi st l.length).1 (sliceBounds lo hi st l.length).2.1 (sliceBounds lo hi st l.length).2.2).filterMap (l[·]?)

theorem RepAll.slice {H : Hd} {h : Heap} {vs : Array Value} {l : List V} (r : RepAll H h vs.toList l) (lo hi st : Option Int) : RepAll H h (slicePick vs lo hi st).toList (slc l lo hi st) := by
  unfold slicePick slc
  rw [r.size]
  have := r.pick (sliceRange (sliceBounds lo hi st l.length).1 (sliceBounds lo hi st l.length).2.1 (sliceBounds lo hi st l.length).2.2)
  simpa using this

def partOf : V → Option (Option Int)
  | .none => some none
  | .int i => some (some i)
  | _ => none
theorem part_at {H : Hd} {h : Heap} {x : Value} {v : V} {k : Option Int} (r : Rep H h x v) (hk : partOf v = some k) : IsPart x k := by
  cases r <;> cases hk <;> first | exact .none | exact .int ..

section
variable {B : Bs} {n : Nat} {env : Env} {ρ : Str → Option V} {st : Store}

theorem pes_nil : PEs B n env ρ st [] [] := fun A _ E s H pos _ => args_nil ⟨kp_refl _, .nil⟩
theorem pes_cons {e : Expr} {es : List Expr} {v : V} {vs : List V} (h1 : PE B n env ρ st e v) (h2 : PEs B n env ρ st es vs)
    (he : starEach (e :: es) env = (false, eval e env) :: starEach es env := by rfl) : PEs B n env ρ st (e :: es) (v :: vs) := fun A hA E s H pos S =>
  args_cons (wpAny_mono (h1 A hA E s H S) (fun x s₁ ⟨k1, r1⟩ => wpAny_mono (h2 A hA E s₁ H pos (S.keeps (kp_get k1))) (fun xs s₂ ⟨k2, r2⟩ => ⟨kp_trans k1 k2, .cons (r1.ext (kp_dk k2 H)) r2⟩) fun _ _ e => e) fun _ _ e => e) he

theorem pe_tuple {es : List Expr} {k : Nat} {pos : Pos} {vs : List V} (h1 : PEs B n env ρ st es vs) (hsz : vs.length ≤ sizeLine := by simp [sizeLine]) : PE B n env ρ st (.Tuple es k pos) (.tup vs) := fun A hA E s H S => by
  refine Tuple_ (wpAny_mono (h1 A hA E s H pos S) (fun xs s₁ ⟨k1, r1⟩ => ?_) fun _ _ e => e)
  have S1 := S.keeps (kp_get k1)
  refine wpAny_newObj_type ⟨kp_trans k1 (kp_push ..), .tup (vs := xs.toArray) (n := 0) (notMem_size S1.sto) (Heap.get?_push_size _ rfl) ?_⟩ (by show xs.toArray.size ≤ sizeLine; rw [List.size_toArray, r1.length]; exact hsz)
  exact r1.ext (kp_dk (B := B) (kp_push s₁ _) H)
theorem pe_list {es : List Expr} {pos : Pos} {vs : List V} (h1 : PEs B n env ρ st es vs) (hsz : vs.length ≤ sizeLine := by simp [sizeLine]) : PE B n env ρ st (.List es pos) (.lst vs) := fun A hA E s H S => by
  refine List_ (wpAny_mono (h1 A hA E s H pos S) (fun xs s₁ ⟨k1, r1⟩ => ?_) fun _ _ e => e)
  have S1 := S.keeps (kp_get k1)
  refine wpAny_newObj_type ⟨kp_trans k1 (kp_push ..), .lst (vs := xs.toArray) (n := 0) (notMem_size S1.sto) (Heap.get?_push_size _ rfl) ?_⟩ (by show xs.toArray.size ≤ sizeLine; rw [List.size_toArray, r1.length]; exact hsz)
  exact r1.ext (kp_dk (B := B) (kp_push s₁ _) H)

-- items
theorem pe_sub {e i : Expr} {pos : Pos} {a k c : V} (h1 : PE B n env ρ st e a) (h2 : PE B n env ρ st i k) (h3 : P2 B n st (subscriptTail e i) a k c) : PE B n env ρ st (.Subscript e i pos) c := fun A hA E s H S => by
  refine Subscript_ (wpAny_mono (h1 A hA E s H S) (fun x s₁ ⟨k1, r1⟩ => wpAny_mono (h2 A hA E s₁ H (S.keeps (kp_get k1))) (fun y s₂ ⟨k2, r2⟩ => ?_) fun _ _ e => e) fun _ _ e => e)
  have k := kp_trans k1 k2
  exact wpAny_mono (h3 A hA E s₂ H x y (S.sb.keeps (kp_get k)) (r1.ext (kp_dk k2 H)) r2) (fun z s₃ ⟨k3, r3⟩ => ⟨kp_trans k k3, r3⟩) fun _ _ e => e

theorem o_item {e i : Expr} {a c : V} {l : List V} {k : Int} (hl : lis st a = some l) (h0 : 0 ≤ k) (hx : l[k.toNat]? = some c) (hfit : l.length < 2 ^ 62)
    (hs : ∀ o j, subscripted i false o j = operate [o, j] (getItem o j) := by intro _ _; rfl) : P2 B n st (subscriptTail e i) a (.int k) c := fun A _ E s H x y S rx ry => by
  cases ry
  obtain ⟨ad, vs, m, rfl, ho, hr⟩ := lis_at (B := B) S.sto rx hl
  obtain ⟨z, hz, rz⟩ := hr.get hx
  have hlt : k.toNat < l.length := (List.getElem?_eq_some_iff.mp hx).1
  exact tail_any (isList_of ho).typeIs slot_list_getitem.lookup (wpAny_getItem_list (isList_of ho) h0 (by omega) (by simpa using hz) ⟨kp_refl _, rz⟩) (hs _ _)
theorem o_itemNeg {e i : Expr} {a c : V} {l : List V} {k : Int} (hl : lis st a = some l) (h0 : k < 0) (h1 : -(l.length : Int) ≤ k) (hx : l[(k + l.length).toNat]? = some c) (hfit : l.length < 2 ^ 62)
    (hs : ∀ o j, subscripted i false o j = operate [o, j] (getItem o j) := by intro _ _; rfl) : P2 B n st (subscriptTail e i) a (.int k) c := fun A _ E s H x y S rx ry => by
  cases ry
  obtain ⟨ad, vs, m, rfl, ho, hr⟩ := lis_at (B := B) S.sto rx hl
  have hsz := hr.size
  obtain ⟨z, hz, rz⟩ := hr.get hx
  exact tail_any (isList_of ho).typeIs slot_list_getitem.lookup (wpAny_getItem_list_neg (isList_of ho) h0 (by rw [hsz]; exact h1) (by omega) (by rw [hsz]; simpa using hz) ⟨kp_refl _, rz⟩) (hs _ _)
theorem o_itemTup {e i : Expr} {c : V} {l : List V} {k : Int} {j : Nat} (hj : seqIndex? k l.length = some j) (hx : l[j]? = some c) (hlo : -(2 ^ 63) ≤ k) (hhi : k < 2 ^ 63)
    (hs : ∀ o j, subscripted i false o j = operate [o, j] (getItem o j) := by intro _ _; rfl) : P2 B n st (subscriptTail e i) (.tup l) (.int k) c := fun A _ E s H x y S rx ry => by
  cases ry
  cases rx with
  | tup ha ho hr =>
    obtain ⟨z, hz, rz⟩ := hr.get hx
    exact item_tupleT (l := _) (by simpa using isTup_of ho) hlo hhi (by rw [hr.length]; exact hj) hz ⟨kp_refl _, rz⟩ (hs _ _)

-- slices
theorem pe_partNone {A : Around} {E : Value → Shared → Prop} {s : Shared} {Q : Value → Shared → Prop} (h : Q .none s) : wpAny (model B.prog B.w) A (evalPart none env) Q E s := wpAny_pure h
/-- the parts of a slice -/
def PPart (B : Bs) (n : Nat) (env : Env) (ρ : Str → Option V) (st : Store) (e : Option Expr) (k : Option Int) : Prop :=
  ∀ A, Rm n A → ∀ E s H, Sim B env ρ st H s.heap → wpAny (model B.prog B.w) A (evalPart e env) (fun x s' => KT B s s' ∧ IsPart x k) E s
theorem pp_none : PPart B n env ρ st none none := fun A _ E s H _ => wpAny_pure ⟨kp_refl _, .none⟩
theorem pp_some {e : Expr} {i : Int} (h : PE B n env ρ st e (.int i)) : PPart B n env ρ st (some e) (some i) := fun A hA E s H S => by
  show wpAny _ A (eval e env) _ _ _
  exact wpAny_mono (h A hA E s H S) (fun x s₁ ⟨k1, r1⟩ => ⟨k1, by cases r1; exact .int ..⟩) fun _ _ e => e
theorem pe_slice {e : Expr} {lo hi stp : Option Expr} {p pos : Pos} {a : V} {l : List V} {i j k : Option Int} (h1 : PE B n env ρ st e a) (hl : lis st a = some l) (h2 : PPart B n env ρ st lo i) (h3 : PPart B n env ρ st hi j) (h4 : PPart B n env ρ st stp k)
    (hk : k ≠ some 0) (hsz : l.length ≤ sizeLine) : PE B n env ρ st (.Subscript e (.Slice lo hi stp p) pos) (.lst (slc l i j k)) := fun A hA E s H S => by
  refine Subscript_ (wpAny_mono (h1 A hA E s H S) (fun x s₁ ⟨k1, r1⟩ => wpAny_Slice (wpAny_mono (h2 A hA E s₁ H (S.keeps (kp_get k1))) (fun y s₂ ⟨k2, r2⟩ => wpAny_mono (h3 A hA E s₂ H (S.keeps (kp_get (kp_trans k1 k2)))) (fun z s₃ ⟨k3, r3⟩ =>
    wpAny_mono (h4 A hA E s₃ H (S.keeps (kp_get (kp_trans k1 (kp_trans k2 k3))))) (fun u s₄ ⟨k4, r4⟩ => ?_) fun _ _ e => e) fun _ _ e => e) fun _ _ e => e)) fun _ _ e => e)
  have kk := kp_trans k1 (kp_trans k2 (kp_trans k3 k4))
  have S4 := S.keeps (kp_get kk)
  have r1' := r1.ext (kp_dk (B := B) (kp_trans k2 (kp_trans k3 k4)) H)
  obtain ⟨ad, vs, m, rfl, ho, hr⟩ := lis_at (B := B) S4.sto r1' hl
  have ho' := Heap.get?_push_of_some { cls := .type "slice", data := .fields #[y, z, u] } ho
  have S5 := S4.sto.keeps (B := B) (kp_get (kp_push s₄ { cls := .type "slice", data := .fields #[y, z, u] }))
  refine tail_any (T := "list") (id := "list.__getitem__") (ops := match stp with | none => [Value.ref s₄.heap.objs.size, Value.ref ad] | some _ => [Value.ref ad, Value.ref s₄.heap.objs.size]) (isList_of ho').typeIs slot_list_getitem.lookup (wpAny_getItem_list_slice (isList_of ho') (Heap.IsSliceOf.new ..) r2 r3 r4 hk ⟨kp_trans kk (kp_trans (kp_push ..) (kp_push ..)), ?_⟩ (by rw [hr.size]; exact hsz)) (by cases stp <;> rfl)
  exact .lst (notMem_size S5) (Heap.get?_push_size _ rfl) ((hr.slice i j k).ext (kp_dk (B := B) (kp_trans (kp_push s₄ _) (kp_push _ _)) H))

-- calls of built-in functions by their names
theorem pe_callB {x : Str} {np pos : Pos} {e : Expr} {es : List Expr} {id : String} {as : List V} {c : V} (hv : (B.mg x).or (B.mb x) = some (.builtin id)) (hk : env.kindOf x = some .globalImplicit) (h1 : PEs B n env ρ st (e :: es) as)
    (h2 : PL B n st (fun xs => call (.builtin id) xs) as c) (hd : (x == ("__debug__" : Str)) = false := by kernel_rfl)
    (he : starEach (e :: es) env = (false, eval e env) :: starEach es env := by rfl) (hplain : ∀ pos, (backTo pos (starEach es env)).any (·.1) = false := by intro _; rfl) :
    PE B n env ρ st (.Call (.Name x np) (e :: es) [] pos) c := fun A hA E s H S => by
  refine wpAny_Call_ofName (ld_glob S hk hv ?_ hd)
  refine callWith_builtin1 (wpAny_mono (h1 A hA E s H pos S) (fun xs s₁ ⟨k1, r1⟩ => ?_) fun _ _ e => e) he (hplain pos)
  exact wpAny_mono (h2 A hA E s₁ H xs (S.sb.keeps (kp_get k1)) r1) (fun z s₂ ⟨k2, r2⟩ => ⟨kp_trans k1 k2, r2⟩) fun _ _ e => e

theorem PL.one {t : List Value → Sem Value} {a c : V} (h : P1 B n st (fun x => t [x]) a c) : PL B n st t [a] c := fun A hA E s H xs S r => by
  cases r with | cons r1 r => cases r; exact h A hA E s H _ S r1
theorem PL.two {t : List Value → Sem Value} {a b c : V} (h : P2 B n st (fun x y => t [x, y]) a b c) : PL B n st t [a, b] c := fun A hA E s H xs S r => by
  cases r with | cons r1 r => cases r with | cons r2 r => cases r; exact h A hA E s H _ _ S r1 r2

theorem o_len {a : V} {l : List V} (hl : lis st a = some l) (hfit : l.length < 2 ^ 62) : PL B n st (fun xs => call (.builtin "len") xs) [a] (.int l.length) := PL.one fun A _ E s H x S rx => by
  obtain ⟨ad, vs, m, rfl, ho, hr⟩ := lis_at (B := B) S.sto rx hl
  refine len_list (isList_of ho) (by rw [hr.size]; omega) ⟨kp_tok .., ?_⟩
  rw [hr.size]; exact .int ..
theorem tr_lis {a : V} {l : List V} (hl : lis st a = some l) (hfit : l.length < 2 ^ 62) : PTr B n st a (!l.isEmpty) := fun A _ E s H x S rx => by
  obtain ⟨ad, vs, m, rfl, ho, hr⟩ := lis_at (B := B) S.sto rx hl
  have hsz := hr.size
  refine wpAny_truthy_list (isList_of ho) (by rw [hsz]; omega) ⟨?_, kp_tok ..⟩
  cases l with
  | nil => have : vs = #[] := by simpa using hsz
           simp [this]
  | cons v l => simp only [List.isEmpty_cons, Bool.not_false, Bool.not_eq_eq_eq_not, Bool.not_true]; rw [Array.isEmpty_eq_false_iff]; rintro rfl; simp at hsz
theorem o_addL {a b : V} {l m : List V} (hl : lis st a = some l) (hm : lis st b = some m) (hsz : l.length + m.length ≤ sizeLine) : P2 B n st (binaryOp .Add) a b (.lst (l ++ m)) := fun A _ E s H x y S rx ry => by
  obtain ⟨ad, vs, q, rfl, ho, hr⟩ := lis_at (B := B) S.sto rx hl
  obtain ⟨bd, ws, q', rfl, ho', hr'⟩ := lis_at (B := B) S.sto ry hm
  refine PySem.P.add_list (n := q) (n2 := q') ho ho' ⟨kp_push .., .lst (notMem_size S.sto) (Heap.get?_push_size _ rfl) ?_⟩ (by have := hr.size; have := hr'.size; omega) 
  have := (hr.append hr').ext (kp_dk (B := B) (kp_push s { cls := .type "list", data := .seq (vs ++ ws) }) H)
  simpa using this
end
end Mine

-- part Gw4
namespace Mine

def upd (ρ : Str → Option V) (x : Str) (v : V) : Str → Option V := fun y => if y = x then some v else ρ y

/-- what the frame's own names write -/
def wrt (env : Env) (xs : List Str) (b : Addr) : Prop := b = env.locals ∨ ∃ x ∈ xs, env.kindOf x = some .cell ∧ env.cells.lookup x = some b

theorem EnvRep.notSeq {env : Env} {ρ : Str → Option V} {H : Hd} {h : Heap} (x : EnvRep env ρ H h) {xs : List Str} {b : Addr} (hb : wrt env xs b) {o : Obj} (ho : h.get? b = some o) : ¬ IsSeq o := by
  rintro ⟨vs, n, hd⟩
  rcases hb with rfl | ⟨y, _, _, hc⟩
  · obtain ⟨m, ⟨o', es, ep, ho', hd', _⟩, _⟩ := x.loc
    rw [ho] at ho'; cases ho'; rw [hd] at hd'; cases hd'
  · obtain ⟨v, o', ho', hd'⟩ := x.cells y b (mem_of_lookup hc)
    rw [ho] at ho'; cases ho'; rw [hd] at hd'; cases hd'

theorem notSeq_notMem {H : Hd} {st : Store} {h : Heap} (S : SimH H st h) {b : Addr} {o : Obj} (ho : h.get? b = some o) (hs : ¬ IsSeq o) : ¬ H.has b := fun hm => by
  obtain ⟨o', ho', hs'⟩ := S.live _ hm
  rw [ho] at ho'; cases ho'; exact hs hs'

/-- a heap that keeps all but some non-sequences -/
theorem SimH.keepSeq {H : Hd} {st : Store} {h h' : Heap} (S : SimH H st h) (hk : ∀ b o, IsSeq o → h.get? b = some o → h'.get? b = some o) : SimH H st h' :=
  ⟨S.len, S.nd, fun k a l ha hl => let ⟨vs, n, ho, hr⟩ := S.at_ k a l ha hl; ⟨vs, n, hk _ _ (isSeq_lis ..) ho, hr.ext ⟨⟨[], by simp⟩, fun _ h1 h2 => absurd h1 h2, fun b o _ hs e => hk b o hs e⟩⟩, fun a ha => let ⟨o, ho, hs⟩ := S.live a ha; ⟨o, hk _ _ hs ho, hs⟩, S.dj⟩
theorem dk_seq {H : Hd} {h h' : Heap} (hk : ∀ b o, IsSeq o → h.get? b = some o → h'.get? b = some o) : DKeep H h H h' :=
  ⟨⟨[], by simp⟩, fun _ h1 h2 => absurd h1 h2, fun b o _ hs e => hk b o hs e⟩

/-- what a code's table may name -/
def CodeO (o : Obj) : Prop := ∃ vs q t, o.data = .fields vs ∧ vs[1]? = some (.str q t)
theorem tabs_ne {B : Bs} {h h' : Heap} (x : TabsOk B h) {W : Addr → Prop} (hk : ∀ b o, ¬ W b → h.get? b = some o → h'.get? b = some o) (hW : ∀ b, W b → ¬ B.isT b) (hC : ∀ b o, W b → h.get? b = some o → ¬ CodeO o) : TabsOk B h' := fun t ht => by
  obtain ⟨ps, h1, h2, h3⟩ := x t ht
  refine ⟨ps, hk _ _ (fun hw => hW _ hw ⟨t, ht, rfl⟩) h1, h2, fun pos cv e => ?_⟩
  obtain ⟨c, o, vs, u, e1, e2, e3, e4⟩ := h3 pos cv e
  exact ⟨c, o, vs, u, e1, hk _ _ (fun hw => hC _ _ hw e2 ⟨vs, _, _, e3, e4⟩) e2, e3, e4⟩
theorem base_ne {B : Bs} {H : Hd} {h h' : Heap} (x : Base B H h) {W : Addr → Prop} (hk : ∀ b o, ¬ W b → h.get? b = some o → h'.get? b = some o) (hW : ∀ b, W b → B.free b) (hC : ∀ b o, W b → h.get? b = some o → ¬ CodeO o) : Base B H h' :=
  ⟨fun b o e => hk b o (fun hw => (hW b hw).no e) (x.keep b o e), x.new, tabs_ne x.tab hk (fun b hb => (hW b hb).2) hC⟩
theorem ns_notCode {h : Heap} {C : Addr} {q : Str → Option Value} (hn : h.Ns C q) {o : Obj} (e : h.get? C = some o) : ¬ CodeO o := fun ⟨_, _, _, hd, _⟩ => by
  obtain ⟨o', es, ep, ho', hd', _⟩ := hn
  rw [e] at ho'; cases ho'; rw [hd] at hd'; cases hd'
/-- a new namespace is changed -/
theorem KH.but {B : Bs} {h h' h'' : Heap} {C : Addr} {q : Str → Option Value} (k : KH B h h') (hC : h.get? C = none) (hn : h'.Ns C q) (hs : Heap.SameBut C h' h'') : KH B h h'' where
  keep := fun b o hx e => hs.extBut b o (fun e' => by subst e'; rw [hC] at e; cases e) (k.keep b o hx e)
  tab := fun T => tabs_ne (k.tab T) (W := (· = C)) (fun b o hb e => hs.extBut b o hb e) (fun b hb ⟨t, ht, e⟩ => by
    obtain ⟨ps, h1, _⟩ := T t ht
    rw [e, hb, hC] at h1; cases h1) fun b o hb e => by subst hb; exact ns_notCode hn e
  live := fun b o e => let ⟨o', e'⟩ := k.live b o e; ⟨o', hs.extBut b o' (fun e'' => by subst e''; rw [hC] at e; cases e) e'⟩
theorem EnvRep.notCode {env : Env} {ρ : Str → Option V} {H : Hd} {h : Heap} (x : EnvRep env ρ H h) {xs : List Str} {b : Addr} (hb : wrt env xs b) {o : Obj} (ho : h.get? b = some o) : ¬ CodeO o := by
  rintro ⟨vs, q, t, hd, _⟩
  rcases hb with rfl | ⟨y, _, _, hc⟩
  · obtain ⟨m, ⟨o', es, ep, ho', hd', _⟩, _⟩ := x.loc
    rw [ho] at ho'; cases ho'; rw [hd] at hd'; cases hd'
  · obtain ⟨v, o', ho', hd'⟩ := x.cells y b (mem_of_lookup hc)
    rw [ho] at ho'; cases ho'; rw [hd] at hd'; cases hd'
theorem seq_notCode {o : Obj} (h : IsSeq o) : ¬ CodeO o := fun ⟨_, _, _, e, _⟩ => by obtain ⟨vs, n, e'⟩ := h; rw [e] at e'; cases e'

/-- a frame's own objects are new upon the base -/
structure Own (B : Bs) (env : Env) (xs : List Str) : Prop where
  new : ∀ b, wrt env xs b → B.free b

/-- the assignment of a value to a target: names of the target, the frame afterwards -/
def PA (B : Bs) (n : Nat) (env : Env) (st : Store) (target : Expr) (v : V) (xs : List Str) (ρ ρ' : Str → Option V) : Prop :=
  ∀ A, Rm n A → Own B env xs → ∀ E s H x, Sim B env ρ st H s.heap → Rep H s.heap x v →
    wpAny (model B.prog B.w) A (assign target env x) (fun _ s' => ∃ h' tk, s' = { s with heap := h', toks := tk } ∧ Sim B env ρ' st H h' ∧ ∀ b o, ¬ wrt env xs b → s.heap.get? b = some o → h'.get? b = some o) E s

theorem sim_storeLocal {B : Bs} {env : Env} {ρ : Str → Option V} {st : Store} {H : Hd} {h h' : Heap} {x : Str} {y : Value} {v : V} {m : Str → Option Value} {xs : List Str} (S : Sim B env ρ st H h) (O : Own B env xs)
    (hx : env.kindOf x = some .local) (hm : h.Ns env.locals m) (hr : ∀ x v, env.kindOf x = some .local → ρ x = some v → ∃ y, m x = some y ∧ Rep H h y v) (hn : h'.Ns env.locals (fun z => if z = x then some y else m z)) (hs : Heap.SameBut env.locals h h') (r : Rep H h y v) : Sim B env (upd ρ x v) st H h' := by
  have kp : ∀ b o, ¬ wrt env xs b → h.get? b = some o → h'.get? b = some o := fun b o hb e => hs.extBut b o (fun e' => hb (.inl e')) e
  have ks : ∀ b o, IsSeq o → h.get? b = some o → h'.get? b = some o := fun b o hq e => hs.extBut b o (fun e' => S.en.notSeq (xs := xs) (.inl e') e hq) e
  have kc : ∀ {c : Addr} {v : Option Value}, h.IsCell c v → c ≠ env.locals := fun hc e => by
    subst e
    obtain ⟨o, es, ep, ho, hd, _⟩ := hm
    obtain ⟨o', ho', hd'⟩ := hc
    rw [ho] at ho'; cases ho'; rw [hd] at hd'; cases hd'
  refine ⟨base_ne S.base kp O.new (fun b o hb e => S.en.notCode hb e), S.sto.keepSeq ks, S.en.kind, S.en.gl, S.en.bi, ⟨_, hn, fun z w hz hw => ?_⟩, fun z w hz hw => ?_, fun z c hz => ?_, S.en.has, S.en.apart⟩
  · by_cases e : z = x
    · subst e
      simp only [upd, if_true] at hw; cases hw
      exact ⟨y, by simp, r.ext (dk_seq ks)⟩
    · simp only [upd, if_neg e] at hw
      obtain ⟨y', hy', r'⟩ := hr z w hz hw
      exact ⟨y', by simp [e, hy'], r'.ext (dk_seq ks)⟩
  · have e : z ≠ x := by rintro rfl; rw [hx] at hz; rcases hz with hz | hz <;> cases hz
    simp only [upd, if_neg e] at hw
    obtain ⟨c, y', h1, h2, h3⟩ := S.en.cell z w hz hw
    exact ⟨c, y', h1, h2.sameBut hs (kc h2), h3.ext (dk_seq ks)⟩
  · obtain ⟨w, hc⟩ := S.en.cells z c hz
    exact ⟨w, hc.sameBut hs (kc hc)⟩

theorem sim_storeCell {B : Bs} {env : Env} {ρ : Str → Option V} {st : Store} {H : Hd} {h h' : Heap} {x : Str} {y : Value} {v : V} {c : Addr} {v₀ : Option Value} {xs : List Str} (S : Sim B env ρ st H h) (O : Own B env xs) (hxs : x ∈ xs)
    (hx : env.kindOf x = some .cell) (hc : env.cells.lookup x = some c) (hv₀ : h.IsCell c v₀) (hn : h'.IsCell c (some y)) (hs : Heap.SameBut c h h') (r : Rep H h y v) : Sim B env (upd ρ x v) st H h' := by
  have hw : wrt env xs c := .inr ⟨x, hxs, hx, hc⟩
  have kp : ∀ b o, ¬ wrt env xs b → h.get? b = some o → h'.get? b = some o := fun b o hb e => hs.extBut b o (fun e' => hb (e' ▸ hw)) e
  have ks : ∀ b o, IsSeq o → h.get? b = some o → h'.get? b = some o := fun b o hq e => hs.extBut b o (fun e' => S.en.notSeq (xs := xs) (e' ▸ hw) e hq) e
  refine ⟨base_ne S.base kp O.new (fun b o hb e => S.en.notCode hb e), S.sto.keepSeq ks, S.en.kind, S.en.gl, S.en.bi, ?_, fun z w hz hw => ?_, fun z c' hz => ?_, S.en.has, S.en.apart⟩
  · obtain ⟨m, hm, hr⟩ := S.en.loc
    refine ⟨m, hm.sameBut hs ?_, fun z w hz hw => ?_⟩
    · rintro rfl
      obtain ⟨o, es, ep, ho, hd, _⟩ := hm
      obtain ⟨o', ho', hd'⟩ := hv₀
      rw [ho] at ho'; cases ho'; rw [hd] at hd'; cases hd'
    · have e : z ≠ x := by rintro rfl; rw [hx] at hz; cases hz
      simp only [upd, if_neg e] at hw
      obtain ⟨y', hy', r'⟩ := hr z w hz hw
      exact ⟨y', hy', r'.ext (dk_seq ks)⟩
  · by_cases e : z = x
    · subst e
      simp only [upd, if_true] at hw; cases hw
      exact ⟨c, y, hc, hn, r.ext (dk_seq ks)⟩
    · simp only [upd, if_neg e] at hw
      obtain ⟨c', y', h1, h2, h3⟩ := S.en.cell z w hz hw
      exact ⟨c', y', h1, h2.sameBut hs (fun e' => e (name_of_addr S.en.apart (mem_of_lookup h1) (e' ▸ mem_of_lookup hc))), h3.ext (dk_seq ks)⟩
  · by_cases e : c' = c
    · subst e; exact ⟨_, hn⟩
    · obtain ⟨w, hc'⟩ := S.en.cells z c' hz
      exact ⟨w, hc'.sameBut hs e⟩

section
variable {B : Bs} {n : Nat} {env : Env} {ρ : Str → Option V} {st : Store}

/-- a store of a name -/
theorem st_name {A : Around} {E : Value → Shared → Prop} {s : Shared} {H : Hd} {x : Str} {y : Value} {v : V} {xs : List Str} {Q : Unit → Shared → Prop} (S : Sim B env ρ st H s.heap) (O : Own B env xs) (hxs : x ∈ xs)
    (hk : env.kindOf x = some .local ∨ env.kindOf x = some .cell) (r : Rep H s.heap y v)
    (h : ∀ h' tk, Sim B env (upd ρ x v) st H h' → (∀ b o, ¬ wrt env xs b → s.heap.get? b = some o → h'.get? b = some o) → Q () { s with heap := h', toks := tk }) :
    wpAny (model B.prog B.w) A (storeName env x y) Q E s := by
  rcases hk with hk | hk
  · obtain ⟨m, hm, hr⟩ := S.en.loc
    refine wpAny_storeName_local hk hm (fun h' hn hs => h h' _ (sim_storeLocal (xs := xs) S O hk hm hr hn hs r) fun b o hb e => hs.extBut b o (fun e' => hb (.inl e')) e) (by rw [S.en.kind]; rfl)
  · obtain ⟨c, hc⟩ := S.en.has x (.inl hk)
    obtain ⟨v₀, hv₀⟩ := S.en.cells x c (mem_of_lookup hc)
    refine wpAny_storeName_cell S.en.kind hk hc hv₀ fun h' hn hs => h h' _ (sim_storeCell S O hxs hk hc hv₀ hn hs r) fun b o hb e => hs.extBut b o (fun e' => hb (e' ▸ .inr ⟨x, hxs, hk, hc⟩)) e

theorem pa_name {x : Str} {pos : Pos} {v : V} {xs : List Str} (hxs : x ∈ xs) (hk : env.kindOf x = some .local ∨ env.kindOf x = some .cell) : PA B n env st (.Name x pos) v xs ρ (upd ρ x v) := fun A _ O E s H y S r =>
  wpAny_assign_Name (st_name S O hxs hk r fun h' tk S' kp => ⟨h', tk, rfl, S', kp⟩)

/-- targets in their order -/
def PAs (B : Bs) (n : Nat) (env : Env) (st : Store) (ts : List Expr) (vs : List V) (xs : List Str) (ρ ρ' : Str → Option V) : Prop :=
  ∀ A, Rm n A → Own B env xs → ∀ E s H ys, Sim B env ρ st H s.heap → RepAll H s.heap ys vs →
    wpAny (model B.prog B.w) A (assignInOrder ((assignEach ts env).map (·.2)) ys) (fun _ s' => ∃ h' tk, s' = { s with heap := h', toks := tk } ∧ Sim B env ρ' st H h' ∧ ∀ b o, ¬ wrt env xs b → s.heap.get? b = some o → h'.get? b = some o) E s

theorem wrt_dk {H : Hd} {h h' : Heap} {xs : List Str} (S : EnvRep env ρ H h) (hk : ∀ b o, ¬ wrt env xs b → h.get? b = some o → h'.get? b = some o) : DKeep H h H h' :=
  dk_seq fun b o hq e => hk b o (fun hw => S.notSeq hw e hq) e

theorem pas_nil {xs : List Str} : PAs B n env st [] [] xs ρ ρ := fun A _ O E s H ys S r => by
  cases r; exact wpAny_assignInOrder_none ⟨s.heap, s.toks, rfl, S, fun _ _ _ e => e⟩
theorem pas_cons {t : Expr} {ts : List Expr} {v : V} {vs : List V} {xs : List Str} {ρ₁ ρ₂ : Str → Option V} (h1 : PA B n env st t v xs ρ ρ₁) (h2 : PAs B n env st ts vs xs ρ₁ ρ₂)
    (he : assignEach (t :: ts) env = (false, assign t env) :: assignEach ts env := by rfl) : PAs B n env st (t :: ts) (v :: vs) xs ρ ρ₂ := fun A hA O E s H ys S r => by
  cases r with
  | cons r1 r2 =>
    rw [he]
    refine wpAny_assignInOrder_more (wpAny_mono (h1 A hA O E s H _ S r1) (fun _ s₁ q1 => ?_) fun _ _ e => e)
    obtain ⟨h', tk, rfl, S', kp⟩ := q1
    refine wpAny_mono (h2 A hA O E _ H _ S' (r2.ext (wrt_dk S.en kp))) (fun _ s₂ q2 => ?_) fun _ _ e => e
    obtain ⟨h'', tk', rfl, S'', kp'⟩ := q2
    exact ⟨h'', tk', rfl, S'', fun b o hb e => kp' b o hb (kp b o hb e)⟩

theorem pa_tuple {ts : List Expr} {k : Nat} {pos : Pos} {vs : List V} {xs : List Str} {ρ' : Str → Option V} (h : PAs B n env st ts vs xs ρ ρ') (hn : (assignEach ts env).length = vs.length := by rfl) (hstar : (assignEach ts env).findIdx? (·.1) = none := by rfl) :
    PA B n env st (.Tuple ts k pos) (.tup vs) xs ρ ρ' := fun A hA O E s H y S r => by
  cases r with
  | tup ha ho hr =>
    refine wpAny_assign_Tuple hA.hd (isTup_of ho) (by rw [hn, hr.size]) hstar fun h' he => ?_
    have kp : ∀ b o, s.heap.get? b = some o → h'.get? b = some o := fun b o e => he b o (Nat.ne_of_lt (Heap.lt_size e)) e
    refine wpAny_mono (h A hA O E { s with heap := h' } H _ (S.keeps (.of kp)) (hr.ext (.of_full kp))) (fun _ s₁ q => ?_) fun _ _ e => e
    obtain ⟨h'', tk', rfl, S'', kp'⟩ := q
    exact ⟨h'', tk', rfl, S'', fun b o hb e => kp' b o hb (kp b o e)⟩
end
end Mine

-- part Gw5
namespace Mine

/-- an iterator that hands out the values vs one by one; X: opaque sequences of its own; wr: what it writes; fp: what it stands on -/
structure Iter (B : Bs) (n : Nat) (it : Value) (vs : List V) (Cond : Store → Prop) (Tg : Expr → Prop) (X wr fp : List Addr) (St : Hd → Nat → Heap → Prop) : Prop where
  sub : ∀ b ∈ wr, b ∈ fp
  frame : ∀ H H' i h h', St H i h → DKeep H h H' h' → (∀ b ∈ fp, ∀ o, h.get? b = some o → h'.get? b = some o) → St H' i h'
  wrObj : ∀ H i h b, St H i h → b ∈ fp → ∃ o, h.get? b = some o ∧ (b ∈ wr → b ∉ X → (∃ fs, o.data = .fields fs) ∧ ¬ CodeO o)
  xObj : ∀ H i h b, St H i h → b ∈ X → ∃ o, h.get? b = some o ∧ IsSeq o
  item : ∀ A, Rm n A → ∀ E s H st i v target (Q : Value → Shared → Prop), Cond st → Tg target → SB B st H s.heap → (∀ a ∈ X, H.has a) → St H i s.heap → vs[i]? = some v →
    (∀ x h' tk, St H (i + 1) h' → (∀ b o, b ∉ wr → s.heap.get? b = some o → h'.get? b = some o) → Rep H h' x v → Q x { s with heap := h', toks := tk }) →
    wpAny (model B.prog B.w) A (pyNext it) (fun r s₁ => ∃ x, r = some x ∧ wpAny (model B.prog B.w) A (letOwnedTupleGo target it x) (fun _ s₂ => Q x s₂) E s₁) E s
  done : ∀ A, Rm n A → ∀ E s H st (Q : Shared → Prop), Cond st → SB B st H s.heap → (∀ a ∈ X, H.has a) → St H vs.length s.heap →
    (∀ h' tk, (∀ b o, b ∉ wr → s.heap.get? b = some o → h'.get? b = some o) → Q { s with heap := h', toks := tk }) →
    wpAny (model B.prog B.w) A (pyNext it) (fun r s₁ => r = none ∧ Q s₁) E s
  self : ∀ A, Rm n A → ∀ E s H i (Q : Value → Shared → Prop), St H i s.heap → Q it s → wpAny (model B.prog B.w) A (pyIter it) Q E s

def AnyT : Expr → Prop := fun _ => True
def IsTupT : Expr → Prop := fun t => ∃ es k p, t = .Tuple es k p

theorem iter_list {B : Bs} {n : Nat} {I ad : Addr} {a : V} {l : List V} : Iter B n (.ref I) l (fun st => lis st a = some l) AnyT [] [I] [I]
    (fun H i h => h.IsListIter I ad i ∧ Rep H h (.ref ad) a) where
  sub := fun b hb => hb
  frame := fun H H' i h h' ⟨hi, hr⟩ dk hk => ⟨hi.at fun o e => hk I (by simp) o e, hr.ext dk⟩
  wrObj := fun H i h b ⟨hi, _⟩ hb => by
    obtain ⟨o, ho, hc, hd⟩ := hi
    cases List.mem_singleton.mp hb
    exact ⟨o, ho, fun _ _ => ⟨⟨_, hd⟩, fun ⟨vs, q, t, e1, e2⟩ => by rw [hd] at e1; cases e1; simp at e2⟩⟩
  xObj := fun H i h b _ hb => by simp at hb
  item := fun A hA E s H st i v target Q hc _ S _ ⟨hi, hr⟩ hv hQ => by
    obtain ⟨ad', vs, m, e, ho, hrs⟩ := lis_at (B := B) S.sto hr hc
    cases e
    obtain ⟨x, hx, rx⟩ := hrs.get hv
    refine wpAny_pyNext_list_item hi (isList_of ho) (by simpa using hx) fun h' hi' hs => ⟨x, rfl, letGo_listiter hi' ?_⟩
    have kp : ∀ b o, b ∉ [I] → s.heap.get? b = some o → h'.get? b = some o := fun b o hb e => hs.extBut b o (by simpa using hb) e
    have dk : DKeep H s.heap H h' := dk_seq fun b o hq e => kp b o (by
      intro hb
      cases List.mem_singleton.mp hb
      obtain ⟨o', ho', _, hd'⟩ := hi
      rw [e] at ho'; cases ho'
      obtain ⟨_, _, hq⟩ := hq
      rw [hq] at hd'; cases hd') e
    exact hQ x h' s.toks ⟨hi', hr.ext dk⟩ kp (rx.ext dk)
  done := fun A hA E s H st Q hc S _ ⟨hi, hr⟩ hQ => by
    obtain ⟨ad', vs, m, e, ho, hrs⟩ := lis_at (B := B) S.sto hr hc
    cases e
    refine wpAny_pyNext_list_end hA.hd hi (isList_of ho) (by have := hrs.size; simp [this]) fun h' hs => ⟨rfl, hQ h' s.toks fun b o hb e => hs b o (by simpa using hb) e⟩
  self := fun A hA E s H i Q ⟨hi, _⟩ hQ => wpAny_pyIter_listiter hi hQ

theorem letGo_rangeiter {prog : Program} {w : World} {A : Around} {E : Value → Shared → Prop} {target : Expr} {I : Addr} {x left step : Int} {v : Value} {Q' : Unit → Shared → Prop} {s' : Shared} (hit : IsRangeIter s'.heap I x left step) (h : Q' () s') :
    wpAny (model prog w) A (letOwnedTupleGo target (.ref I) v) Q' E s' := by
  unfold letOwnedTupleGo
  cases target <;> first
    | exact wpAny_pure h
    | (cases v <;> first
        | exact wpAny_pure h
        | (refine wpAny_bind (wpAny_load hit ?_)
           exact wpAny_pure h))

/-- the ints of a range -/
def rng (a c : Int) (m : Nat) : List Int := (List.range m).map fun (k : Nat) => a + (k : Int) * c

theorem iter_range {B : Bs} {n : Nat} {I : Addr} {a c : Int} {m : Nat} : Iter B n (.ref I) ((rng a c m).map V.int) (fun _ => True) AnyT [] [I] [I]
    (fun H i h => IsRangeIter h I (a + (i : Int) * c) ((m : Int) - i) c) where
  sub := fun b hb => hb
  frame := fun H H' i h h' hi dk hk => hk I (by simp) _ hi
  wrObj := fun H i h b hi hb => by
    cases List.mem_singleton.mp hb
    exact ⟨_, hi, fun _ _ => ⟨⟨_, rfl⟩, fun ⟨vs, q, t, e1, e2⟩ => by cases e1; simp [rawInt] at e2⟩⟩
  xObj := fun H i h b _ hb => by simp at hb
  item := fun A hA E s H st i v target Q hc _ S _ hi hv hQ => by
    have hlt : i < m := by
      have := (List.getElem?_eq_some_iff.mp hv).1
      simpa [rng] using this
    have hv' : v = .int (a + (i : Int) * c) := by
      simp [rng, hlt] at hv; exact hv.symm
    subst hv'
    refine wpAny_pyNext_range_item hi (by omega) fun h' hi' hs => ⟨_, rfl, letGo_rangeiter hi' ?_⟩
    have kp : ∀ b o, b ∉ [I] → s.heap.get? b = some o → h'.get? b = some o := fun b o hb e => hs.extBut b o (by simpa using hb) e
    refine hQ _ h' _ ?_ kp (.int ..)
    have e1 : a + (i : Int) * c + c = a + ((i + 1 : Nat) : Int) * c := by rw [Int.natCast_succ, Int.add_mul]; omega
    have e2 : (m : Int) - (i : Int) - 1 = (m : Int) - ((i + 1 : Nat) : Int) := by omega
    rw [e1, e2] at hi'
    exact hi'
  done := fun A hA E s H st Q hc S _ hi hQ => by
    refine wpAny_pyNext_range_end hA.hd hi (by simp [rng]) fun h' hs => ⟨rfl, hQ h' s.toks fun b o hb e => hs b o (by simpa using hb) e⟩
  self := fun A hA E s H i Q hi hQ => wpAny_pyIter_rangeiter hi hQ

/-- the iterable of a for or of a comprehension, and its iterator -/
def PI (B : Bs) (n : Nat) (env : Env) (ρ : Str → Option V) (st : Store) (e : Expr) (vs : List V) (Cond : Store → Prop) (Tg : Expr → Prop) (plain : Bool) : Prop :=
  ∀ A, Rm n A → ∀ E s H, Sim B env ρ st H s.heap →
    wpAny (model B.prog B.w) A (eval e env) (fun x s₁ => KT B s s₁ ∧ wpAny (model B.prog B.w) A (pyIter x) (fun it s₂ => KT B s s₂ ∧
      ∃ X wr fp St, Iter B n it vs Cond Tg X wr fp St ∧ Cond st ∧ (plain = true → X = []) ∧ St ⟨H.hs, X ++ H.xs⟩ 0 s₂.heap ∧ ∀ b, b ∈ fp ∨ b ∈ X → s.heap.get? b = none) E s₁) E s

section
variable {B : Bs} {n : Nat} {env : Env} {ρ : Str → Option V} {st : Store}

theorem new_none {s s' : Shared} (k : KT B s s') {a : Addr} (ha : s'.heap.objs.size ≤ a) : s.heap.get? a = none := by
  cases e : s.heap.get? a with
  | none => rfl
  | some o => obtain ⟨o', e'⟩ := (kp_get k).live _ _ e; exact absurd (Heap.lt_size e') (Nat.not_lt.mpr ha)

theorem pi_list {e : Expr} {a : V} {l : List V} (h1 : PE B n env ρ st e a) (hl : lis st a = some l) : PI B n env ρ st e l (fun st => lis st a = some l) AnyT true := fun A hA E s H S => by
  refine wpAny_mono (h1 A hA E s H S) (fun x s₁ ⟨k1, r1⟩ => ⟨k1, ?_⟩) fun _ _ e => e
  obtain ⟨ad, vs, m, rfl, ho, hr⟩ := lis_at (B := B) (S.keeps (kp_get k1)).sto r1 hl
  refine wpAny_pyIter_list (isList_of ho) ⟨kp_trans k1 (kp_push ..), [], _, _, _, iter_list (ad := ad), hl, fun _ => rfl, ⟨⟨_, Heap.get?_push_size _ rfl, rfl, rfl⟩, r1.ext (kp_dk (B := B) (kp_push s₁ _) H)⟩, fun b hb => ?_⟩
  rcases hb with hb | hb
  · cases List.mem_singleton.mp hb; exact new_none k1 (Nat.le_refl _)
  · simp at hb
end
end Mine

-- part Gw6
namespace Mine

section
variable {B : Bs} {n : Nat} {env : Env} {ρ : Str → Option V} {st : Store}

/-- the call of a class of the interpreter's by its name: what is shown of the class's call -/
theorem callT {A : Around} (hA : Rm n A) {E : Value → Shared → Prop} {s : Shared} {H : Hd} {x : Str} {np pos : Pos} {e : Expr} {es : List Expr} {T : String} {as : List V} {Q : Value → Shared → Prop} (S : Sim B env ρ st H s.heap)
    (hv : (B.mg x).or (B.mb x) = some (.type T)) (hk : env.kindOf x = some .globalImplicit) (h1 : PEs B n env ρ st (e :: es) as)
    (h2 : ∀ xs s₁, KT B s s₁ → RepAll H s₁.heap xs as → wpAny (model B.prog B.w) A (call (.type T) xs) Q E s₁) (hd : (x == ("__debug__" : Str)) = false := by kernel_rfl)
    (he : starEach (e :: es) env = (false, eval e env) :: starEach es env := by rfl) (hplain : ∀ pos, (backTo pos (starEach es env)).any (·.1) = false := by intro _; rfl) :
    wpAny (model B.prog B.w) A (eval (.Call (.Name x np) (e :: es) [] pos) env) Q E s := by
  refine wpAny_Call_ofName (ld_glob S hk hv ?_ hd)
  exact callWith_type1 (wpAny_mono (h1 A hA E s H pos S) (fun xs s₁ ⟨k1, r1⟩ => h2 xs s₁ k1 r1) fun _ _ e => e) he (hplain pos)

theorem rangeSize_one (a b : Int) : Builtin.Range.rangeSize a b 1 = ((b - a).toNat : Int) := by
  unfold Builtin.Range.rangeSize
  simp only [show (1 : Int) > 0 from by decide, if_true]
  split <;> omega

/-- a range object's iterator -/
theorem range_iter {A : Around} (hA : Rm n A) {E : Value → Shared → Prop} {s s₁ : Shared} {H : Hd} {r : Addr} {a b c : Int} {t u v : Tok} {m : Nat} (k1 : KT B s s₁) (hr : IsRange s₁.heap r a b c t u v) (hsmall : Builtin.Range.small a b c = true) (hm : Builtin.Range.rangeSize a b c = m) :
    wpAny (model B.prog B.w) A (pyIter (.ref r)) (fun it s₂ => KT B s s₂ ∧
      ∃ X wr fp St, Iter B n it ((rng a c m).map V.int) (fun _ => True) AnyT X wr fp St ∧ True ∧ (true = true → X = []) ∧ St ⟨H.hs, X ++ H.xs⟩ 0 s₂.heap ∧ ∀ b, b ∈ fp ∨ b ∈ X → s.heap.get? b = none) E s₁ := by
  refine wpAny_pyIter_range hr hsmall ⟨kp_trans k1 (kp_push ..), [], _, _, _, iter_range, trivial, fun _ => rfl, ?_, fun b hb => ?_⟩
  · show IsRangeIter _ _ _ _ _
    rw [hm]
    simpa using Heap.get?_push_size _ rfl
  · rcases hb with hb | hb
    · cases List.mem_singleton.mp hb; exact new_none k1 (Nat.le_refl _)
    · simp at hb

theorem kp_pushT (s : Shared) (o : Obj) (k : Nat) : KT B s { s with heap := s.heap.push o, toks := k } := ⟨_, _, rfl, .of fun _ _ e => Heap.get?_push_of_some _ e⟩

theorem pi_range1 {np pos : Pos} {e : Expr} {b : Int} (h1 : PE B n env ρ st e (.int b)) (hb : -(2 ^ 62) ≤ b ∧ b < 2 ^ 62)
    (hv : (B.mg "range").or (B.mb "range") = some (.type "range")) (hk : env.kindOf "range" = some .globalImplicit)
    (he : starEach [e] env = [(false, eval e env)] := by rfl) :
    PI B n env ρ st (.Call (.Name "range" np) [e] [] pos) ((rng 0 1 b.toNat).map V.int) (fun _ => True) AnyT true := fun A hA E s H S => by
  refine callT hA S hv hk (pes_cons h1 pes_nil he) (fun xs s₁ k1 r1 => ?_) (by decide) he (fun _ => rfl)
  cases r1 with
  | cons r1 r => cases r; cases r1; exact call_range_1 ⟨kp_trans k1 (kp_pushT ..), range_iter hA (kp_trans k1 (kp_pushT ..)) (Heap.get?_push_size _ rfl) (small_one (by omega) (by omega) hb.1 hb.2) (by rw [rangeSize_one]; simp)⟩
theorem pi_range2 {np pos : Pos} {e f : Expr} {a b : Int} (h1 : PE B n env ρ st e (.int a)) (h2 : PE B n env ρ st f (.int b)) (ha : -(2 ^ 62) ≤ a ∧ a < 2 ^ 62) (hb : -(2 ^ 62) ≤ b ∧ b < 2 ^ 62)
    (hv : (B.mg "range").or (B.mb "range") = some (.type "range")) (hk : env.kindOf "range" = some .globalImplicit)
    (he : starEach [e, f] env = [(false, eval e env), (false, eval f env)] := by rfl) (he' : starEach [f] env = [(false, eval f env)] := by rfl) :
    PI B n env ρ st (.Call (.Name "range" np) [e, f] [] pos) ((rng a 1 (b - a).toNat).map V.int) (fun _ => True) AnyT true := fun A hA E s H S => by
  refine callT hA S hv hk (pes_cons h1 (pes_cons h2 pes_nil he') (by rw [he, he'])) (fun xs s₁ k1 r1 => ?_) (by decide) (by rw [he, he']) (fun _ => by rw [he']; rfl)
  cases r1 with
  | cons r1 r => cases r with | cons r2 r => cases r; cases r1; cases r2; exact call_range_2 ⟨kp_trans k1 (kp_pushT ..), range_iter hA (kp_trans k1 (kp_pushT ..)) (Heap.get?_push_size _ rfl) (small_one ha.1 ha.2 hb.1 hb.2) (by rw [rangeSize_one])⟩

def zipV (l m : List V) : List V := List.zipWith (fun a b => V.tup [a, b]) l m

theorem iter_zip {z TI TO i1 i2 l1 l2 : Addr} {a1 a2 : V} {l m : List V} (D : ZipApart z TI TO i1 i2 l1 l2) : Iter B n (.ref z) (zipV l m) (fun st => lis st a1 = some l ∧ lis st a2 = some m) IsTupT [TO] [z, TO, i1, i2] [z, TO, i1, i2, TI]
    (fun H i h => IsZip h z TI TO .none ∧ IsPair h TI (.ref i1) (.ref i2) ∧ (∃ a b, IsPair h TO a b) ∧ h.IsListIter i1 l1 i ∧ h.IsListIter i2 l2 i ∧ Rep H h (.ref l1) a1 ∧ Rep H h (.ref l2) a2) where
  sub := fun b hb => by simp only [List.mem_cons] at hb ⊢; rcases hb with h | h | h | h | h <;> simp_all
  frame := fun H H' i h h' ⟨c1, c2, ⟨a, b, c3⟩, c4, c5, c6, c7⟩ dk hk => ⟨hk z (by simp) _ c1, hk TI (by simp) _ c2, ⟨a, b, hk TO (by simp) _ c3⟩, c4.at fun o e => hk i1 (by simp) o e, c5.at fun o e => hk i2 (by simp) o e, c6.ext dk, c7.ext dk⟩
  wrObj := fun H i h b ⟨c1, c2, ⟨x, y, c3⟩, ⟨o4, c4, _, d4⟩, ⟨o5, c5, _, d5⟩, c6, c7⟩ hb => by
    simp only [List.mem_cons, List.not_mem_nil, or_false] at hb
    rcases hb with rfl | rfl | rfl | rfl | rfl
    · exact ⟨_, c1, fun _ _ => ⟨⟨_, rfl⟩, fun ⟨vs, q, t, e1, e2⟩ => by cases e1; simp at e2⟩⟩
    · exact ⟨_, c3, fun _ hx => absurd (List.mem_singleton.mpr rfl) hx⟩
    · exact ⟨_, c4, fun _ _ => ⟨⟨_, d4⟩, fun ⟨vs, q, t, e1, e2⟩ => by rw [d4] at e1; cases e1; simp at e2⟩⟩
    · exact ⟨_, c5, fun _ _ => ⟨⟨_, d5⟩, fun ⟨vs, q, t, e1, e2⟩ => by rw [d5] at e1; cases e1; simp at e2⟩⟩
    · refine ⟨_, c2, fun hw hx => ?_⟩
      simp only [List.mem_cons, List.not_mem_nil, or_false] at hw
      rcases hw with e | e | e | e
      · exact absurd e D.TIz
      · exact absurd e D.TITO
      · exact absurd e D.TIi1
      · exact absurd e D.TIi2
  xObj := fun H i h b ⟨c1, c2, ⟨x, y, c3⟩, _⟩ hb => by
    cases List.mem_singleton.mp hb
    exact ⟨_, c3, _, _, rfl⟩
  item := fun A hA E s H st i v target Q hc htg S hX ⟨c1, c2, ⟨x, y, c3⟩, c4, c5, c6, c7⟩ hv hQ => by
    obtain ⟨ad1, vs1, m1, e, ho1, hr1⟩ := lis_at (B := B) S.sto c6 hc.1
    cases e
    obtain ⟨ad2, vs2, m2, e, ho2, hr2⟩ := lis_at (B := B) S.sto c7 hc.2
    cases e
    obtain ⟨es, k, p, rfl⟩ := htg
    have hv' : ∃ a b, l[i]? = some a ∧ m[i]? = some b ∧ v = .tup [a, b] := by
      rw [zipV, List.getElem?_zipWith] at hv
      cases hl : l[i]? with
      | none => rw [hl] at hv; simp at hv
      | some a =>
        cases hm : m[i]? with
        | none => rw [hl, hm] at hv; simp at hv
        | some b => rw [hl, hm] at hv; simp at hv; exact ⟨a, b, rfl, rfl, hv.symm⟩
    obtain ⟨a, b, hla, hmb, rfl⟩ := hv'
    obtain ⟨xa, hxa, ra⟩ := hr1.get hla
    obtain ⟨xb, hxb, rb⟩ := hr2.get hmb
    refine wpAny_pyNext_zip_item D c1 c2 c3 c4 c5 (isList_of ho1) (isList_of ho2) (by simpa using hxa) (by simpa using hxb) fun h' d1 d2 d3 d4 d5 d6 kp => ⟨_, rfl, ?_⟩
    refine wpAny_letOwnedTupleGo_zip d1 fun h'' g1 hs => ?_
    have kp2 : ∀ b o, b ∉ [z, TO, i1, i2] → s.heap.get? b = some o → h''.get? b = some o := fun b o hb e => by
      simp only [List.mem_cons, List.not_mem_nil, or_false, not_or] at hb
      exact hs.extBut b o hb.1 (kp b o hb.1 hb.2.1 hb.2.2.1 hb.2.2.2 e)
    have dk : DKeep H s.heap H h'' := ⟨⟨[], by simp⟩, fun _ h1 h2 => absurd h1 h2, fun b o hb hq e => kp2 b o (by
      simp only [List.mem_cons, List.not_mem_nil, or_false, not_or]
      refine ⟨?_, ?_, ?_, ?_⟩
      · rintro rfl; rw [c1] at e; cases e; obtain ⟨_, _, hq⟩ := hq; cases hq
      · rintro rfl; exact hb (hX _ (by simp))
      · rintro rfl; obtain ⟨o', ho', _, hd'⟩ := c4; rw [e] at ho'; cases ho'; obtain ⟨_, _, hq⟩ := hq; rw [hq] at hd'; cases hd'
      · rintro rfl; obtain ⟨o', ho', _, hd'⟩ := c5; rw [e] at ho'; cases ho'; obtain ⟨_, _, hq⟩ := hq; rw [hq] at hd'; cases hd') e⟩
    have hzs : s.heap.objs.size ≠ z := Nat.ne_of_gt (Heap.lt_size c1)
    refine hQ _ h'' s.toks ⟨g1, hs.extBut _ _ D.TIz (kp _ _ D.TIz D.TITO D.TIi1 D.TIi2 c2), ⟨_, _, hs.extBut _ _ D.TOz d2⟩, d3.extBut hs.extBut D.i1z, d4.extBut hs.extBut D.i2z, c6.ext dk, c7.ext dk⟩ kp2 ?_
    exact .tup (vs := #[xa, xb]) (n := 0) (notMem_size S.sto) (hs.extBut _ _ hzs d5) (.cons (ra.ext dk) (.cons (rb.ext dk) .nil))
  done := fun A hA E s H st Q hc S hX ⟨c1, c2, ⟨x, y, c3⟩, c4, c5, c6, c7⟩ hQ => by
    obtain ⟨ad1, vs1, m1, e, ho1, hr1⟩ := lis_at (B := B) S.sto c6 hc.1
    cases e
    obtain ⟨ad2, vs2, m2, e, ho2, hr2⟩ := lis_at (B := B) S.sto c7 hc.2
    cases e
    have e1 := hr1.size
    have e2 := hr2.size
    refine wpAny_pyNext_zip_end hA.hd D c1 c2 c3 c4 c5 (isList_of ho1) (isList_of ho2) ?_ fun h' kp => ⟨rfl, hQ h' s.toks fun b o hb e => ?_⟩
    · simp only [zipV, List.length_zipWith]
      rcases Nat.le_total l.length m.length with h | h
      · left; simp; omega
      · right; simp; omega
    · simp only [List.mem_cons, List.not_mem_nil, or_false, not_or] at hb
      exact kp b o hb.1 hb.2.1 hb.2.2.1 hb.2.2.2 e
  self := fun A hA E s H i Q ⟨c1, _⟩ hQ => wpAny_pyIter_zip c1 hQ

theorem pi_zip {np pos : Pos} {e f : Expr} {a b : V} {l m : List V} (h1 : PE B n env ρ st e a) (h2 : PE B n env ρ st f b) (hl : lis st a = some l) (hm : lis st b = some m)
    (hv : (B.mg "zip").or (B.mb "zip") = some (.type "zip")) (hk : env.kindOf "zip" = some .globalImplicit)
    (he : starEach [e, f] env = [(false, eval e env), (false, eval f env)] := by rfl) (he' : starEach [f] env = [(false, eval f env)] := by rfl) :
    PI B n env ρ st (.Call (.Name "zip" np) [e, f] [] pos) (zipV l m) (fun st => lis st a = some l ∧ lis st b = some m) IsTupT false := fun A hA E s H S => by
  refine callT hA S hv hk (pes_cons h1 (pes_cons h2 pes_nil he') (by rw [he, he'])) (fun xs s₁ k1 r1 => ?_) (by decide) (by rw [he, he']) (fun _ => by rw [he']; rfl)
  cases r1 with
  | cons r1 r =>
    cases r with
    | cons r2 r =>
      cases r
      have S1 := S.keeps (kp_get k1)
      obtain ⟨ad1, vs1, m1, rfl, ho1, hr1⟩ := lis_at (B := B) S1.sto r1 hl
      obtain ⟨ad2, vs2, m2, rfl, ho2, hr2⟩ := lis_at (B := B) S1.sto r2 hm
      have q1 := Nat.lt_of_lt_of_le (Heap.lt_size ho1) (Nat.le_refl _)
      have q2 := Nat.lt_of_lt_of_le (Heap.lt_size ho2) (Nat.le_refl _)
      refine call_zip_2 (isList_of ho1) (isList_of ho2) fun h' c1 c2 c3 c4 c5 c6 kp => ?_
      have k2 : KT B s₁ { s₁ with heap := h' } := kp_heap kp
      refine ⟨kp_trans k1 k2, wpAny_pyIter_zip c1 ⟨kp_trans k1 k2, [s₁.heap.objs.size + 3], _, _, _, iter_zip (z := s₁.heap.objs.size + 4) (TI := s₁.heap.objs.size + 2) (TO := s₁.heap.objs.size + 3) (i1 := s₁.heap.objs.size) (i2 := s₁.heap.objs.size + 1) (l1 := ad1) (l2 := ad2) (a1 := a) (a2 := b) ?_, ⟨hl, hm⟩, fun h => (nomatch h), ?_, fun b hb => ?_⟩⟩
      · constructor <;> first | exact Nat.ne_of_lt (by omega) | exact Nat.ne_of_gt (by omega)
      · have dk : DKeep H s₁.heap ⟨H.hs, [s₁.heap.objs.size + 3] ++ H.xs⟩ h' := ⟨⟨[], by simp⟩, fun a ha hn => by
          rcases ha with ha | ha
          · exact absurd (.inl ha) hn
          · rcases List.mem_cons.mp ha with e | ha
            · subst e
              cases e : s₁.heap.get? (s₁.heap.objs.size + 3) with
              | none => rfl
              | some o => exact absurd (Heap.lt_size e) (Nat.not_lt.mpr (by omega))
            · exact absurd (.inr ha) hn, fun b o _ _ e => kp b o e⟩
        exact ⟨c1, c2, ⟨_, _, c3⟩, c4, c5, r1.ext dk, r2.ext dk⟩
      · refine new_none k1 ?_
        simp only [List.mem_cons, List.not_mem_nil, or_false] at hb
        rcases hb with (rfl | rfl | rfl | rfl | rfl) | rfl <;> first | exact Nat.le_refl _ | exact Nat.le_add_right _ _
end
end Mine

-- part Gw7
namespace Mine

def nodupB : List Str → Bool
  | [] => true
  | x :: r => !r.contains x && nodupB r
def okScope (env : Env) (scope : Scope) : Bool :=
  scope.kind == .function && nodupB (scope.names.map (·.1)) && scope.names.all (fun x => x.2 != .free || env.kindOf x.1 == some .cell || env.kindOf x.1 == some .free)

theorem nodupB_iff : ∀ {l : List Str}, nodupB l = true → l.Nodup
  | [], _ => List.nodup_nil
  | x :: r, h => by
    simp only [nodupB, Bool.and_eq_true, Bool.not_eq_eq_eq_not, Bool.not_true] at h
    refine List.nodup_cons.mpr ⟨fun hm => ?_, nodupB_iff h.2⟩
    rw [List.contains_iff_mem.mpr hm] at h; cases h.1

/-- of distinct names the lookup finds each -/
theorem lookup_of_mem : ∀ {l : List (Str × NameKind)} {x : Str} {k : NameKind}, (l.map (·.1)).Nodup → (x, k) ∈ l → l.lookup x = some k
  | (y, j) :: r, x, k, hn, hm => by
    simp only [List.map_cons, List.nodup_cons] at hn
    rcases List.mem_cons.mp hm with e | hm
    · cases e; simp [List.lookup_cons]
    · have hne : x ≠ y := fun e => hn.1 (e ▸ List.mem_map.mpr ⟨(x, k), hm, rfl⟩)
      rw [List.lookup_cons, beq_false_of_ne hne]
      exact lookup_of_mem hn.2 hm

def closOf (env : Env) : List (Str × NameKind) → List (Str × Addr) → List (Str × Addr)
  | [], acc => acc
  | (n, k) :: r, acc => if k == .free then closOf env r ((n, (env.cells.lookup n).getD 0) :: acc) else closOf env r acc

theorem closureFor_eq {env : Env} {scope : Scope} (h : ∀ x ∈ scope.names, x.2 = .free → ∃ c, env.cells.lookup x.1 = some c) : closureFor scope env = pure (closOf env scope.names []) := by
  unfold closureFor
  have key : ∀ (l : List (Str × NameKind)) (acc : List (Str × Addr)), (∀ x ∈ l, x.2 = .free → ∃ c, env.cells.lookup x.1 = some c) →
      (forIn l acc (fun x r => if (x.2 == NameKind.free) = true then (do let a ← cellOf env x.1; pure (ForInStep.yield ((x.1, a) :: r))) else (do pure PUnit.unit; pure (ForInStep.yield r)) : Str × NameKind → List (Str × Addr) → Sem (ForInStep (List (Str × Addr))))) = pure (closOf env l acc) := by
    intro l
    induction l with
    | nil => intro acc _; rfl
    | cons x r ih =>
      intro acc hx
      obtain ⟨m, k⟩ := x
      rw [List.forIn_cons]
      by_cases hk : (k == NameKind.free) = true
      · have : k = .free := by simpa using hk
        subst this
        obtain ⟨c, hc⟩ := hx (m, .free) (by simp) rfl
        simp only [hk, if_true, closOf, hc, Option.getD_some]
        have : cellOf env m = pure c := by unfold cellOf; rw [hc]
        rw [this]
        show (forIn r ((m, c) :: acc) _ : Sem _) = _
        exact ih _ fun y hy => hx y (List.mem_cons_of_mem _ hy)
      · simp only [hk, closOf]
        exact ih _ fun y hy => hx y (List.mem_cons_of_mem _ hy)
  have := key scope.names [] h
  first
    | exact this
    | (simp only [bind_pure_comp] at this ⊢; simpa using this)
    | simpa using this

theorem closOf_app (env : Env) : ∀ (l : List (Str × NameKind)) (acc : List (Str × Addr)), closOf env l acc = closOf env l [] ++ acc
  | [], acc => rfl
  | (m, k) :: r, acc => by
    unfold closOf
    split
    · rw [closOf_app env r (_ :: acc), closOf_app env r [_], List.append_assoc]; rfl
    · exact closOf_app env r acc

theorem closOf_mem {env : Env} : ∀ {l : List (Str × NameKind)} {x : Str} {c : Addr}, (x, c) ∈ closOf env l [] → (x, NameKind.free) ∈ l ∧ c = (env.cells.lookup x).getD 0
  | (m, k) :: r, x, c, h => by
    unfold closOf at h
    split at h
    · rename_i hk
      have : k = .free := by simpa using hk
      subst this
      rw [closOf_app] at h
      rcases List.mem_append.mp h with h | h
      · exact ⟨List.mem_cons_of_mem _ (closOf_mem h).1, (closOf_mem h).2⟩
      · cases List.mem_singleton.mp h; exact ⟨List.mem_cons_self, rfl⟩
    · exact ⟨List.mem_cons_of_mem _ (closOf_mem h).1, (closOf_mem h).2⟩

theorem closOf_lookup {env : Env} : ∀ {l : List (Str × NameKind)} {x : Str}, (l.map (·.1)).Nodup → (x, NameKind.free) ∈ l → (closOf env l []).lookup x = some ((env.cells.lookup x).getD 0)
  | (m, k) :: r, x, hn, h => by
    simp only [List.map_cons, List.nodup_cons] at hn
    unfold closOf
    rcases List.mem_cons.mp h with e | h
    · obtain ⟨e1, e2⟩ := Prod.mk.inj e
      subst e1; subst e2
      simp only [beq_self_eq_true, if_true]
      rw [closOf_app, List.lookup_append]
      have : (closOf env r []).lookup x = none := by
        cases hq : (closOf env r []).lookup x with
        | none => rfl
        | some c => exact absurd (List.mem_map.mpr ⟨(x, .free), (closOf_mem (mem_of_lookup hq)).1, rfl⟩) hn.1
      rw [this]; simp [List.lookup_cons]
    · split
      · rw [closOf_app, List.lookup_append, closOf_lookup hn.2 h]; rfl
      · exact closOf_lookup hn.2 h

theorem cellsFrom_app : ∀ (m : Nat) (l : List (Str × NameKind)) (acc : List (Str × Addr)), cellsFrom m l acc = cellsFrom m l [] ++ acc
  | m, [], acc => rfl
  | m, (x, k) :: r, acc => by
    unfold cellsFrom
    split
    · rw [cellsFrom_app (m + 1) r (_ :: acc), cellsFrom_app (m + 1) r [_], List.append_assoc]; rfl
    · exact cellsFrom_app m r acc
theorem cellsFrom_mem : ∀ {m : Nat} {l : List (Str × NameKind)} {x : Str} {c : Addr}, (x, c) ∈ cellsFrom m l [] → (x, NameKind.cell) ∈ l
  | m, (y, k) :: r, x, c, h => by
    unfold cellsFrom at h
    split at h
    · rename_i hk
      have : k = .cell := by simpa using hk
      subst this
      rw [cellsFrom_app] at h
      rcases List.mem_append.mp h with h | h
      · exact List.mem_cons_of_mem _ (cellsFrom_mem h)
      · cases List.mem_singleton.mp h; exact List.mem_cons_self
    · exact List.mem_cons_of_mem _ (cellsFrom_mem h)
theorem cellsFrom_has : ∀ {m : Nat} {l : List (Str × NameKind)} {x : Str}, (x, NameKind.cell) ∈ l → ∃ c, (cellsFrom m l []).lookup x = some c
  | m, (y, k) :: r, x, h => by
    unfold cellsFrom
    rcases List.mem_cons.mp h with e | h
    · obtain ⟨e1, e2⟩ := Prod.mk.inj e
      subst e1; subst e2
      simp only [beq_self_eq_true, if_true]
      rw [cellsFrom_app, List.lookup_append]
      cases hq : (cellsFrom (m + 1) r []).lookup x with
      | none => exact ⟨m, by simp [List.lookup_cons]⟩
      | some c => exact ⟨c, rfl⟩
    · split
      · obtain ⟨c, hc⟩ := cellsFrom_has (m := m + 1) h
        rw [cellsFrom_app, List.lookup_append, hc]; exact ⟨c, rfl⟩
      · exact cellsFrom_has h

/-- the names that a comprehension sees of the frame around it -/
def restr (scope : Scope) (ρ : Str → Option V) : Str → Option V := fun x => if scope.names.lookup x = some .free then ρ x else none

/-- a comprehension's frame -/
def cEnv (scope : Scope) (C : Addr) (env : Env) : Env :=
  { scope := relabel scope env, locals := C, globals := env.globals, cells := cellsFrom (C + 1) scope.names (closOf env scope.names []), qual := env.qual, func := none, code := env.code, frame := env.frame, builtins := env.builtins }

theorem relabel_lookup {scope : Scope} {env : Env} : ∀ {x : Str} {k : NameKind}, (relabel scope env).names.lookup x = some k → k ≠ .cell → scope.names.lookup x = some k := by
  unfold relabel
  generalize scope.names = l
  intro x k
  induction l with
  | nil => intro h; simp at h
  | cons y r ih =>
    obtain ⟨m, j⟩ := y
    intro h hk
    by_cases hx : (x == m) = true
    · rw [List.map_cons, List.lookup_cons] at h
      rw [List.lookup_cons, hx]
      by_cases hc : (j == NameKind.free && env.scope.kind == .function && env.kindOf m == some .cell) = true
      · simp only [hc, if_true, hx] at h; cases h; exact absurd rfl hk
      · simp only [hc, Bool.false_eq_true, if_false, hx] at h; simpa using h
    · have hx' : (x == m) = false := by simpa using hx
      rw [List.lookup_cons, hx']
      refine ih ?_ hk
      rw [List.map_cons, List.lookup_cons] at h
      by_cases hc : (j == NameKind.free && env.scope.kind == .function && env.kindOf m == some .cell) = true
      · simp only [hc, if_true, hx'] at h; exact h
      · simp only [hc, Bool.false_eq_true, if_false, hx'] at h; exact h
theorem relabel_cell {scope : Scope} {env : Env} : ∀ {x : Str}, (relabel scope env).names.lookup x = some .cell → scope.names.lookup x = some .cell ∨ scope.names.lookup x = some .free := by
  unfold relabel
  generalize scope.names = l
  intro x
  induction l with
  | nil => intro h; simp at h
  | cons y r ih =>
    obtain ⟨m, j⟩ := y
    intro h
    by_cases hx : (x == m) = true
    · rw [List.map_cons, List.lookup_cons] at h
      simp only [List.lookup_cons, hx]
      by_cases hc : (j == NameKind.free && env.scope.kind == .function && env.kindOf m == some .cell) = true
      · simp only [Bool.and_eq_true, beq_iff_eq] at hc
        right; rw [hc.1.1]
      · simp only [hc, Bool.false_eq_true, if_false, hx] at h; left; simpa using h
    · have hx' : (x == m) = false := by simpa using hx
      simp only [List.lookup_cons, hx']
      refine ih ?_
      rw [List.map_cons, List.lookup_cons] at h
      by_cases hc : (j == NameKind.free && env.scope.kind == .function && env.kindOf m == some .cell) = true
      · simp only [hc, if_true, hx'] at h; exact h
      · simp only [hc, Bool.false_eq_true, if_false, hx'] at h; exact h

theorem mem_of_lookupK : ∀ {l : List (Str × NameKind)} {x : Str} {k : NameKind}, l.lookup x = some k → (x, k) ∈ l := fun h => mem_of_lookup h

theorem okScope_facts {env : Env} {scope : Scope} (h : okScope env scope = true) : scope.kind = .function ∧ (scope.names.map (·.1)).Nodup ∧ ∀ x, (x, NameKind.free) ∈ scope.names → env.kindOf x = some .cell ∨ env.kindOf x = some .free := by
  simp only [okScope, Bool.and_eq_true, beq_iff_eq, List.all_eq_true] at h
  refine ⟨h.1.1, nodupB_iff h.1.2, fun x hx => ?_⟩
  have := h.2 _ hx
  simpa using this

theorem env_comp {env : Env} {scope : Scope} {ρ : Str → Option V} {H : Hd} {h h' : Heap} {C : Addr} (E : EnvRep env ρ H h) (ok : okScope env scope = true) (hk : ∀ b o, h.get? b = some o → h'.get? b = some o) (hC : h.objs.size ≤ C)
    (hn : h'.Ns C (fun _ => none)) (hcs : CellsOk h' (C + 1) (cellsFrom (C + 1) scope.names [])) : EnvRep (cEnv scope C env) (restr scope ρ) H h' := by
  obtain ⟨f1, f2, f3⟩ := okScope_facts ok
  have E' := E.full hk
  have clo : ∀ x c, (x, c) ∈ closOf env scope.names [] → env.cells.lookup x = some c ∧ ∃ v, h.IsCell c v := fun x c hm => by
    obtain ⟨h1, h2⟩ := closOf_mem hm
    obtain ⟨c', hc'⟩ := E.has x (f3 x h1)
    rw [hc'] at h2
    have : c = c' := h2
    subst this
    exact ⟨hc', E.cells x c (mem_of_lookup hc')⟩
  have loo : ∀ x, scope.names.lookup x = some .free → (cEnv scope C env).cells.lookup x = env.cells.lookup x := fun x hx => by
    show (cellsFrom (C + 1) scope.names (closOf env scope.names [])).lookup x = _
    rw [cellsFrom_app, List.lookup_append]
    have h1 : (cellsFrom (C + 1) scope.names []).lookup x = none := by
      cases hq : (cellsFrom (C + 1) scope.names []).lookup x with
      | none => rfl
      | some c =>
        have := lookup_of_mem f2 (cellsFrom_mem (mem_of_lookup hq))
        rw [hx] at this; cases this
    rw [h1, closOf_lookup f2 (mem_of_lookup hx)]
    obtain ⟨c', hc'⟩ := E.has x (f3 x (mem_of_lookup hx))
    rw [hc']; rfl
  refine ⟨by simp [cEnv, relabel, f1], E.gl, E.bi, ⟨_, hn, fun x v hx hv => ?_⟩, fun x v hx hv => ?_, fun x c hm => ?_, fun x hx => ?_, ?_⟩
  · have : scope.names.lookup x = some .local := relabel_lookup hx (by simp)
    simp [restr, this] at hv
  · have hf : scope.names.lookup x = some .free := by
      unfold restr at hv
      split at hv
      · assumption
      · cases hv
    simp only [restr, hf, if_true] at hv
    obtain ⟨c, y, h1, h2, h3⟩ := E'.cell x v (f3 x (mem_of_lookup hf)) hv
    exact ⟨c, y, (loo x hf).trans h1, h2, h3⟩
  · have hm : (x, c) ∈ cellsFrom (C + 1) scope.names (closOf env scope.names []) := hm
    rw [cellsFrom_app] at hm
    rcases List.mem_append.mp hm with hm | hm
    · exact ⟨_, (hcs.empty x c hm).1⟩
    · obtain ⟨_, v, hv⟩ := clo x c hm
      exact ⟨v, hv.keeps hk⟩
  · have hx' : scope.names.lookup x = some .cell ∨ scope.names.lookup x = some .free := by
      rcases hx with hx | hx
      · exact relabel_cell hx
      · exact .inr (relabel_lookup hx (by simp))
    rcases hx' with hx' | hx'
    · obtain ⟨c, hc⟩ := cellsFrom_has (m := C + 1) (mem_of_lookup hx')
      refine ⟨c, ?_⟩
      show (cellsFrom (C + 1) scope.names (closOf env scope.names [])).lookup x = _
      rw [cellsFrom_app, List.lookup_append, hc]; rfl
    · obtain ⟨c, hc⟩ := E.has x (f3 x (mem_of_lookup hx'))
      exact ⟨c, (loo x hx').trans hc⟩
  · show (cellsFrom (C + 1) scope.names (closOf env scope.names [])).Pairwise _
    rw [cellsFrom_app]
    refine List.pairwise_append.mpr ⟨hcs.apart, ?_, fun x hx y hy e => ?_⟩
    · have : ∀ (l : List (Str × NameKind)) (acc : List (Str × Addr)), (l.map (·.1)).Nodup → (∀ x ∈ l, x ∈ scope.names) → acc.Pairwise (fun x y => x.2 ≠ y.2) → (∀ p ∈ acc, p.1 ∉ l.map (·.1) ∧ env.cells.lookup p.1 = some p.2) → (closOf env l acc).Pairwise (fun x y => x.2 ≠ y.2) := by
        intro l
        induction l with
        | nil => intro acc _ _ hp _; exact hp
        | cons y r ih =>
          obtain ⟨m, k⟩ := y
          intro acc hn hs hp ha
          simp only [List.map_cons, List.nodup_cons] at hn
          unfold closOf
          split
          · rename_i hk'
            have : k = .free := by simpa using hk'
            subst this
            obtain ⟨c, hc⟩ := E.has m (f3 m (hs _ List.mem_cons_self))
            rw [hc]
            refine ih _ hn.2 (fun z hz => hs z (List.mem_cons_of_mem _ hz)) (List.pairwise_cons.mpr ⟨fun z hz e => ?_, hp⟩) fun p hp' => ?_
            · obtain ⟨z1, z2⟩ := ha z hz
              have e' : c = z.2 := e
              have := name_of_addr E.apart (mem_of_lookup hc) (e' ▸ mem_of_lookup z2)
              exact z1 (by rw [← this]; simp)
            · rcases List.mem_cons.mp hp' with rfl | hp'
              · exact ⟨hn.1, hc⟩
              · exact ⟨fun hm => (ha p hp').1 (by simp [hm]), (ha p hp').2⟩
          · exact ih acc hn.2 (fun z hz => hs z (List.mem_cons_of_mem _ hz)) hp fun p hp' => ⟨fun hm => (ha p hp').1 (by simp [hm]), (ha p hp').2⟩
      exact this scope.names [] f2 (fun x hx => hx) List.Pairwise.nil fun p hp => (nomatch hp)
    · obtain ⟨_, h1⟩ := hcs.empty x.1 x.2 hx
      obtain ⟨_, v, hv⟩ := clo y.1 y.2 hy
      have := hv.lt
      exact absurd (Nat.lt_of_lt_of_le this hC) (Nat.not_lt.mpr (Nat.le_trans (Nat.le_succ C) (e ▸ h1)))
end Mine

-- part Gw8
namespace Mine

theorem turn_b (elt t0 i0 t1 i1 : Expr) (f0 f1 : List Expr) (scope : Scope) (pos : Pos) (it acc : Value) (env : Env) :
    compTurn (.ListComp elt [⟨t0, i0, f0, 0⟩, ⟨t1, i1, f1, 0⟩] scope pos) 1 it acc env = (do
      standAt i1.pos
      match ← pyNext it with
      | none => pure (.done .next)
      | some v =>
        letOwnedTupleGo t1 it v
        assign t1 env v
        let mut ok := true
        for c in f1 do
          if ok then ok ← isTrue c env (eval c env)
        if ok then
          (do let _ ← call (.builtin "list.append") [acc, ← eval elt env])
        again (.compLoop (.ListComp elt [⟨t0, i0, f0, 0⟩, ⟨t1, i1, f1, 0⟩] scope pos) 1 it acc env)) := by rfl

theorem turn_c (elt t0 i0 t1 i1 : Expr) (f0 f1 : List Expr) (scope : Scope) (pos : Pos) (it acc : Value) (env : Env) :
    compTurn (.ListComp elt [⟨t0, i0, f0, 0⟩, ⟨t1, i1, f1, 0⟩] scope pos) 0 it acc env = (do
      standAt i0.pos
      match ← pyNext it with
      | none => pure (.done .next)
      | some v =>
        letOwnedTupleGo t0 it v
        assign t0 env v
        let mut ok := true
        for c in f0 do
          if ok then ok ← isTrue c env (eval c env)
        if ok then
          let x ← eval i1 env
          standAt i1.pos
          let x ← foldedSetIterable i1 env x
          let _ ← runOwn (.compStart (.ListComp elt [⟨t0, i0, f0, 0⟩, ⟨t1, i1, f1, 0⟩] scope pos) 1 (← holding [x] (pyIter x)) acc env) env
        again (.compLoop (.ListComp elt [⟨t0, i0, f0, 0⟩, ⟨t1, i1, f1, 0⟩] scope pos) 0 it acc env)) := by rfl

/-- the list that grows -/
def AccAt (D : Addr) (ys : List V) (H : Hd) (h : Heap) : Prop := ∃ vs n, h.get? D = some (lisObj vs n) ∧ RepAll H h vs.toList ys

/-- the tests of a comprehension's clause -/
def PTs (B : Bs) (n : Nat) (env : Env) (ρ : Str → Option V) (st : Store) (ifs : List Expr) (b : Bool) : Prop :=
  ∀ A, Rm n A → ∀ E s H, Sim B env ρ st H s.heap →
    wpAny (model B.prog B.w) A (forIn ifs true fun c r => if r = true then do let ok ← isTrue c env (eval c env); pure (ForInStep.yield ok) else pure (ForInStep.yield r)) (fun x s' => x = b ∧ KT B s s') E s

/-- what a turn does behind the assignment of its target: it puts `out` onto the list D -/
def CBody (B : Bs) (n : Nat) (cenv : Env) (xs : List Str) (D : Addr) (st : Store) (ρ ρ₀ : Str → Option V) (t : Sem Unit) (out : List V) : Prop :=
  ∀ A, Rm n A → Own B cenv xs → ∀ E s H ys, D ∈ H.xs → ¬ wrt cenv xs D → Sim B cenv ρ st H s.heap → AccAt D ys H s.heap → ys.length + out.length ≤ sizeLine →
    wpAny (model B.prog B.w) A t (fun _ s' => ∃ h' tk, s' = { s with heap := h', toks := tk } ∧ Sim B cenv ρ₀ st H h' ∧ AccAt D (ys ++ out) H h' ∧ ∀ b o, b ≠ D → ¬ wrt cenv xs b → s.heap.get? b = some o → h'.get? b = some o) E s

theorem EnvRep.weaken {env : Env} {ρ ρ₀ : Str → Option V} {H : Hd} {h : Heap} (x : EnvRep env ρ H h) (hw : ∀ y v, ρ₀ y = some v → ρ y = some v) : EnvRep env ρ₀ H h :=
  ⟨x.kind, x.gl, x.bi, let ⟨m, hm, hr⟩ := x.loc; ⟨m, hm, fun y v hy hv => hr y v hy (hw y v hv)⟩, fun y v hy hv => x.cell y v hy (hw y v hv), x.cells, x.has, x.apart⟩
theorem Sim.weaken {B : Bs} {env : Env} {ρ ρ₀ : Str → Option V} {st : Store} {H : Hd} {h : Heap} (x : Sim B env ρ st H h) (hw : ∀ y v, ρ₀ y = some v → ρ y = some v) : Sim B env ρ₀ st H h := ⟨x.base, x.sto, x.en.weaken hw⟩

/-- only non-sequences and opaque things were written -/
theorem sim_wr {B : Bs} {env : Env} {ρ : Str → Option V} {st : Store} {H : Hd} {h h' : Heap} {X wr : List Addr} (S : Sim B env ρ st H h) (hX : ∀ a ∈ X, a ∈ H.xs ∧ a ∉ H.hs)
    (hwr : ∀ b ∈ wr, b ∉ X → ∃ o fs, h.get? b = some o ∧ o.data = .fields fs ∧ ¬ CodeO o) (hXl : ∀ b ∈ X, (∃ o, h.get? b = some o ∧ IsSeq o) ∧ ∃ o, h'.get? b = some o ∧ IsSeq o) (hnew : ∀ b ∈ wr, B.free b)
    (kp : ∀ b o, b ∉ wr → h.get? b = some o → h'.get? b = some o) : Sim B env ρ st H h' ∧ DKeep H h H h' := by
  have noF : ∀ b o, h.get? b = some o → b ∉ X → (∀ fs, o.data ≠ .fields fs) → b ∉ wr := fun b o ho hb hn hw => by
    obtain ⟨o', fs, ho', hd, _⟩ := hwr b hw hb
    rw [ho] at ho'; cases ho'; exact hn fs hd
  have noC : ∀ b o, b ∈ wr → h.get? b = some o → ¬ CodeO o := fun b o hw e => by
    by_cases hx : b ∈ X
    · obtain ⟨⟨o', ho', hs'⟩, _⟩ := hXl b hx; rw [e] at ho'; cases ho'; exact seq_notCode hs'
    · obtain ⟨o', fs, ho', _, hc⟩ := hwr b hw hx
      rw [e] at ho'; cases ho'; exact hc
  have seqNF : ∀ {o : Obj}, IsSeq o → ∀ fs, o.data ≠ .fields fs := fun ⟨_, _, e⟩ fs e' => by rw [e] at e'; cases e'
  have dk : DKeep H h H h' := ⟨⟨[], by simp⟩, fun _ h1 h2 => absurd h1 h2, fun b o hb hq e => kp b o (noF b o e (fun hx => hb (.inr (hX b hx).1)) (seqNF hq)) e⟩
  have notX : ∀ {b : Addr} {o : Obj}, h.get? b = some o → ¬ IsSeq o → b ∉ X := fun ho hn hx => by
    obtain ⟨⟨o', ho', hs'⟩, _⟩ := hXl _ hx
    rw [ho] at ho'; cases ho'; exact hn hs'
  have kc : ∀ {c : Addr} {v : Option Value}, h.IsCell c v → h'.IsCell c v := fun ⟨o, ho, hd⟩ => ⟨o, kp _ o (noF _ o ho (notX ho (by rintro ⟨_, _, e⟩; rw [hd] at e; cases e)) (by intro fs e; rw [hd] at e; cases e)) ho, hd⟩
  refine ⟨⟨base_ne S.base (W := (· ∈ wr)) kp hnew noC, ⟨S.sto.len, S.sto.nd, fun k a l ha hl => ?_, fun a ha => ?_, S.sto.dj⟩, S.en.kind, S.en.gl, S.en.bi, ?_, fun y v hy hv => ?_, fun y c hc => ?_, S.en.has, S.en.apart⟩, dk⟩
  · obtain ⟨vs, m, ho, hr⟩ := S.sto.at_ k a l ha hl
    exact ⟨vs, m, kp a _ (noF a _ ho (fun hx => (hX a hx).2 (List.mem_of_getElem? ha)) (seqNF (isSeq_lis ..))) ho, hr.ext dk⟩
  · obtain ⟨o, ho, hs⟩ := S.sto.live a ha
    by_cases hx : a ∈ X
    · exact (hXl a hx).2
    · exact ⟨o, kp a o (noF a o ho hx (seqNF hs)) ho, hs⟩
  · obtain ⟨m, hm, hr⟩ := S.en.loc
    refine ⟨m, hm.at' fun o e => kp _ o ?_ e, fun y v hy hv => let ⟨z, hz, r⟩ := hr y v hy hv; ⟨z, hz, r.ext dk⟩⟩
    obtain ⟨o', es, ep, ho', hd, _⟩ := hm
    rw [e] at ho'; cases ho'
    exact noF _ o e (notX e (by rintro ⟨_, _, e⟩; rw [hd] at e; cases e)) (by intro fs e; rw [hd] at e; cases e)
  · obtain ⟨c, z, h1, h2, h3⟩ := S.en.cell y v hy hv
    exact ⟨c, z, h1, kc h2, h3.ext dk⟩
  · obtain ⟨v, hv⟩ := S.en.cells y c hc
    exact ⟨v, kc hv⟩

-- fewer opaque things
mutual
theorem Rep.less {H H' : Hd} {h : Heap} (e : H'.hs = H.hs) (hx : ∀ a ∈ H'.xs, a ∈ H.xs) : ∀ {y : Value} {v : V}, Rep H h y v → Rep H' h y v
  | _, _, .none => .none
  | _, _, .bool b => .bool b
  | _, _, .int i t => .int i t
  | _, _, .str s t => .str s t
  | _, _, .tup ha ho hr => .tup (fun hm => ha (hm.elim (fun h => .inl (e ▸ h)) fun h => .inr (hx _ h))) ho (RepAll.less e hx hr)
  | _, _, .lst ha ho hr => .lst (fun hm => ha (hm.elim (fun h => .inl (e ▸ h)) fun h => .inr (hx _ h))) ho (RepAll.less e hx hr)
  | _, _, .ref hk => .ref (e ▸ hk)
  | _, _, .val y => .val y
theorem RepAll.less {H H' : Hd} {h : Heap} (e : H'.hs = H.hs) (hx : ∀ a ∈ H'.xs, a ∈ H.xs) : ∀ {ys : List Value} {vs : List V}, RepAll H h ys vs → RepAll H' h ys vs
  | _, _, .nil => .nil
  | _, _, .cons hy hr => .cons (Rep.less e hx hy) (RepAll.less e hx hr)
end

theorem Rep.dropX {H : Hd} {X : List Addr} {h : Heap} {y : Value} {v : V} (r : Rep ⟨H.hs, X ++ H.xs⟩ h y v) : Rep H h y v := Rep.less (H := ⟨H.hs, X ++ H.xs⟩) (H' := H) rfl (fun _ ha => List.mem_append_right _ ha) r
theorem RepAll.dropX {H : Hd} {X : List Addr} {h : Heap} {y : List Value} {v : List V} (r : RepAll ⟨H.hs, X ++ H.xs⟩ h y v) : RepAll H h y v := RepAll.less (H := ⟨H.hs, X ++ H.xs⟩) (H' := H) rfl (fun _ ha => List.mem_append_right _ ha) r

/-- as sim_wr, the opaque things are dropped -/
theorem sim_wr0 {B : Bs} {env : Env} {ρ : Str → Option V} {st : Store} {H : Hd} {h h' : Heap} {X wr : List Addr} (S : Sim B env ρ st ⟨H.hs, X ++ H.xs⟩ h) (hX : ∀ a ∈ X, ¬ H.has a)
    (hwr : ∀ b ∈ wr, b ∉ X → ∃ o fs, h.get? b = some o ∧ o.data = .fields fs ∧ ¬ CodeO o) (hnew : ∀ b ∈ wr, B.free b)
    (kp : ∀ b o, b ∉ wr → h.get? b = some o → h'.get? b = some o) : Sim B env ρ st H h' ∧ DKeep ⟨H.hs, X ++ H.xs⟩ h ⟨H.hs, X ++ H.xs⟩ h' := by
  have noF : ∀ b o, h.get? b = some o → b ∉ X → (∀ fs, o.data ≠ .fields fs) → b ∉ wr := fun b o ho hb hn hw => by
    obtain ⟨o', fs, ho', hd, _⟩ := hwr b hw hb
    rw [ho] at ho'; cases ho'; exact hn fs hd
  have noC : ∀ b o, b ∈ wr → h.get? b = some o → ¬ CodeO o := fun b o hw e => by
    by_cases hx : b ∈ X
    · obtain ⟨o', ho', hs'⟩ := S.sto.live _ (.inr (List.mem_append_left _ hx)); rw [e] at ho'; cases ho'; exact seq_notCode hs'
    · obtain ⟨o', fs, ho', _, hc⟩ := hwr b hw hx
      rw [e] at ho'; cases ho'; exact hc
  have seqNF : ∀ {o : Obj}, IsSeq o → ∀ fs, o.data ≠ .fields fs := fun ⟨_, _, e⟩ fs e' => by rw [e] at e'; cases e'
  have dk : DKeep ⟨H.hs, X ++ H.xs⟩ h ⟨H.hs, X ++ H.xs⟩ h' := ⟨⟨[], by simp⟩, fun _ h1 h2 => absurd h1 h2, fun b o hb hq e => kp b o (noF b o e (fun hx => hb (.inr (List.mem_append_left _ hx))) (seqNF hq)) e⟩
  have le : ∀ a ∈ H.xs, a ∈ X ++ H.xs := fun a ha => List.mem_append_right _ ha
  have notX : ∀ {b : Addr} {o : Obj}, h.get? b = some o → ¬ IsSeq o → b ∉ X := fun ho hn hx => by
    obtain ⟨o', ho', hs'⟩ := S.sto.live _ (.inr (List.mem_append_left _ hx))
    rw [ho] at ho'; cases ho'; exact hn hs'
  have kc : ∀ {c : Addr} {v : Option Value}, h.IsCell c v → h'.IsCell c v := fun ⟨o, ho, hd⟩ => ⟨o, kp _ o (noF _ o ho (notX ho (by rintro ⟨_, _, e⟩; rw [hd] at e; cases e)) (by intro fs e; rw [hd] at e; cases e)) ho, hd⟩
  refine ⟨⟨⟨fun b o e => kp b o (fun hw => (hnew b hw).no e) (S.base.keep b o e), fun a ha => S.base.new a (ha.elim .inl fun h => .inr (le a h)), tabs_ne S.base.tab (W := (· ∈ wr)) kp (fun b hb => (hnew b hb).2) noC⟩, ⟨S.sto.len, S.sto.nd, fun k a l ha hl => ?_, fun a ha => ?_, fun a ha => S.sto.dj a (le a ha)⟩, S.en.kind, S.en.gl, S.en.bi, ?_, fun y v hy hv => ?_, fun y c hc => ?_, S.en.has, S.en.apart⟩, dk⟩
  · obtain ⟨vs, m, ho, hr⟩ := S.sto.at_ k a l ha hl
    exact ⟨vs, m, kp a _ (noF a _ ho (fun hx => hX a hx (.inl (List.mem_of_getElem? ha))) (seqNF (isSeq_lis ..))) ho, (hr.ext dk).dropX⟩
  · obtain ⟨o, ho, hs⟩ := S.sto.live a (ha.elim .inl fun h => .inr (le a h))
    exact ⟨o, kp a o (noF a o ho (fun hx => hX a hx ha) (seqNF hs)) ho, hs⟩
  · obtain ⟨m, hm, hr⟩ := S.en.loc
    refine ⟨m, hm.at' fun o e => kp _ o ?_ e, fun y v hy hv => let ⟨z, hz, r⟩ := hr y v hy hv; ⟨z, hz, (r.ext dk).dropX⟩⟩
    obtain ⟨o', es, ep, ho', hd, _⟩ := hm
    rw [e] at ho'; cases ho'
    exact noF _ o e (notX e (by rintro ⟨_, _, e⟩; rw [hd] at e; cases e)) (by intro fs e; rw [hd] at e; cases e)
  · obtain ⟨c, z, h1, h2, h3⟩ := S.en.cell y v hy hv
    exact ⟨c, z, h1, kc h2, (h3.ext dk).dropX⟩
  · obtain ⟨v, hv⟩ := S.en.cells y c hc
    exact ⟨v, kc hv⟩

/-- more opaque things -/
theorem sim_more {B : Bs} {st : Store} {H : Hd} {h h' : Heap} {Y : List Addr} (S : SB B st H h) (kp : KH B h h') (hnew : ∀ a ∈ Y, h.get? a = none) (hlive : ∀ a ∈ Y, ∃ o, h'.get? a = some o ∧ IsSeq o) :
    SB B st ⟨H.hs, Y ++ H.xs⟩ h' ∧ DKeep H h ⟨H.hs, Y ++ H.xs⟩ h' := by
  have dk : DKeep H h ⟨H.hs, Y ++ H.xs⟩ h' := ⟨⟨[], by simp⟩, fun a ha hn => by
    rcases ha with ha | ha
    · exact absurd (.inl ha) hn
    · rcases List.mem_append.mp ha with ha | ha
      · exact hnew a ha
      · exact absurd (.inr ha) hn, fun b o _ hs e => kp.seq hs e⟩
  refine ⟨⟨⟨fun b o e => kp.keep b o (ex_h0 e) (S.base.keep b o e), fun a ha => ?_, kp.tab S.base.tab⟩, S.sto.len, S.sto.nd, fun k a l ha hl => ?_, fun a ha => ?_, fun a ha => ?_⟩, dk⟩
  · rcases ha with ha | ha
    · exact S.base.new a (.inl ha)
    · rcases List.mem_append.mp ha with ha | ha
      · exact S.base.free (hnew a ha)
      · exact S.base.new a (.inr ha)
  · obtain ⟨vs, m, ho, hr⟩ := S.sto.at_ k a l ha hl
    exact ⟨vs, m, kp.seq (isSeq_lis ..) ho, hr.ext dk⟩
  · rcases ha with ha | ha
    · obtain ⟨o, ho, hs⟩ := S.sto.live a (.inl ha); exact ⟨o, kp.seq hs ho, hs⟩
    · rcases List.mem_append.mp ha with ha | ha
      · exact hlive a ha
      · obtain ⟨o, ho, hs⟩ := S.sto.live a (.inr ha); exact ⟨o, kp.seq hs ho, hs⟩
  · rcases List.mem_append.mp ha with ha | ha
    · intro hm
      obtain ⟨o, ho, _⟩ := S.sto.live a (.inl hm)
      rw [hnew a ha] at ho; cases ho
    · exact S.sto.dj a ha
theorem EnvRep.ext {B : Bs} {env : Env} {ρ : Str → Option V} {H H' : Hd} {h h' : Heap} (x : EnvRep env ρ H h) (kp : KH B h h') (dk : DKeep H h H' h') : EnvRep env ρ H' h' :=
  ⟨x.kind, x.gl, x.bi, let ⟨m, hm, hr⟩ := x.loc; ⟨m, kp.ns hm, fun n v hn hv => let ⟨y, hy, r⟩ := hr n v hn hv; ⟨y, hy, r.ext dk⟩⟩,
    fun n v hn hv => let ⟨c, y, h1, h2, h3⟩ := x.cell n v hn hv; ⟨c, y, h1, kp.cell h2, h3.ext dk⟩, fun n c hn => let ⟨v, h2⟩ := x.cells n c hn; ⟨v, kp.cell h2⟩, x.has, x.apart⟩

theorem upd_lis {h : Heap} {l : Addr} {vs : Array Value} {n : Nat} (ho : h.get? l = some (lisObj vs n)) (f : Array Value → Array Value) : ∃ n', (h.update l (Obj.mapSeq f)).get? l = some (lisObj (f vs) n') :=
  ⟨_, Heap.get?_update_self _ ho rfl⟩

theorem wpAny_append_lis {prog : Program} {w : World} {A : Around} {E : Value → Shared → Prop} {s : Shared} {l : Addr} {items : Array Value} {n : Nat} {x : Value} {Q : Value → Shared → Prop} (ho : s.heap.get? l = some (lisObj items n)) (hsz : items.size ≤ sizeLine)
    (hQ : ∀ h' n', h'.get? l = some (lisObj (items.push x) n') → Heap.SameBut l s.heap h' → Q .none { s with heap := h' }) :
    wpAny (model prog w) A (call (.builtin "list.append") [.ref l, x]) Q E s := by
  refine wpAny_call_entry slot_list_append (isList_of ho).typeIs entry_list_append ?_ (args_list_append _ _)
  show wpAny _ _ (updateSeq l (·.push x) >>= fun _ => ret .none) _ _ s
  refine wpAny_bind ?_
  obtain ⟨n', hn'⟩ := upd_lis ho (·.push x)
  exact wpAny_updateSeq ho rfl (wpAny_pure ⟨.none, rfl, hQ _ n' hn' (Heap.SameBut.update ..)⟩)

/-- an opaque list was changed -/
theorem sim_acc {B : Bs} {env : Env} {ρ : Str → Option V} {st : Store} {H : Hd} {h h' : Heap} {D : Addr} {vs ws : Array Value} {n m : Nat} (S : Sim B env ρ st H h) (hD : D ∈ H.xs) (ho : h.get? D = some (lisObj vs n)) (ho' : h'.get? D = some (lisObj ws m))
    (kp : ∀ b o, b ≠ D → h.get? b = some o → h'.get? b = some o) : Sim B env ρ st H h' := by
  have dk : DKeep H h H h' := ⟨⟨[], by simp⟩, fun _ h1 h2 => absurd h1 h2, fun b o hb hq e => kp b o (fun e' => hb (e' ▸ .inr hD)) e⟩
  have ne : ∀ {b : Addr} {o : Obj}, h.get? b = some o → ¬ IsSeq o → b ≠ D := fun hb hn e => by subst e; rw [ho] at hb; cases hb; exact hn (isSeq_lis ..)
  have kc : ∀ {c : Addr} {v : Option Value}, h.IsCell c v → h'.IsCell c v := fun ⟨o, ho, hd⟩ => ⟨o, kp _ o (ne ho (by rintro ⟨_, _, e⟩; rw [hd] at e; cases e)) ho, hd⟩
  refine ⟨base_ne S.base (W := (· = D)) (fun b o hb e => kp b o hb e) (fun b hb => hb ▸ S.base.new _ (.inr hD)) (fun b o hb e => by subst hb; rw [ho] at e; cases e; exact seq_notCode (isSeq_lis ..)), ⟨S.sto.len, S.sto.nd, fun k a l ha hl => ?_, fun a ha => ?_, S.sto.dj⟩, S.en.kind, S.en.gl, S.en.bi, ?_, fun y v hy hv => ?_, fun y c hc => ?_, S.en.has, S.en.apart⟩
  · obtain ⟨us, q, ho, hr⟩ := S.sto.at_ k a l ha hl
    exact ⟨us, q, kp a _ (fun e => S.sto.dj _ hD (e ▸ List.mem_of_getElem? ha)) ho, hr.ext dk⟩
  · by_cases e : a = D
    · subst e; exact ⟨_, ho', isSeq_lis ..⟩
    · obtain ⟨o, ho, hs⟩ := S.sto.live a ha; exact ⟨o, kp a o e ho, hs⟩
  · obtain ⟨q, hm, hr⟩ := S.en.loc
    refine ⟨q, hm.at' fun o e => kp _ o ?_ e, fun y v hy hv => let ⟨z, hz, r⟩ := hr y v hy hv; ⟨z, hz, r.ext dk⟩⟩
    obtain ⟨o', es, ep, ho', hd, _⟩ := hm
    rw [e] at ho'; cases ho'
    exact ne e (by rintro ⟨_, _, e⟩; rw [hd] at e; cases e)
  · obtain ⟨c, z, h1, h2, h3⟩ := S.en.cell y v hy hv
    exact ⟨c, z, h1, kc h2, h3.ext dk⟩
  · obtain ⟨v, hv⟩ := S.en.cells y c hc
    exact ⟨v, kc hv⟩

theorem new_comp {prog : Program} {w : World} {A : Around} {E : Value → Shared → Prop} {s : Shared} {scope : Scope} {env : Env} {cl : List (Str × Addr)} {Q : Env → Shared → Prop}
    (hQ : ∀ h', h'.Ns s.heap.objs.size (fun _ => none) → CellsOk h' (s.heap.objs.size + 1) (cellsFrom (s.heap.objs.size + 1) scope.names []) → (∀ b o, s.heap.get? b = some o → h'.get? b = some o) →
      Q { scope, locals := s.heap.objs.size, globals := env.globals, cells := cellsFrom (s.heap.objs.size + 1) scope.names cl, qual := env.qual, func := none, code := env.code, frame := env.frame, builtins := env.builtins } { s with heap := h' }) :
    wpAny (model prog w) A (newFunctionEnv scope env.globals cl [] env.qual none .none (some env)) Q E s := by
  simp only [newFunctionEnv, Option.isSome_some, if_true]
  refine wpAny_bind (wpAny_alloc ?_)
  refine wpAny_bind (wpAny_layCells _ (fun name kind cells => by cases hkc : kind == NameKind.cell <;> simp [hkc]) _ _ _ _ ?_)
  have ok := cellsFrom_ok scope.names (s.heap.push { cls := .type "dict", data := .dict #[] }) (s.heap.objs.size + 1) [] ⟨fun _ _ hm => (nomatch hm), List.Pairwise.nil⟩ (by rw [Heap.size_push]; exact Nat.le_refl _)
  rw [Heap.size_push] at ok
  rw [show ({ s with heap := s.heap.push { cls := .type "dict", data := .dict #[] } } : Shared).heap.objs.size = s.heap.objs.size + 1 from Heap.size_push ..]
  refine wpAny_bind ?_
  rw [List.forIn_nil]
  refine wpAny_pure (wpAny_pure (hQ _ ((Heap.Ns.new s.heap (.type "dict")).keeps (pushCells_keeps _ _)) ok fun b o e => pushCells_keeps _ _ b o (Heap.get?_push_of_some _ e)))
end Mine

-- part Gw9
namespace Mine

/-- as CBody, the turn's rest with its `again` -/
def RBody (B : Bs) (n : Nat) (cenv : Env) (xs : List Str) (D : Addr) (st : Store) (ρ ρ₀ : Str → Option V) (t : Sem PySem.Fin) (c : Code) (out : List V) : Prop :=
  ∀ A, Rm n A → Own B cenv xs → ∀ E s H ys, D ∈ H.xs → ¬ wrt cenv xs D → Sim B cenv ρ st H s.heap → AccAt D ys H s.heap → ys.length + out.length ≤ sizeLine →
    wpAny (model B.prog B.w) A t (fun fin s' => fin = .again c ∧ ∃ h' tk, s' = { s with heap := h', toks := tk } ∧ Sim B cenv ρ₀ st H h' ∧ AccAt D (ys ++ out) H h' ∧ ∀ b o, b ≠ D → ¬ wrt cenv xs b → ¬ Ex B b o → s.heap.get? b = some o → h'.get? b = some o) E s

section
variable {B : Bs} {n : Nat} {st : Store}

theorem AccAt.ext {D : Addr} {ys : List V} {H : Hd} {h h' : Heap} (x : AccAt D ys H h) (dk : DKeep H h H h') (hD : ∀ o, IsSeq o → h.get? D = some o → h'.get? D = some o) : AccAt D ys H h' :=
  let ⟨vs, m, ho, hr⟩ := x; ⟨vs, m, hD _ (isSeq_lis ..) ho, hr.ext dk⟩

theorem comp_loop {A : Around} (hA : Rm n A) {R : Result → Shared → Prop} {s : Shared} {c : Code} {p : Pos} {target : Expr} {it : Value} {cenv : Env} {rest : Sem PySem.Fin} {vs : List V} {Cond : Store → Prop} {Tg : Expr → Prop} {X wr fp : List Addr} {St : Hd → Nat → Heap → Prop} {xs : List Str} {D : Addr} {H : Hd} {ρ₀ : Str → Option V} {ys₀ : List V}
    (hq : c.quiet = true)
    (hden : ∀ (Q : PySem.Fin → Shared → Prop) (E : Value → Shared → Prop) s, wpAny (model B.prog B.w) A ((do
      standAt p
      match ← pyNext it with
      | none => pure (.done .next)
      | some v => do
        letOwnedTupleGo target it v
        assign target cenv v
        rest : Sem PySem.Fin).onRaise (fun x => do noteFrame x cenv; theTreesLotGoes x)) Q E s → wpAny (model B.prog B.w) (A.under c) ((model B.prog B.w).den c) Q E s)
    (IT : Iter B n it vs Cond Tg X wr fp St) (hc : Cond st) (htg : Tg target) (outs : List (List V)) (hlen : outs.length = vs.length)
    (turn : ∀ (i : Nat) v out, vs[i]? = some v → outs[i]? = some out → ∃ ρ', PA B n cenv st target v xs ρ₀ ρ' ∧ RBody B n cenv xs D st ρ' ρ₀ rest c out)
    (O : Own B cenv xs) (hD : D ∈ H.xs) (hDw : ¬ wrt cenv xs D) (hDfp : D ∉ fp) (hX : ∀ a ∈ X, ¬ H.has a) (hfpw : ∀ b ∈ fp, ¬ wrt cenv xs b) (hfpT : ∀ b ∈ fp, ¬ B.isT b) (hnew : ∀ b ∈ wr, B.free b)
    (S : Sim B cenv ρ₀ st ⟨H.hs, X ++ H.xs⟩ s.heap) (acc : AccAt D ys₀ ⟨H.hs, X ++ H.xs⟩ s.heap) (hst : St ⟨H.hs, X ++ H.xs⟩ 0 s.heap) (hsz : (ys₀ ++ outs.flatten).length ≤ sizeLine)
    (hR : ∀ h' tk, Sim B cenv ρ₀ st H h' → AccAt D (ys₀ ++ outs.flatten) H h' → (∀ b o, b ≠ D → b ∉ wr → ¬ wrt cenv xs b → ¬ Ex B b o → s.heap.get? b = some o → h'.get? b = some o) → R (.ok .next) { s with heap := h', toks := tk }) :
    codeAny (model B.prog B.w) A c R s := by
  refine codeAny_loop hq (fun k s' => ∃ h tk i, s' = { s with heap := h, toks := tk } ∧ k = vs.length + 1 - i ∧ i ≤ vs.length ∧ Sim B cenv ρ₀ st ⟨H.hs, X ++ H.xs⟩ h ∧ St ⟨H.hs, X ++ H.xs⟩ i h ∧ AccAt D (ys₀ ++ (outs.take i).flatten) ⟨H.hs, X ++ H.xs⟩ h ∧
    ∀ b o, b ≠ D → b ∉ wr → ¬ wrt cenv xs b → ¬ Ex B b o → s.heap.get? b = some o → h.get? b = some o) ?_ (vs.length + 1) ⟨s.heap, s.toks, 0, rfl, rfl, Nat.zero_le _, S, hst, by simpa using acc, fun _ _ _ _ _ _ e => e⟩
  rintro k s' ⟨h, tk, i, rfl, rfl, hi, S', hst', acc', kp⟩
  refine hden _ _ _ (wpAny_noted (wpAny_bind (wpAny_standAt (wpAny_bind ?_))))
  have hwr : ∀ b ∈ wr, b ∉ X → ∃ o fs, h.get? b = some o ∧ o.data = .fields fs ∧ ¬ CodeO o := fun b hb hx => by
    obtain ⟨o, ho, hf⟩ := IT.wrObj _ _ _ b hst' (IT.sub b hb)
    obtain ⟨⟨fs, hfs⟩, hc⟩ := hf hb hx
    exact ⟨o, fs, ho, hfs, hc⟩
  have hDwr : D ∉ wr := fun hw => hDfp (IT.sub D hw)
  have hXH : ∀ a ∈ X, (⟨H.hs, X ++ H.xs⟩ : Hd).has a := fun a ha => .inr (List.mem_append_left _ ha)
  have le : ∀ a ∈ H.xs, a ∈ X ++ H.xs := fun a ha => List.mem_append_right _ ha
  cases hv : vs[i]? with
  | none =>
    have hlen : i = vs.length := Nat.le_antisymm hi (List.getElem?_eq_none_iff.mp hv)
    subst hlen
    refine wpAny_mono (IT.done A hA _ { s with heap := h, toks := tk } ⟨H.hs, X ++ H.xs⟩ st (fun s₁ => R (.ok .next) s₁) hc S'.sb hXH hst' fun h' tk' kp' => ?_) (fun r s₁ ⟨e, q⟩ => ?_) fun _ _ e => e
    · obtain ⟨S₁, dk⟩ := sim_wr0 S' hX hwr hnew kp'
      refine hR h' tk' S₁ ?_ fun b o hb hw ht hx e => kp' b o hw (kp b o hb hw ht hx e)
      obtain ⟨zs, m, ho, hr⟩ := acc'
      rw [← hlen, List.take_length] at hr
      exact ⟨zs, m, kp' D _ hDwr ho, (hr.ext dk).dropX⟩
    · subst e; exact wpAny_pure q
  | some v =>
    have hlt : i < vs.length := (List.getElem?_eq_some_iff.mp hv).1
    have hout : outs[i]? = some (outs[i]'(hlen ▸ hlt)) := List.getElem?_eq_getElem _
    generalize outs[i]'(hlen ▸ hlt) = out at hout
    obtain ⟨ρ', pa, rb⟩ := turn i v out hv hout
    have htake : outs.take (i + 1) = outs.take i ++ [out] := by rw [List.take_add_one, hout]; rfl
    have key : ∀ (Post : PySem.Fin → Shared → Prop) (EE : Value → Shared → Prop), (∀ h₃ tk₃, Sim B cenv ρ₀ st ⟨H.hs, X ++ H.xs⟩ h₃ → St ⟨H.hs, X ++ H.xs⟩ (i + 1) h₃ → AccAt D (ys₀ ++ (outs.take (i + 1)).flatten) ⟨H.hs, X ++ H.xs⟩ h₃ →
        (∀ b o, b ≠ D → b ∉ wr → ¬ wrt cenv xs b → ¬ Ex B b o → h.get? b = some o → h₃.get? b = some o) → Post (.again c) { s with heap := h₃, toks := tk₃ }) →
        wpAny (model B.prog B.w) A (pyNext it) (fun r s₁ => ∃ x, r = some x ∧ wpAny (model B.prog B.w) A (letOwnedTupleGo target it x) (fun _ s₂ => wpAny (model B.prog B.w) A (assign target cenv x) (fun _ s₃ => wpAny (model B.prog B.w) A rest Post EE s₃) EE s₂) EE s₁) EE { s with heap := h, toks := tk } := by
      intro Post EE hp
      refine IT.item A hA EE { s with heap := h, toks := tk } ⟨H.hs, X ++ H.xs⟩ st i v target (fun x s₂ => wpAny (model B.prog B.w) A (assign target cenv x) (fun _ s₃ => wpAny (model B.prog B.w) A rest Post EE s₃) EE s₂) hc htg S'.sb hXH hst' hv fun x h₁ tk₁ hst₁ kp₁ r₁ => ?_
      have hXl : ∀ b ∈ X, (∃ o, h.get? b = some o ∧ IsSeq o) ∧ ∃ o, h₁.get? b = some o ∧ IsSeq o := fun b hb => ⟨IT.xObj _ _ _ b hst' hb, IT.xObj _ _ _ b hst₁ hb⟩
      obtain ⟨S₁, dk₁⟩ := sim_wr S' (X := X) (fun a ha => ⟨List.mem_append_left _ ha, fun hm => hX a ha (.inl hm)⟩) hwr hXl hnew kp₁
      have acc₁ := acc'.ext dk₁ (fun o _ e => kp₁ D o hDwr e)
      refine wpAny_mono (pa A hA O _ _ _ x S₁ r₁) (fun _ s₂ q₂ => ?_) fun _ _ e => e
      obtain ⟨h₂, tk₂, rfl, S₂, kp₂⟩ := q₂
      have dk₂ := wrt_dk S₁.en kp₂
      have acc₂ := acc₁.ext dk₂ (fun o _ e => kp₂ D o hDw e)
      have hst₂ := IT.frame _ _ _ _ _ hst₁ dk₂ fun b hb o e => kp₂ b o (hfpw b hb) e
      refine wpAny_mono (rb A hA O _ _ _ _ (le D hD) hDw S₂ acc₂ ?_) (fun fin s₃ q₃ => ?_) fun _ _ e => e
      · have e1 : (outs.flatten).length = ((outs.take (i + 1)).flatten).length + ((outs.drop (i + 1)).flatten).length := by
          rw [← List.length_append, ← List.flatten_append, List.take_append_drop]
        rw [htake, List.flatten_append, List.length_append] at e1
        simp only [List.flatten_cons, List.flatten_nil, List.append_nil, List.length_append] at e1 hsz ⊢
        omega
      · obtain ⟨rfl, h₃, tk₃, rfl, S₃, acc₃, kp₃⟩ := q₃
        refine hp h₃ tk₃ S₃ ?_ ?_ fun b o hb hw ht hx e => kp₃ b o hb ht hx (kp₂ b o ht (kp₁ b o hw e))
        · refine IT.frame _ _ _ _ _ hst₂ ?_ fun b hb o e => kp₃ b o (fun e' => hDfp (e' ▸ hb)) (hfpw b hb) (fun hx => hfpT b hb hx.1) e
          exact ⟨⟨[], by simp⟩, fun _ h1 h2 => absurd h1 h2, fun b o hb hq e => kp₃ b o (fun e' => hb (e' ▸ .inr (le D hD))) (fun hw => S₂.en.notSeq hw e hq) (ex_seq hq) e⟩
        · rw [htake, List.flatten_append, ← List.append_assoc]
          simpa using acc₃
    have key2 := key (fun fin s' => ∃ h₃ tk₃, fin = .again c ∧ s' = { s with heap := h₃, toks := tk₃ } ∧ Sim B cenv ρ₀ st ⟨H.hs, X ++ H.xs⟩ h₃ ∧ St ⟨H.hs, X ++ H.xs⟩ (i + 1) h₃ ∧ AccAt D (ys₀ ++ (outs.take (i + 1)).flatten) ⟨H.hs, X ++ H.xs⟩ h₃ ∧ (∀ b o, b ≠ D → b ∉ wr → ¬ wrt cenv xs b → ¬ Ex B b o → h.get? b = some o → h₃.get? b = some o)) (notedBy (model B.prog B.w) A cenv fun e s' => R (Except.error e) s') fun h₃ tk₃ S₃ hst₃ acc₃ kp₃ => ⟨h₃, tk₃, rfl, rfl, S₃, hst₃, acc₃, kp₃⟩
    refine wpAny_mono key2 (fun r s₁ hr => ?_) fun _ _ e => e
    obtain ⟨x, e, q⟩ := hr
    subst e
    refine wpAny_bind (wpAny_mono q (fun _ s₂ q₂ => wpAny_bind (wpAny_mono q₂ (fun _ s₃ q₃ => wpAny_mono q₃ (fun fin s₄ q₄ => ?_) fun _ _ e => e) fun _ _ e => e)) fun _ _ e => e)
    obtain ⟨h₃, tk₃, rfl, rfl, S₃, hst₃, acc₃, kp₃⟩ := q₄
    exact ⟨rfl, vs.length + 1 - (i + 1), by omega, h₃, tk₃, i + 1, rfl, rfl, hlt, S₃, hst₃, acc₃, fun b o hb hw ht hx e => kp₃ b o hb hw ht hx (kp b o hb hw ht hx e)⟩

/-- tests, then the element is put onto the list -/
theorem rb_emit {cenv : Env} {xs : List Str} {D : Addr} {ρ ρ₀ : Str → Option V} {ifs : List Expr} {elt : Expr} {c : Code} {p : Bool} {v : V} (h1 : PTs B n cenv ρ st ifs p) (h2 : p = true → PE B n cenv ρ st elt v) (hw : ∀ y v, ρ₀ y = some v → ρ y = some v) :
    RBody B n cenv xs D st ρ ρ₀ (do
        let mut ok := true
        for c in ifs do
          if ok then ok ← isTrue c cenv (eval c cenv)
        if ok then
          (do let _ ← call (.builtin "list.append") [.ref D, ← eval elt cenv])
        again c) c (if p then [v] else []) := fun A hA O E s H ys hD hDw S acc hsz => by
  refine wpAny_bind (wpAny_mono (h1 A hA _ s H S) (fun ok s₁ ⟨e, k1⟩ => ?_) fun _ _ e => e)
  subst e
  have S₁ := S.keeps (kp_get k1)
  have acc₁ := acc.ext (kp_dk k1 H) (fun o hs e => (kp_get k1).seq hs e)
  cases ok with
  | false =>
    obtain ⟨h', tk, rfl, kp⟩ := k1
    exact wpAny_pure ⟨rfl, h', tk, rfl, S₁.weaken hw, by simpa using acc₁, fun b o _ _ hx e => kp.keep b o hx e⟩
  | true =>
    refine wpAny_bind (wpAny_bind (wpAny_mono (h2 rfl A hA _ s₁ H S₁) (fun x s₂ ⟨k2, r2⟩ => ?_) fun _ _ e => e))
    have S₂ := S₁.keeps (kp_get k2)
    obtain ⟨vs, m, ho, hr⟩ := acc₁.ext (kp_dk k2 H) (fun o hs e => (kp_get k2).seq hs e)
    have hsize := hr.size
    have ho' : s₂.heap.IsList D vs := isList_of ho
    have hszv : vs.size ≤ sizeLine := by simp at hsz; omega
    refine wpAny_bind (wpAny_append_lis ho hszv fun h₃ m' ho₃ hs₃ => wpAny_pure (wpAny_pure ⟨rfl, ?_⟩))
    obtain ⟨h₂, tk₂, e2, kp⟩ := kp_trans k1 k2
    subst e2
    have dk : DKeep H h₂ H h₃ := ⟨⟨[], by simp⟩, fun _ h1 h2 => absurd h1 h2, fun b o hb hq e => hs₃.extBut b o (fun e' => hb (e' ▸ .inr hD)) e⟩
    have kp3 : ∀ b o, b ≠ D → h₂.get? b = some o → h₃.get? b = some o := fun b o hb e => hs₃.extBut b o hb e
    refine ⟨h₃, tk₂, rfl, ?_, ?_, fun b o hb _ hx e => kp3 b o hb (kp.keep b o hx e)⟩
    · exact (sim_acc S₂ hD ho ho₃ kp3).weaken hw
    · exact ⟨vs.push x, m', ho₃, by simpa using (hr.append (RepAll.one r2)).ext dk⟩
end
end Mine

-- part Gw10
namespace Mine

theorem relabel_own {scope : Scope} {env : Env} {x : Str} {k : NameKind} (hx : scope.names.lookup x = some k) (hk : k ≠ .free) : (relabel scope env).names.lookup x = some k := by
  unfold relabel
  revert hx
  generalize scope.names = l
  induction l with
  | nil => intro h; simp at h
  | cons y r ih =>
    obtain ⟨m, j⟩ := y
    intro h
    by_cases hx : (x == m) = true
    · rw [List.lookup_cons, hx] at h
      cases h
      have hj : (k == NameKind.free && env.scope.kind == .function && env.kindOf m == some .cell) = false := by
        have : (k == NameKind.free) = false := by simpa using hk
        rw [this]; rfl
      rw [List.map_cons]
      simp only [hj, Bool.false_eq_true, if_false, List.lookup_cons, hx]
    · have hx' : (x == m) = false := by simpa using hx
      rw [List.lookup_cons, hx'] at h
      rw [List.map_cons]
      by_cases hc : (j == NameKind.free && env.scope.kind == .function && env.kindOf m == some .cell) = true
      · simp only [hc, if_true, List.lookup_cons, hx']; exact ih h
      · simp only [hc, Bool.false_eq_true, if_false, List.lookup_cons, hx']; exact ih h

theorem wrt_comp {scope : Scope} {env : Env} {C : Addr} {xs : List Str} (f2 : (scope.names.map (·.1)).Nodup) (hxs : ∀ x ∈ xs, scope.names.lookup x = some .local ∨ scope.names.lookup x = some .cell) {h' : Heap} (hcs : CellsOk h' (C + 1) (cellsFrom (C + 1) scope.names [])) {b : Addr}
    (hb : wrt (cEnv scope C env) xs b) : C ≤ b := by
  rcases hb with e | ⟨x, hx, hk, hc⟩
  · exact e ▸ Nat.le_refl _
  · rcases hxs x hx with h | h
    · have : (cEnv scope C env).kindOf x = some .local := relabel_own h (by simp)
      rw [hk] at this; cases this
    · have hc' : (cellsFrom (C + 1) scope.names (closOf env scope.names [])).lookup x = some b := hc
      rw [cellsFrom_app, List.lookup_append] at hc'
      obtain ⟨c, hcc⟩ := cellsFrom_has (m := C + 1) (mem_of_lookup h)
      rw [hcc] at hc'
      cases hc'
      exact Nat.le_trans (Nat.le_succ _) (hcs.empty x b (mem_of_lookup hcc)).2

section
variable {B : Bs} {n : Nat} {env : Env} {ρ : Str → Option V} {st : Store}

/-- a comprehension with one clause, up to its end -/
theorem comp_block1 {A : Around} (hA : Rm n A) {E : Value → Shared → Prop} {s : Shared} {H : Hd} {elt target iter : Expr} {ifs : List Expr} {scope : Scope} {pos : Pos} {RR : Value → Addr → Result → Shared → Prop} {vs : List V} {Cond : Store → Prop} {Tg : Expr → Prop} {pl : Bool} {xs : List Str}
    (S : Sim B env ρ st H s.heap) (hiter : PI B n env ρ st iter vs Cond Tg pl) (htg : Tg target) (ok : okScope env scope = true) (hxs : ∀ x ∈ xs, scope.names.lookup x = some .local ∨ scope.names.lookup x = some .cell) (outs : List (List V)) (hlen : outs.length = vs.length)
    (hturn : ∀ (i : Nat) v out, vs[i]? = some v → outs[i]? = some out → ∀ C, ∃ ρ' p w, PA B n (cEnv scope C env) st target v xs (restr scope ρ) ρ' ∧ PTs B n (cEnv scope C env) ρ' st ifs p ∧ (p = true → PE B n (cEnv scope C env) ρ' st elt w) ∧ out = (if p then [w] else []) ∧ ∀ y u, restr scope ρ y = some u → ρ' y = some u)
    (hsz : (outs.flatten).length ≤ sizeLine)
    (hRR : ∀ D C h' tk m, s.heap.get? D = none → s.heap.get? C = none → D ≠ C → h'.Ns C m → AccAt D (outs.flatten) ⟨H.hs, [D] ++ H.xs⟩ h' → KH B s.heap h' → RR (.ref D) C (.ok .next) { s with heap := h', toks := tk }) :
    wpAny (model B.prog B.w) A (eval iter env) (fun xv s₁ => wpAny (model B.prog B.w) A (pyIter xv) (fun it s₂ => wpAny (model B.prog B.w) A (newList []) (fun acc s₃ => wpAny (model B.prog B.w) A (newFunctionEnv scope env.globals (closOf env scope.names []) [] env.qual none .none (some env)) (fun cenv s₄ =>
      codeAny (model B.prog B.w) A (.compStart (.ListComp elt [⟨target, iter, ifs, 0⟩] scope pos) 0 it acc { cenv with scope := relabel scope env }) (RR acc cenv.locals) s₄) E s₃) E s₂) E s₁) E s := by
  refine wpAny_mono (hiter A hA E s H S) (fun xv s₁ ⟨k1, q1⟩ => wpAny_mono q1 (fun it s₂ q2 => ?_) fun _ _ e => e) fun _ _ e => e
  obtain ⟨k2, X, wr, fp, St, IT, hc, _, hst, hnew⟩ := q2
  obtain ⟨f1, f2, f3⟩ := okScope_facts ok
  refine wpAny_newObj_type (new_comp fun h₄ hns hcs kp4 => ?_) (Nat.zero_le _)
  have k3 := kp_push (B := B) s₂ { cls := .type "list", data := .seq ([] : List Value).toArray }
  have hszp : (s₂.heap.push { cls := .type "list", data := .seq ([] : List Value).toArray }).objs.size = s₂.heap.objs.size + 1 := Heap.size_push ..
  generalize hC : (s₂.heap.push { cls := .type "list", data := .seq ([] : List Value).toArray }).objs.size = C at hns hcs hszp ⊢
  have kp24 : ∀ b o, s₂.heap.get? b = some o → h₄.get? b = some o := fun b o e => kp4 b o (Heap.get?_push_of_some _ e)
  have kp04 : KH B s.heap h₄ := (kp_get k2).trans (.of kp24)
  have hDacc : h₄.get? s₂.heap.objs.size = some (lisObj #[] 0) := kp4 _ _ (Heap.get?_push_size _ rfl)
  have none2 : ∀ a, s₂.heap.objs.size ≤ a → s.heap.get? a = none := fun a ha => new_none k2 ha
  have lt2 : ∀ b o, s₂.heap.get? b = some o → b ≠ s₂.heap.objs.size ∧ b < C := fun b o e => ⟨Nat.ne_of_lt (Heap.lt_size e), by rw [hszp]; exact Nat.lt_succ_of_lt (Heap.lt_size e)⟩
  -- the store with the iterator's opaque things and the growing list
  have live2 : ∀ b, b ∈ fp ∨ b ∈ X → ∃ o, s₂.heap.get? b = some o := fun b hb => by
    rcases hb with hb | hb
    · obtain ⟨o, ho, _⟩ := IT.wrObj _ _ _ b hst hb; exact ⟨o, ho⟩
    · obtain ⟨o, ho, _⟩ := IT.xObj _ _ _ b hst hb; exact ⟨o, ho⟩
  have dist : ∀ b, b ∈ fp ∨ b ∈ X → b ≠ s₂.heap.objs.size ∧ b < C := fun b hb => by
    obtain ⟨o, ho⟩ := live2 b hb; exact lt2 b o ho
  obtain ⟨SB1, dk1⟩ := sim_more (Y := X ++ [s₂.heap.objs.size]) S.sb kp04 (fun a ha => by
      rcases List.mem_append.mp ha with ha | ha
      · exact hnew a (.inr ha)
      · cases List.mem_singleton.mp ha; exact none2 _ (Nat.le_refl _)) (fun a ha => by
      rcases List.mem_append.mp ha with ha | ha
      · obtain ⟨o, ho, hs⟩ := IT.xObj _ _ _ a hst ha
        exact ⟨o, kp24 _ _ ho, hs⟩
      · cases List.mem_singleton.mp ha; exact ⟨_, hDacc, isSeq_lis ..⟩)
  rw [List.append_assoc] at SB1 dk1
  have E1 : EnvRep (cEnv scope C env) (restr scope ρ) ⟨H.hs, X ++ ([s₂.heap.objs.size] ++ H.xs)⟩ h₄ := by
    refine env_comp (C := C) (h := s₂.heap) (h' := h₄) (H := ⟨H.hs, X ++ ([s₂.heap.objs.size] ++ H.xs)⟩) (S.en.ext (kp_get k2) ?_) ok kp24 (by rw [hszp]; exact Nat.le_succ _) hns hcs
    exact ⟨dk1.pre, dk1.new, fun b o _ hs e => (kp_get k2).seq hs e⟩
  have hcenv : ({ scope := relabel scope env, locals := C, globals := env.globals, cells := cellsFrom (C + 1) scope.names (closOf env scope.names []), qual := env.qual, func := none, code := env.code, frame := env.frame, builtins := env.builtins } : Env) = cEnv scope C env := rfl
  have own : Own B (cEnv scope C env) xs := ⟨fun b hb => by
    have hge := wrt_comp f2 hxs hcs hb
    refine (S.keeps (kp_get k2)).base.free ?_
    cases e : s₂.heap.get? b with
    | none => rfl
    | some o => exact absurd (Nat.lt_of_lt_of_le (lt2 b o e).2 hge) (Nat.lt_irrefl _)⟩
  have hDw : ¬ wrt (cEnv scope C env) xs s₂.heap.objs.size := fun hb => by
    have hge := wrt_comp f2 hxs hcs hb
    rw [hszp] at hge
    exact Nat.not_succ_le_self _ hge
  have hst4 : St ⟨H.hs, X ++ ([s₂.heap.objs.size] ++ H.xs)⟩ 0 h₄ := by
    refine IT.frame _ _ _ _ _ hst ?_ fun b hb o e => kp24 b o e
    refine ⟨⟨[], by simp⟩, fun a ha hn => ?_, fun b o _ _ e => kp24 b o e⟩
    rcases ha with ha | ha
    · exact absurd (.inl ha) hn
    · rcases List.mem_append.mp ha with ha | ha
      · exact absurd (.inr (List.mem_append_left _ ha)) hn
      · rcases List.mem_append.mp ha with ha | ha
        · cases List.mem_singleton.mp ha
          cases e : s₂.heap.get? s₂.heap.objs.size with
          | none => rfl
          | some o => exact absurd (Heap.lt_size e) (Nat.lt_irrefl _)
        · exact absurd (.inr (List.mem_append_right _ ha)) hn
  have loop : ∀ s₄ : Shared, s₄ = { s₂ with heap := h₄ } → codeAny (model B.prog B.w) A (.compLoop (.ListComp elt [⟨target, iter, ifs, 0⟩] scope pos) 0 it (.ref s₂.heap.objs.size) (cEnv scope C env)) (RR (.ref s₂.heap.objs.size) C) s₄ := by
    rintro s₄ rfl
    refine comp_loop (H := ⟨H.hs, [s₂.heap.objs.size] ++ H.xs⟩) (ys₀ := []) (D := s₂.heap.objs.size) (ρ₀ := restr scope ρ) (cenv := cEnv scope C env) (xs := xs) hA rfl (p := iter.pos) (rest := do
        let mut ok := true
        for c in ifs do
          if ok then ok ← isTrue c (cEnv scope C env) (eval c (cEnv scope C env))
        if ok then
          (do let _ ← call (.builtin "list.append") [.ref s₂.heap.objs.size, ← eval elt (cEnv scope C env)])
        again (.compLoop (.ListComp elt [⟨target, iter, ifs, 0⟩] scope pos) 0 it (.ref s₂.heap.objs.size) (cEnv scope C env))) (fun Q E s h => ?_) IT hc htg outs hlen (fun i v out hv ho => ?_) own (List.mem_append_left _ (List.mem_singleton.mpr rfl)) hDw (fun hm => (dist _ (.inl hm)).1 rfl) (fun a ha hh => ?_) (fun b hb hw => ?_) (fun b hb => ?_) (fun b hb => ?_) ⟨SB1.base, SB1.sto, E1⟩ ⟨#[], 0, hDacc, .nil⟩ hst4 (by simpa using hsz) (fun h' tk S' acc' kp' => ?_)
    · show wpAny _ A ((compTurn (.ListComp elt [⟨target, iter, ifs, 0⟩] scope pos) 0 it (.ref s₂.heap.objs.size) (cEnv scope C env)).onRaise (fun x => do noteFrame x (cEnv scope C env); theTreesLotGoes x)) _ _ _
      rw [compTurn_list]
      exact h
    · obtain ⟨ρ', p, w, h1, h2, h3, h4, h5⟩ := hturn i v out hv ho C
      exact ⟨ρ', h1, h4 ▸ rb_emit h2 h3 h5⟩
    · have d := dist a (.inr ha)
      have n := hnew a (.inr ha)
      rcases hh with hh | hh
      · obtain ⟨o, ho, _⟩ := S.sto.live a (.inl hh); rw [n] at ho; cases ho
      · rcases List.mem_append.mp hh with hh | hh
        · exact d.1 (List.mem_singleton.mp hh)
        · obtain ⟨o, ho, _⟩ := S.sto.live a (.inr hh); rw [n] at ho; cases ho
    · exact absurd (Nat.lt_of_lt_of_le (dist b (.inl hb)).2 (wrt_comp f2 hxs hcs hw)) (Nat.lt_irrefl _)
    · exact (S.base.free (hnew b (.inl hb))).2
    · exact S.base.free (hnew b (.inl (IT.sub b hb)))
    · obtain ⟨m, hm, _⟩ := S'.en.loc
      obtain ⟨h2', tk2, e2, _⟩ := id k2
      subst e2
      refine hRR _ C h' tk m (none2 _ (Nat.le_refl _)) (none2 _ (by rw [hszp]; exact Nat.le_succ _)) (by rw [hszp]; exact Nat.ne_of_lt (Nat.lt_succ_self _)) hm (by simpa using acc') ?_
      have kk : ∀ b o, ¬ Ex B b o → s.heap.get? b = some o → h'.get? b = some o := fun b o hx e => ?_
      · refine ⟨kk, fun _ => S'.base.tab, fun b o e => ?_⟩
        by_cases hx : Ex B b o
        · obtain ⟨⟨t, ht, rfl⟩, _⟩ := hx
          obtain ⟨ps, h1, _⟩ := S'.base.tab t ht
          exact ⟨_, h1⟩
        · exact ⟨o, kk b o hx e⟩
      have e4 := kp04.keep b o hx e
      have l2 := lt2 b o ((kp_get k2).keep _ _ hx e)
      refine kp' b o l2.1 (fun hw => ?_) (fun hw => ?_) hx e4
      · rw [hnew b (.inl (IT.sub b hw))] at e; cases e
      · exact absurd (Nat.lt_of_lt_of_le l2.2 (wrt_comp f2 hxs hcs hw)) (Nat.lt_irrefl _)
  show codeAny (model B.prog B.w) A (.compStart (.ListComp elt [⟨target, iter, ifs, 0⟩] scope pos) 0 it (.ref s₂.heap.objs.size) (cEnv scope C env)) _ _
  refine codeAny_compStart_list (loop _ rfl) (IT.self A hA _ _ ⟨H.hs, X ++ ([s₂.heap.objs.size] ++ H.xs)⟩ 0 _ hst4 (loop _ rfl))

theorem hnames_of {scope : Scope} (f2 : (scope.names.map (·.1)).Nodup) : ∀ x ∈ scope.names, x.2 = .local → scope.names.lookup x.1 = some .local := fun x hx hk => by
  obtain ⟨y, k⟩ := x
  have : k = .local := hk
  subst this
  exact lookup_of_mem f2 hx

theorem hclos_of {scope : Scope} {H : Hd} {h : Heap} (e : EnvRep env ρ H h) (ok : okScope env scope = true) : closureFor scope env = pure (closOf env scope.names []) :=
  closureFor_eq fun x hx hk => by
    obtain ⟨y, k⟩ := x
    have : k = .free := hk
    subst this
    exact e.has y ((okScope_facts ok).2.2 y hx)

theorem accAt_end {H : Hd} {s : Shared} {st : Store} {D C : Addr} {h' h'' : Heap} {m : Str → Option Value} {out : List V} (S : SimH H st s.heap) (hD : s.heap.get? D = none) (hDC : D ≠ C) (hn : h'.Ns C m) (acc : AccAt D out ⟨H.hs, [D] ++ H.xs⟩ h') (hs : Heap.SameBut C h' h'') :
    AccAt D out ⟨H.hs, [D] ++ H.xs⟩ h'' ∧ ¬ H.has D := by
  obtain ⟨vs, q, ho, hr⟩ := acc
  refine ⟨⟨vs, q, hs.extBut _ _ hDC ho, hr.ext ⟨⟨[], by simp⟩, fun _ h1 h2 => absurd h1 h2, fun b o _ hq e => hs.extBut b o (fun e' => ?_) e⟩⟩, fun hh => ?_⟩
  · subst e'
    obtain ⟨o', es, ep, ho', hd, _⟩ := hn
    rw [e] at ho'; cases ho'
    obtain ⟨_, _, hq⟩ := hq
    rw [hd] at hq; cases hq
  · obtain ⟨o, ho, _⟩ := S.live D hh
    rw [hD] at ho; cases ho

/-- a list comprehension with one clause -/
theorem pe_comp0 {elt target iter : Expr} {ifs : List Expr} {scope : Scope} {pos : Pos} {vs : List V} {Cond : Store → Prop} {Tg : Expr → Prop} {pl : Bool} {xs : List Str} (hiter : PI B n env ρ st iter vs Cond Tg pl) (htg : Tg target) (ok : okScope env scope = true) (hxs : ∀ x ∈ xs, scope.names.lookup x = some .local ∨ scope.names.lookup x = some .cell)
    (outs : List (List V)) (hlen : outs.length = vs.length)
    (hturn : ∀ (i : Nat) v out, vs[i]? = some v → outs[i]? = some out → ∀ C, ∃ ρ' p w, PA B n (cEnv scope C env) st target v xs (restr scope ρ) ρ' ∧ PTs B n (cEnv scope C env) ρ' st ifs p ∧ (p = true → PE B n (cEnv scope C env) ρ' st elt w) ∧ out = (if p then [w] else []) ∧ ∀ y u, restr scope ρ y = some u → ρ' y = some u)
    (hsz : (outs.flatten).length ≤ sizeLine) (hs : ∀ x, foldedSetIterable iter env x = pure x := by intro _; rfl) :
    PE B n env ρ st (.ListComp elt [⟨target, iter, ifs, 0⟩] scope pos) (.lst outs.flatten) := fun A hA E s H S => by
  obtain ⟨f1, f2, f3⟩ := okScope_facts ok
  rw [eval_ListComp]
  refine wpAny_comprehension_free (use := none) rfl hs (hclos_of S.en ok) f1 (hnames_of f2) (comp_block1 (RR := fun acc C => compPost (model B.prog B.w) A E none _ acc C) hA S hiter htg ok hxs outs hlen hturn hsz ?_)
  intro D C h' tk m hD hC hDC hn acc kp
  refine ⟨m, hn, fun h'' hs'' => ?_⟩
  obtain ⟨⟨vs', q, ho, hr⟩, hDH⟩ := accAt_end S.sto hD hDC hn acc hs''
  exact ⟨⟨h'', tk, rfl, kp.but hC hn hs''⟩, .lst hDH ho hr.dropX⟩

theorem pts_nil : PTs B n env ρ st [] true := fun A _ E s H _ => wpAny_tests_nil ⟨rfl, kp_refl _⟩
theorem pts_one {c : Expr} {b : Bool} (h : PT B n env ρ st c b) : PTs B n env ρ st [c] b := fun A hA E s H S => wpAny_tests_one (h A hA E s H S)

theorem flatten_if {α : Type} (p : α → Bool) (f : α → V) : ∀ as : List α, (as.map fun a => if p a then [f a] else []).flatten = (as.filter p).map f
  | [] => rfl
  | a :: as => by
    rw [List.map_cons, List.flatten_cons, flatten_if p f as]
    cases h : p a <;> simp [h]

/-- a comprehension over things of a type, with a test -/
theorem pe_compIf {α : Type} {elt target iter : Expr} {ifs : List Expr} {scope : Scope} {pos : Pos} {Cond : Store → Prop} {Tg : Expr → Prop} {pl : Bool} (xs : List Str) (as : List α) (c : α → V) (ρ' : α → Str → Option V) (p : α → Bool) (f : α → V) {vs : List V} (hiter : PI B n env ρ st iter vs Cond Tg pl) (hvs : vs = as.map c) (htg : Tg target) (ok : okScope env scope = true)
    (hxs : ∀ x ∈ xs, scope.names.lookup x = some .local ∨ scope.names.lookup x = some .cell)
    (hpa : ∀ a ∈ as, ∀ C, PA B n (cEnv scope C env) st target (c a) xs (restr scope ρ) (ρ' a)) (hw : ∀ a ∈ as, ∀ y u, restr scope ρ y = some u → ρ' a y = some u)
    (hp : ∀ a ∈ as, ∀ C, PTs B n (cEnv scope C env) (ρ' a) st ifs (p a)) (hf : ∀ a ∈ as, p a = true → ∀ C, PE B n (cEnv scope C env) (ρ' a) st elt (f a))
    (hsz : as.length ≤ sizeLine) (hs : ∀ x, foldedSetIterable iter env x = pure x := by intro _; rfl) :
    PE B n env ρ st (.ListComp elt [⟨target, iter, ifs, 0⟩] scope pos) (.lst ((as.filter p).map f)) := by
  subst hvs
  rw [← flatten_if]
  refine pe_comp0 hiter htg ok hxs _ (by simp) (fun i v out hv ho C => ?_) ?_ hs
  · rw [List.getElem?_map] at hv ho
    cases ha : as[i]? with
    | none => rw [ha] at hv; cases hv
    | some a =>
      rw [ha] at hv ho
      cases hv; cases ho
      have hm := List.mem_of_getElem? ha
      exact ⟨ρ' a, p a, f a, hpa a hm C, hp a hm C, fun h => hf a hm h C, rfl, hw a hm⟩
  · rw [flatten_if, List.length_map]; exact Nat.le_trans (List.length_filter_le _ _) hsz

theorem upd_weak {scope : Scope} {x : Str} {v : V} (hx : scope.names.lookup x = some .local ∨ scope.names.lookup x = some .cell) {ρ' : Str → Option V} (h : ∀ y u, restr scope ρ y = some u → ρ' y = some u) : ∀ y u, restr scope ρ y = some u → upd ρ' x v y = some u := fun y u hy => by
  unfold upd
  by_cases e : y = x
  · subst e
    unfold restr at hy
    rcases hx with hx | hx <;> simp [hx] at hy
  · rw [if_neg e]; exact h y u hy

theorem kind_comp {scope : Scope} {x : Str} {C : Addr} (hx : scope.names.lookup x = some .local ∨ scope.names.lookup x = some .cell) : (cEnv scope C env).kindOf x = some .local ∨ (cEnv scope C env).kindOf x = some .cell := by
  rcases hx with h | h
  · exact .inl (relabel_own h (by simp))
  · exact .inr (relabel_own h (by simp))

/-- one name as the target -/
theorem pe_compName {α : Type} {elt iter : Expr} {x : Str} {px : Pos} {ifs : List Expr} {scope : Scope} {pos : Pos} {Cond : Store → Prop} {Tg : Expr → Prop} {pl : Bool} (as : List α) (c : α → V) (p : α → Bool) (f : α → V) {vs : List V} (hiter : PI B n env ρ st iter vs Cond Tg pl) (hvs : vs = as.map c) (htg : Tg (.Name x px)) (ok : okScope env scope = true)
    (hx : scope.names.lookup x = some .local ∨ scope.names.lookup x = some .cell)
    (hp : ∀ a ∈ as, ∀ C, PTs B n (cEnv scope C env) (upd (restr scope ρ) x (c a)) st ifs (p a)) (hf : ∀ a ∈ as, p a = true → ∀ C, PE B n (cEnv scope C env) (upd (restr scope ρ) x (c a)) st elt (f a))
    (hsz : as.length ≤ sizeLine) (hs : ∀ x, foldedSetIterable iter env x = pure x := by intro _; rfl) :
    PE B n env ρ st (.ListComp elt [⟨.Name x px, iter, ifs, 0⟩] scope pos) (.lst ((as.filter p).map f)) :=
  pe_compIf [x] as c (fun a => upd (restr scope ρ) x (c a)) p f hiter hvs htg ok (fun y hy => by cases List.mem_singleton.mp hy; exact hx) (fun a _ C => pa_name (List.mem_singleton.mpr rfl) (kind_comp hx)) (fun a _ => upd_weak hx fun _ _ h => h) hp hf hsz hs
/-- two names as the target -/
theorem pe_compTwo {α : Type} {elt iter : Expr} {x y : Str} {px py pt : Pos} {kt : Nat} {ifs : List Expr} {scope : Scope} {pos : Pos} {Cond : Store → Prop} {Tg : Expr → Prop} {pl : Bool} (as : List α) (c d : α → V) (p : α → Bool) (f : α → V) {vs : List V} (hiter : PI B n env ρ st iter vs Cond Tg pl) (hvs : vs = as.map fun a => V.tup [c a, d a]) (htg : Tg (.Tuple [.Name x px, .Name y py] kt pt)) (ok : okScope env scope = true)
    (hx : scope.names.lookup x = some .local ∨ scope.names.lookup x = some .cell) (hy : scope.names.lookup y = some .local ∨ scope.names.lookup y = some .cell)
    (hp : ∀ a ∈ as, ∀ C, PTs B n (cEnv scope C env) (upd (upd (restr scope ρ) x (c a)) y (d a)) st ifs (p a)) (hf : ∀ a ∈ as, p a = true → ∀ C, PE B n (cEnv scope C env) (upd (upd (restr scope ρ) x (c a)) y (d a)) st elt (f a))
    (hsz : as.length ≤ sizeLine) (hs : ∀ x, foldedSetIterable iter env x = pure x := by intro _; rfl) :
    PE B n env ρ st (.ListComp elt [⟨.Tuple [.Name x px, .Name y py] kt pt, iter, ifs, 0⟩] scope pos) (.lst ((as.filter p).map f)) :=
  pe_compIf [x, y] as _ (fun a => upd (upd (restr scope ρ) x (c a)) y (d a)) p f hiter hvs htg ok (fun z hz => by simp at hz; rcases hz with rfl | rfl <;> assumption)
    (fun a _ C => pa_tuple (pas_cons (pa_name (by simp) (kind_comp hx)) (pas_cons (pa_name (by simp) (kind_comp hy)) pas_nil))) (fun a _ => upd_weak hy (upd_weak hx fun _ _ h => h)) hp hf hsz hs
end
end Mine

-- part Gw11
namespace Mine

/-- a call's or an expression's change: the handles from m on may be written -/
structure CS (B : Bs) (m : Nat) (H : Hd) (h : Heap) (H' : Hd) (h' : Heap) : Prop where
  pre : ∃ N, H'.hs = H.hs ++ N
  xs : H'.xs = H.xs
  new : ∀ a, H'.has a → ¬ H.has a → h.get? a = none
  keep : ∀ b o, (∀ k, m ≤ k → H.hs[k]? ≠ some b) → ¬ Ex B b o → h.get? b = some o → h'.get? b = some o

def own (env : Env) : List Addr := env.locals :: env.cells.map (·.2)

/-- a statement's change -/
structure ES (B : Bs) (env : Env) (m : Nat) (H : Hd) (h : Heap) (H' : Hd) (h' : Heap) : Prop where
  pre : ∃ N, H'.hs = H.hs ++ N
  xs : H'.xs = H.xs
  new : ∀ a, H'.has a → ¬ H.has a → h.get? a = none
  keep : ∀ b o, b ∉ own env → (∀ k, m ≤ k → H.hs[k]? ≠ some b) → ¬ Ex B b o → h.get? b = some o → h'.get? b = some o

theorem CS.refl {B : Bs} (m : Nat) (H : Hd) (h : Heap) : CS B m H h H h := ⟨⟨[], by simp⟩, rfl, fun _ a b => absurd a b, fun _ _ _ _ e => e⟩
theorem CS.of_keeps {B : Bs} {m : Nat} {H : Hd} {h h' : Heap} (kp : KH B h h') : CS B m H h H h' := ⟨⟨[], by simp⟩, rfl, fun _ a b => absurd a b, fun b o _ hx e => kp.keep b o hx e⟩
theorem SB.sb {B : Bs} {st : Store} {H : Hd} {h : Heap} (x : SB B st H h) : SB B st H h := x
theorem tab_live {B : Bs} {h : Heap} (T : TabsOk B h) {b : Addr} {o : Obj} (hx : Ex B b o) : ∃ o', h.get? b = some o' := by obtain ⟨⟨t, ht, rfl⟩, _⟩ := hx; obtain ⟨ps, h1, _⟩ := T t ht; exact ⟨_, h1⟩
theorem CS.es {B : Bs} {env : Env} {m : Nat} {H H' : Hd} {h h' : Heap} (x : CS B m H h H' h') : ES B env m H h H' h' := ⟨x.pre, x.xs, x.new, fun b o _ hm hx e => x.keep b o hm hx e⟩
theorem CS.dk {B : Bs} {m : Nat} {H H' : Hd} {h h' : Heap} (x : CS B m H h H' h') : DKeep H h H' h' := ⟨x.pre, x.new, fun b o hb hs e => x.keep b o (fun k _ hk => hb (.inl (List.mem_of_getElem? hk))) (ex_seq hs) e⟩

theorem later {m : Nat} {H H' : Hd} {h h' : Heap} {st' : Store} (pre : ∃ N, H'.hs = H.hs ++ N) (xs : H'.xs = H.xs) (new : ∀ a, H'.has a → ¬ H.has a → h.get? a = none) (S : SimH H' st' h') {b : Addr} {o : Obj} (hm : ∀ k, m ≤ k → H.hs[k]? ≠ some b) (e : h.get? b = some o) : ∀ k, m ≤ k → H'.hs[k]? ≠ some b := fun k hk he => by
  obtain ⟨N, hN⟩ := pre
  by_cases hlt : k < H.hs.length
  · rw [hN, List.getElem?_append_left hlt] at he; exact hm k hk he
  · have hb' : b ∉ H.hs := fun hb => by
      obtain ⟨j, hj⟩ := List.getElem?_of_mem hb
      have hjl := (List.getElem?_eq_some_iff.mp hj).1
      have hj' : H'.hs[j]? = some b := by rw [hN, List.getElem?_append_left hjl]; exact hj
      have hkl := (List.getElem?_eq_some_iff.mp he).1
      have := (List.getElem?_inj hkl S.nd).mp (he.trans hj'.symm)
      omega
    have hx : b ∉ H.xs := fun hx => S.dj b (xs ▸ hx) (List.mem_of_getElem? he)
    have := new b (.inl (List.mem_of_getElem? he)) (fun hh => hh.elim hb' hx)
    rw [e] at this; cases this

theorem CS.trans {B : Bs} {m : Nat} {H H' H'' : Hd} {h h' h'' : Heap} {st' : Store} (x : CS B m H h H' h') (y : CS B m H' h' H'' h'') (S : SB B st' H' h') : CS B m H h H'' h'' := by
  refine ⟨?_, y.xs.trans x.xs, fun a ha hn => ?_, fun b o hm hx e => y.keep b o (later x.pre x.xs x.new S.sto hm e) hx (x.keep b o hm hx e)⟩
  · obtain ⟨N, e⟩ := x.pre
    obtain ⟨N', e'⟩ := y.pre
    exact ⟨N ++ N', by rw [e', e, List.append_assoc]⟩
  · by_cases h1 : H'.has a
    · exact x.new a h1 hn
    · have q := y.new a ha h1
      cases e : h.get? a with
      | none => rfl
      | some o =>
        by_cases hx : Ex B a o
        · obtain ⟨o', e'⟩ := tab_live S.base.tab hx
          rw [q] at e'; cases e'
        · have := x.keep a o (fun k _ hk => hn (.inl (List.mem_of_getElem? hk))) hx e
          rw [q] at this; cases this

theorem ES.trans {B : Bs} {env : Env} {m : Nat} {H H' H'' : Hd} {h h' h'' : Heap} {st' : Store} (x : ES B env m H h H' h') (y : ES B env m H' h' H'' h'') (S : SB B st' H' h') (lv : ∀ a ∈ own env, ∃ o, h'.get? a = some o) : ES B env m H h H'' h'' := by
  refine ⟨?_, y.xs.trans x.xs, fun a ha hn => ?_, fun b o hb hm hx e => y.keep b o hb (later x.pre x.xs x.new S.sto hm e) hx (x.keep b o hb hm hx e)⟩
  · obtain ⟨N, e⟩ := x.pre
    obtain ⟨N', e'⟩ := y.pre
    exact ⟨N ++ N', by rw [e', e, List.append_assoc]⟩
  · by_cases h1 : H'.has a
    · exact x.new a h1 hn
    · have q := y.new a ha h1
      by_cases ho : a ∈ own env
      · obtain ⟨o, e⟩ := lv a ho
        rw [q] at e; cases e
      · cases e : h.get? a with
        | none => rfl
        | some o =>
          by_cases hx : Ex B a o
          · obtain ⟨o', e'⟩ := tab_live S.base.tab hx
            rw [q] at e'; cases e'
          · have := x.keep a o ho (fun k _ hk => hn (.inl (List.mem_of_getElem? hk))) hx e
            rw [q] at this; cases this

theorem EnvRep.live {env : Env} {ρ : Str → Option V} {H : Hd} {h : Heap} (x : EnvRep env ρ H h) : ∀ a ∈ own env, ∃ o, h.get? a = some o := fun a ha => by
  rcases List.mem_cons.mp ha with rfl | ha
  · obtain ⟨m, ⟨o, _, _, ho, _⟩, _⟩ := x.loc; exact ⟨o, ho⟩
  · obtain ⟨p, hp, rfl⟩ := List.mem_map.mp ha
    obtain ⟨v, o, ho, _⟩ := x.cells p.1 p.2 hp
    exact ⟨o, ho⟩
theorem EnvRep.ownNotSeq {env : Env} {ρ : Str → Option V} {H : Hd} {h : Heap} (x : EnvRep env ρ H h) {b : Addr} (hb : b ∈ own env) {o : Obj} (ho : h.get? b = some o) : ¬ IsSeq o := by
  rintro ⟨vs, n, hd⟩
  rcases List.mem_cons.mp hb with rfl | hb
  · obtain ⟨m, ⟨o', es, ep, ho', hd', _⟩, _⟩ := x.loc
    rw [ho] at ho'; cases ho'; rw [hd] at hd'; cases hd'
  · obtain ⟨p, hp, rfl⟩ := List.mem_map.mp hb
    obtain ⟨v, o', ho', hd'⟩ := x.cells p.1 p.2 hp
    rw [ho] at ho'; cases ho'; rw [hd] at hd'; cases hd'
theorem ES.dk {B : Bs} {env : Env} {ρ : Str → Option V} {m : Nat} {H H' : Hd} {h h' : Heap} (x : ES B env m H h H' h') (e : EnvRep env ρ H h) : DKeep H h H' h' :=
  ⟨x.pre, x.new, fun b o hb hq e' => x.keep b o (fun ho => e.ownNotSeq ho e' hq) (fun k _ hk => hb (.inl (List.mem_of_getElem? hk))) (ex_seq hq) e'⟩

theorem wrt_own {env : Env} {xs : List Str} {b : Addr} (h : wrt env xs b) : b ∈ own env := by
  rcases h with rfl | ⟨x, _, _, hc⟩
  · exact List.mem_cons_self
  · exact List.mem_cons_of_mem _ (List.mem_map.mpr ⟨_, mem_of_lookup hc, rfl⟩)

/-- the frame's objects are new upon the base -/
def OwnF (B : Bs) (env : Env) : Prop := ∀ b ∈ own env, B.free b
theorem OwnF.own {B : Bs} {env : Env} (h : OwnF B env) (xs : List Str) : Own B env xs := ⟨fun b hb => h b (wrt_own hb)⟩

inductive Fl where
  | next | brk | cont
  | ret (v : V)
inductive FlRep (H : Hd) (h : Heap) : Flow → Fl → Prop
  | next : FlRep H h .next .next
  | brk : FlRep H h .brk .brk
  | cont : FlRep H h .cont .cont
  | ret {x v} : Rep H h x v → FlRep H h (.ret x) (.ret v)

abbrev Nm := Str → Option V

/-- an expression that may make or change mutable lists -/
def PM (B : Bs) (n : Nat) (env : Env) (m : Nat) (ρ : Nm) (st : Store) (e : Expr) (Ψ : V → Store → Prop) : Prop :=
  ∀ A, Rm n A → ∀ E s H, Sim B env ρ st H s.heap →
    wpAny (model B.prog B.w) A (eval e env) (fun x s' => ∃ v st' H' h' tk, s' = { s with heap := h', toks := tk } ∧ Ψ v st' ∧ Sim B env ρ st' H' h' ∧ CS B m H s.heap H' h' ∧ Rep H' h' x v) E s

/-- a statement -/
def EX1 (B : Bs) (n : Nat) (env : Env) (m : Nat) (ρ : Nm) (st : Store) (c : Stmt) (Φ : Fl → Nm → Store → Prop) : Prop :=
  ∀ A, Rm n A → OwnF B env → ∀ E s H, Sim B env ρ st H s.heap →
    wpAny (model B.prog B.w) A (exec c env) (fun f s' => ∃ fl ρ' st' H' h' tk, s' = { s with heap := h', toks := tk } ∧ Φ fl ρ' st' ∧ FlRep H' h' f fl ∧ Sim B env ρ' st' H' h' ∧ ES B env m H s.heap H' h') E s
/-- statements -/
def EX (B : Bs) (n : Nat) (env : Env) (m : Nat) (ρ : Nm) (st : Store) (cs : List Stmt) (Φ : Fl → Nm → Store → Prop) : Prop :=
  ∀ A, Rm n A → OwnF B env → ∀ E s H, Sim B env ρ st H s.heap →
    wpAny (model B.prog B.w) A (execs cs env) (fun f s' => ∃ fl ρ' st' H' h' tk, s' = { s with heap := h', toks := tk } ∧ Φ fl ρ' st' ∧ FlRep H' h' f fl ∧ Sim B env ρ' st' H' h' ∧ ES B env m H s.heap H' h') E s

section
variable {B : Bs} {n : Nat} {env : Env} {m : Nat} {ρ : Nm} {st : Store} {Φ : Fl → Nm → Store → Prop}

theorem ES.refl (env : Env) (m : Nat) (H : Hd) (h : Heap) : ES B env m H h H h := (CS.refl m H h).es

theorem PE.pm {e : Expr} {v : V} {Ψ : V → Store → Prop} (h : PE B n env ρ st e v) (hp : Ψ v st) : PM B n env m ρ st e Ψ := fun A hA E s H S => by
  refine wpAny_mono (h A hA E s H S) (fun x s₁ ⟨k, r⟩ => ?_) fun _ _ e => e
  have S₁ := S.keeps (kp_get k)
  obtain ⟨h', tk, rfl, kp⟩ := k
  exact ⟨v, st, H, h', tk, rfl, hp, S₁, .of_keeps kp, r⟩

theorem ex_nil (h : Φ .next ρ st) : EX B n env m ρ st [] Φ := fun A hA O E s H S => wpAny_execs_nil ⟨.next, ρ, st, H, s.heap, s.toks, rfl, h, .next, S, .refl ..⟩

/-- what follows a statement -/
def Then (B : Bs) (n : Nat) (env : Env) (m : Nat) (rest : List Stmt) (Φ : Fl → Nm → Store → Prop) : Fl → Nm → Store → Prop
  | .next, ρ, st => EX B n env m ρ st rest Φ
  | f, ρ, st => Φ f ρ st

theorem ex_cons {c : Stmt} {rest : List Stmt} (h : EX1 B n env m ρ st c (Then B n env m rest Φ)) : EX B n env m ρ st (c :: rest) Φ := fun A hA O E s H S => by
  refine wpAny_execs_cons (wpAny_mono (h A hA O E s H S) (fun f s₁ q => ?_) fun _ _ e => e)
  obtain ⟨fl, ρ', st', H', h', tk, rfl, hp, hf, S', es⟩ := q
  cases hf with
  | next =>
    refine wpAny_mono (hp A hA O E _ H' S') (fun f s₂ q => ?_) fun _ _ e => e
    obtain ⟨fl, ρ'', st'', H'', h'', tk', rfl, hp', hf', S'', es'⟩ := q
    exact ⟨fl, ρ'', st'', H'', h'', tk', rfl, hp', hf', S'', es.trans es' S'.sb S'.en.live⟩
  | brk => exact ⟨_, ρ', st', H', h', tk, rfl, hp, .brk, S', es⟩
  | cont => exact ⟨_, ρ', st', H', h', tk, rfl, hp, .cont, S', es⟩
  | ret r => exact ⟨_, ρ', st', H', h', tk, rfl, hp, .ret r, S', es⟩

theorem EX.mono {cs : List Stmt} {Φ' : Fl → Nm → Store → Prop} (h : EX B n env m ρ st cs Φ) (hp : ∀ f ρ st, Φ f ρ st → Φ' f ρ st) : EX B n env m ρ st cs Φ' := fun A hA O E s H S =>
  wpAny_mono (h A hA O E s H S) (fun f s₁ ⟨fl, ρ', st', H', h', tk, e, hq, r⟩ => ⟨fl, ρ', st', H', h', tk, e, hp _ _ _ hq, r⟩) fun _ _ e => e

theorem x_pass {pos : Pos} (h : Φ .next ρ st) : EX1 B n env m ρ st (.Pass pos) Φ := fun A hA O E s H S =>
  wpAny_bind (wpAny_standAt (wpAny_pure ⟨.next, ρ, st, H, s.heap, s.toks, rfl, h, .next, S, .refl ..⟩))
theorem x_continue {pos : Pos} (h : Φ .cont ρ st) : EX1 B n env m ρ st (.Continue pos) Φ := fun A hA O E s H S =>
  wpAny_bind (wpAny_standAt (wpAny_pure ⟨.cont, ρ, st, H, s.heap, s.toks, rfl, h, .cont, S, .refl ..⟩))
theorem x_break {pos : Pos} (h : Φ .brk ρ st) : EX1 B n env m ρ st (.Break pos) Φ := fun A hA O E s H S =>
  wpAny_bind (wpAny_standAt (wpAny_pure ⟨.brk, ρ, st, H, s.heap, s.toks, rfl, h, .brk, S, .refl ..⟩))
theorem x_return {e : Expr} {pos : Pos} (h : PM B n env m ρ st e (fun v st' => Φ (.ret v) ρ st')) : EX1 B n env m ρ st (.Return (some e) pos) Φ := fun A hA O E s H S => by
  refine wpAny_Return_some (wpAny_mono (h A hA E s H S) (fun x s₁ q => ?_) fun _ _ e => e)
  obtain ⟨v, st', H', h', tk, rfl, hp, S', cs, r⟩ := q
  exact ⟨.ret v, ρ, st', H', h', tk, rfl, hp, .ret r, S', cs.es⟩
theorem x_return0 {pos : Pos} (h : Φ (.ret .none) ρ st) : EX1 B n env m ρ st (.Return none pos) Φ := fun A hA O E s H S =>
  wpAny_Return_none ⟨.ret .none, ρ, st, H, s.heap, s.toks, rfl, h, .ret .none, S, .refl ..⟩

theorem x_if {t : Expr} {b o : List Stmt} {pos : Pos} {c : Bool} (h1 : PT B n env ρ st t c) (h2 : c = true → EX B n env m ρ st b Φ) (h3 : c = false → EX B n env m ρ st o Φ) : EX1 B n env m ρ st (.If t b o pos) Φ := fun A hA O E s H S => by
  refine wpAny_If (wpAny_mono (h1 A hA E s H S) (fun x s₁ ⟨e1, k1⟩ => ?_) fun _ _ e => e)
  subst e1
  have S₁ := S.keeps (kp_get k1)
  obtain ⟨h', tk, rfl, kp⟩ := k1
  have fin : ∀ cs, EX B n env m ρ st cs Φ → wpAny (model B.prog B.w) A (execs cs env) (fun f s' => ∃ fl ρ' st' H' h' tk, s' = { s with heap := h', toks := tk } ∧ Φ fl ρ' st' ∧ FlRep H' h' f fl ∧ Sim B env ρ' st' H' h' ∧ ES B env m H s.heap H' h') E { s with heap := h', toks := tk } := fun cs hx =>
    wpAny_mono (hx A hA O E _ H S₁) (fun f s₂ q => by
      obtain ⟨fl, ρ'', st'', H'', h'', tk', rfl, hp', hf', S'', es'⟩ := q
      exact ⟨fl, ρ'', st'', H'', h'', tk', rfl, hp', hf', S'', (CS.of_keeps kp).es.trans es' S₁.sb S₁.en.live⟩) fun _ _ e => e
  cases x with
  | true => exact fin b (h2 rfl)
  | false => exact fin o (h3 rfl)

/-- a store of a name -/
theorem es_wrt {H : Hd} {h h' : Heap} {xs : List Str} (kp : ∀ b o, ¬ wrt env xs b → h.get? b = some o → h'.get? b = some o) : ES B env m H h H h' :=
  ⟨⟨[], by simp⟩, rfl, fun _ a b => absurd a b, fun b o hb _ _ e => kp b o (fun hw => hb (wrt_own hw)) e⟩

theorem x_assign {x : Str} {px pos : Pos} {e : Expr} (h : PM B n env m ρ st e (fun v st' => Φ .next (upd ρ x v) st')) (hk : env.kindOf x = some .local ∨ env.kindOf x = some .cell) (hs : swapsWith e (some (.Name x px)) pos.line env = pure false := by rfl) :
    EX1 B n env m ρ st (.Assign [.Name x px] e pos) Φ := fun A hA O E s H S => by
  refine wpAny_Assign_Name (wpAny_mono (h A hA E s H S) (fun y s₁ q => ?_) fun _ _ e => e) hs
  obtain ⟨v, st', H', h', tk, rfl, hp, S', cs, r⟩ := q
  exact st_name (xs := [x]) S' (O.own _) (by simp) hk r fun h'' tk' S'' kp => ⟨.next, _, st', H', h'', tk', rfl, hp, .next, S'', cs.es.trans (es_wrt kp) S'.sb S'.en.live⟩

/-- targets that are no plain name, and the value's own store -/
theorem x_assignT {t : Expr} {pos : Pos} {e : Expr} {xs : List Str} (h : PM B n env m ρ st e (fun v st' => ∃ ρ', PA B n env st' t v xs ρ ρ' ∧ Φ .next ρ' st'))
    (he : (assignEach [t] env).map (·.2) = [assign t env] := by rfl) (hs : swapsWithSole [t] e pos.line env = pure false := by rfl) (hw : swappedStores [t] e env = pure none := by rfl) : EX1 B n env m ρ st (.Assign [t] e pos) Φ := fun A hA O E s H S => by
  refine wpAny_Assign_stores (wpAny_mono (h A hA E s H S) (fun y s₁ q => ?_) fun _ _ e => e) hs hw
  obtain ⟨v, st', H', h', tk, rfl, ⟨ρ', pa, hp⟩, S', cs, r⟩ := q
  rw [he]
  show wpAny _ A (assign t env y) _ _ _
  refine wpAny_mono (pa A hA (O.own _) E _ H' y S' r) (fun _ s₂ q => ?_) fun _ _ e => e
  obtain ⟨h'', tk', rfl, S'', kp⟩ := q
  exact ⟨.next, _, st', H', h'', tk', rfl, hp, .next, S'', cs.es.trans (es_wrt kp) S'.sb S'.en.live⟩

/-- a while by an invariant and a measure -/
theorem x_while {t : Expr} {body : List Stmt} {pos : Pos} (I : Nm → Store → Prop) (μ : Nm → Store → Nat) (h0 : I ρ st)
    (turn : ∀ ρ st, I ρ st → ∃ c, PT B n env ρ st t c ∧ (c = true → EX B n env m ρ st body (fun f ρ' st' => match f with | .next | .cont => I ρ' st' ∧ μ ρ' st' < μ ρ st | .brk => Φ .next ρ' st' | .ret v => Φ (.ret v) ρ' st')) ∧ (c = false → Φ .next ρ st)) :
    EX1 B n env m ρ st (.While t body [] pos) Φ := fun A hA O E s H S => by
  refine wpAny_While (codeAny_whileLoop (fun k s' => ∃ ρ' st' H' h' tk, s' = { s with heap := h', toks := tk } ∧ I ρ' st' ∧ k = μ ρ' st' ∧ Sim B env ρ' st' H' h' ∧ ES B env m H s.heap H' h') ?_ (μ ρ st) ⟨ρ, st, H, s.heap, s.toks, rfl, h0, rfl, S, .refl ..⟩)
  rintro k s' ⟨ρ', st', H', h', tk, rfl, hI, rfl, S', es⟩
  obtain ⟨c, h1, h2, h3⟩ := turn ρ' st' hI
  refine wpAny_mono (h1 A hA _ _ H' S') (fun b s₁ ⟨e1, k1⟩ => ?_) fun _ _ e => e
  subst e1
  have S₁ := S'.keeps (kp_get k1)
  obtain ⟨h₁, tk₁, rfl, kp⟩ := k1
  have es₁ := es.trans ((CS.of_keeps kp).es) S'.sb S'.en.live
  cases b with
  | false => exact wpAny_execs_nil ⟨.next, ρ', st', H', h₁, tk₁, rfl, h3 rfl, .next, S₁, es₁⟩
  | true =>
    refine wpAny_mono (h2 rfl A hA O _ _ H' S₁) (fun f s₂ q => ?_) fun _ _ e => e
    obtain ⟨fl, ρ'', st'', H'', h'', tk', rfl, hp', hf', S'', es'⟩ := q
    have es₂ := es₁.trans es' S₁.sb S₁.en.live
    cases hf' with
    | next => exact ⟨_, hp'.2, ρ'', st'', H'', h'', tk', rfl, hp'.1, rfl, S'', es₂⟩
    | cont => exact ⟨_, hp'.2, ρ'', st'', H'', h'', tk', rfl, hp'.1, rfl, S'', es₂⟩
    | brk => exact ⟨.next, ρ'', st'', H'', h'', tk', rfl, hp', .next, S'', es₂⟩
    | ret r => exact ⟨_, ρ'', st'', H'', h'', tk', rfl, hp', .ret r, S'', es₂⟩
end
end Mine

-- part Gw12
namespace Mine

theorem codeAny_forT {prog : Program} {w : World} {A : Around} {s : Shared} {R : Result → Shared → Prop} {target : Expr} {it : Value} {body orelse : List Stmt} {env : Env} (I : Nat → Shared → Prop)
    (turn : ∀ n s, I n s → wpAny (model prog w) A (pyNext it) (fun r s₁ => match r with
      | none => wpAny (model prog w) A (execs orelse env) (fun f s₃ => R (.ok f) s₃) (notedBy (model prog w) A env fun e s' => R (.error e) s') s₁
      | some v => wpAny (model prog w) A (letOwnedTupleGo target it v) (fun _ s₁ => wpAny (model prog w) A (assign target env v) (fun _ s₂ => wpAny (model prog w) A (execs body env) (fun f s₃ => match f with
          | .next | .cont => ∃ m, m < n ∧ I m s₃
          | .brk => R (.ok .next) s₃
          | .ret v => R (.ok (.ret v)) s₃) (notedBy (model prog w) A env fun e s' => R (.error e) s') s₂) (notedBy (model prog w) A env fun e s' => R (.error e) s') s₁) (notedBy (model prog w) A env fun e s' => R (.error e) s') s₁) (notedBy (model prog w) A env fun e s' => R (.error e) s') s)
    (n : Nat) (h : I n s) : codeAny (model prog w) A (.forLoop target it body orelse env) R s := by
  refine codeAny_loop' rfl I (fun n s hI => ?_) n h
  show wpAny _ _ ((forTurn target it body orelse env).onRaise (fun x => do noteFrame x env; theTreesLotGoes x)) _ _ s
  refine wpAny_noted ?_
  simp only [forTurn]
  refine wpAny_bind (wpAny_standAt (wpAny_bind (wpAny_onRaise (wpAny_mono (turn n s hI) (fun r s₁ h₁ => ?_) fun _ _ h' => wpAny_standAt h'))))
  cases r with
  | none => exact wpAny_pure (.inr ⟨rfl, codeAny_block h₁⟩)
  | some v =>
    refine wpAny_bind (wpAny_mono h₁ (fun _ s₂ h₁ => wpAny_bind (wpAny_mono h₁ (fun _ s₂ h₂ => wpAny_bind (wpAny_mono h₂ (fun f s₃ h₃ => ?_) fun _ _ h' => h')) fun _ _ h' => h')) fun _ _ h' => h')
    cases f with
    | next => exact wpAny_pure (.inl ⟨rfl, h₃⟩)
    | cont => exact wpAny_pure (.inl ⟨rfl, h₃⟩)
    | brk => exact wpAny_pure h₃
    | ret v => exact wpAny_pure h₃

-- an opaque thing becomes a handle
mutual
theorem Rep.move {H : Hd} {a : Addr} {h : Heap} : ∀ {y : Value} {v : V}, Rep ⟨H.hs, [a] ++ H.xs⟩ h y v → Rep ⟨H.hs ++ [a], H.xs⟩ h y v
  | _, _, .none => .none
  | _, _, .bool b => .bool b
  | _, _, .int i t => .int i t
  | _, _, .str s t => .str s t
  | _, _, .tup ha ho hr => .tup (fun hm => ha (hm.elim (fun h => (List.mem_append.mp h).elim .inl fun h => .inr (List.mem_append_left _ h)) fun h => .inr (List.mem_append_right _ h))) ho (RepAll.move hr)
  | _, _, .lst ha ho hr => .lst (fun hm => ha (hm.elim (fun h => (List.mem_append.mp h).elim .inl fun h => .inr (List.mem_append_left _ h)) fun h => .inr (List.mem_append_right _ h))) ho (RepAll.move hr)
  | _, _, .ref hk => .ref (by
      have hk' : H.hs[_]? = some _ := hk
      have := (List.getElem?_eq_some_iff.mp hk').1
      show (H.hs ++ [a])[_]? = _
      rw [List.getElem?_append_left this]; exact hk')
  | _, _, .val y => .val y
theorem RepAll.move {H : Hd} {a : Addr} {h : Heap} : ∀ {ys : List Value} {vs : List V}, RepAll ⟨H.hs, [a] ++ H.xs⟩ h ys vs → RepAll ⟨H.hs ++ [a], H.xs⟩ h ys vs
  | _, _, .nil => .nil
  | _, _, .cons hy hr => .cons (Rep.move hy) (RepAll.move hr)
end

section
variable {B : Bs} {n : Nat} {env : Env} {m : Nat} {ρ : Nm} {st : Store} {Φ : Fl → Nm → Store → Prop}

/-- a for over a list or a range, by an invariant -/
theorem x_for {target iter : Expr} {body : List Stmt} {pos : Pos} {vs : List V} {Cond : Store → Prop} {Tg : Expr → Prop} {xs : List Str} (hiter : PI B n env ρ st iter vs Cond Tg true) (htg : Tg target) (I : Nat → Nm → Store → Prop) (h0 : I 0 ρ st)
    (turn : ∀ i v ρ st, vs[i]? = some v → I i ρ st → Cond st ∧ ∃ ρ', PA B n env st target v xs ρ ρ' ∧ EX B n env m ρ' st body (fun f ρ' st' => match f with | .next | .cont => I (i + 1) ρ' st' | .brk => Φ .next ρ' st' | .ret v => Φ (.ret v) ρ' st'))
    (done : ∀ ρ st, I vs.length ρ st → Cond st ∧ Φ .next ρ st) (hs : ∀ x, foldedSetIterable iter env x = pure x := by intro _; rfl) :
    EX1 B n env m ρ st (.For target iter body [] pos) Φ := fun A hA O E s H S => by
  refine wpAny_For (wpAny_mono (hiter A hA E s H S) (fun xv s₁ ⟨k1, q1⟩ => wpAny_mono q1 (fun it s₂ q2 => ?_) fun _ _ e => e) fun _ _ e => e) hs
  obtain ⟨k2, X, wr, fp, St, IT, hc, hX, hst, hnew⟩ := q2
  have hX := hX rfl
  subst hX
  have hnewB : ∀ b ∈ fp, B.free b := fun b hb => S.base.free (hnew b (.inl hb))
  have hst0 : St H 0 s₂.heap := hst
  have S₂ := S.keeps (kp_get k2)
  have hfpown : ∀ b ∈ fp, b ∉ own env := fun b hb ho => by
    obtain ⟨o, e⟩ := S.en.live b ho
    rw [hnew b (.inl hb)] at e; cases e
  have hfpH : ∀ b ∈ fp, ¬ H.has b := fun b hb ho => by
    obtain ⟨o, e, _⟩ := S.sto.live b ho
    rw [hnew b (.inl hb)] at e; cases e
  obtain ⟨h₂, tk₂, rfl, kp2⟩ := k2
  have es0 : ES B env m H s.heap H h₂ := (CS.of_keeps kp2).es
  refine codeAny_forT (fun k s' => ∃ i ρ' st' H' h' tk, s' = { s with heap := h', toks := tk } ∧ k = vs.length + 1 - i ∧ i ≤ vs.length ∧ I i ρ' st' ∧ Sim B env ρ' st' H' h' ∧ St H' i h' ∧ ES B env m H s.heap H' h' ∧ (∀ b ∈ fp, ¬ H'.has b)) ?_ (vs.length + 1) ⟨0, ρ, st, H, h₂, tk₂, rfl, rfl, Nat.zero_le _, h0, S₂, hst0, es0, hfpH⟩
  rintro k s' ⟨i, ρ', st', H', h', tk, rfl, rfl, hi, hI, S', hst', es, hfpH'⟩
  have hwr : ∀ b ∈ wr, b ∉ ([] : List Addr) → ∃ o fs, h'.get? b = some o ∧ o.data = .fields fs ∧ ¬ CodeO o := fun b hb hx => by
    obtain ⟨o, ho, hf⟩ := IT.wrObj _ _ _ b hst' (IT.sub b hb)
    obtain ⟨⟨fs, hfs⟩, hc⟩ := hf hb hx
    exact ⟨o, fs, ho, hfs, hc⟩
  have esw : ∀ {h₁ : Heap}, (∀ b o, b ∉ wr → h'.get? b = some o → h₁.get? b = some o) → ES B env m H s.heap H' h₁ := fun {h₁} kp' =>
    ⟨es.pre, es.xs, es.new, fun b o hb hm hx e => kp' b o (fun hw => by rw [hnew b (.inl (IT.sub b hw))] at e; cases e) (es.keep b o hb hm hx e)⟩
  cases hv : vs[i]? with
  | none =>
    have hlen : i = vs.length := Nat.le_antisymm hi (List.getElem?_eq_none_iff.mp hv)
    subst hlen
    obtain ⟨hcond, hfin⟩ := done ρ' st' hI
    refine wpAny_mono (IT.done A hA _ { s with heap := h', toks := tk } H' st' (fun s₁ => ∃ h₁ tk₁, s₁ = { s with heap := h₁, toks := tk₁ } ∧ (∀ b o, b ∉ wr → h'.get? b = some o → h₁.get? b = some o)) hcond S'.sb (by simp) hst' fun h₁ tk₁ kp' => ⟨h₁, tk₁, rfl, kp'⟩) (fun r s₁ q => ?_) fun _ _ e => e
    obtain ⟨rfl, h₁, tk₁, rfl, kp'⟩ := q
    obtain ⟨S₁, dk⟩ := sim_wr S' (X := []) (by simp) hwr (by simp) (fun b hb => hnewB b (IT.sub b hb)) kp'
    exact wpAny_execs_nil ⟨.next, ρ', st', H', h₁, tk₁, rfl, hfin, .next, S₁, esw kp'⟩
  | some v =>
    have hlt : i < vs.length := (List.getElem?_eq_some_iff.mp hv).1
    obtain ⟨hcond, ρ₁, pa, hx⟩ := turn i v ρ' st' hv hI
    refine wpAny_mono (IT.item A hA (notedBy (model B.prog B.w) A env fun e s' => cameBackBy (model B.prog B.w) A env E e s') { s with heap := h', toks := tk } H' st' i v target (fun x s₁ => ∃ h₁ tk₁, s₁ = { s with heap := h₁, toks := tk₁ } ∧ St H' (i + 1) h₁ ∧ (∀ b o, b ∉ wr → h'.get? b = some o → h₁.get? b = some o) ∧ Rep H' h₁ x v) hcond htg S'.sb (by simp) hst' hv fun x h₁ tk₁ a1 a2 a3 => ⟨h₁, tk₁, rfl, a1, a2, a3⟩) (fun r s₁ q => ?_) fun _ _ e => e
    obtain ⟨x, rfl, q⟩ := q
    refine wpAny_mono q (fun _ s₂ q => ?_) fun _ _ e => e
    obtain ⟨h₁, tk₁, rfl, hst₁, kp', r₁⟩ := q
    obtain ⟨S₁, dk₁⟩ := sim_wr S' (X := []) (by simp) hwr (by simp) (fun b hb => hnewB b (IT.sub b hb)) kp'
    refine wpAny_mono (pa A hA (O.own _) _ _ _ x S₁ r₁) (fun _ s₂ q => ?_) fun _ _ e => e
    obtain ⟨h₂', tk₂', rfl, S₂', kp₂⟩ := q
    have es₂ : ES B env m H s.heap H' h₂' := ⟨es.pre, es.xs, es.new, fun b o hb hm hx e => kp₂ b o (fun hw => hb (wrt_own hw)) ((esw kp').keep b o hb hm hx e)⟩
    have hst₂ : St H' (i + 1) h₂' := IT.frame _ _ _ _ _ hst₁ (wrt_dk S₁.en kp₂) fun b hb o e => kp₂ b o (fun hw => hfpown b hb (wrt_own hw)) e
    refine wpAny_mono (hx A hA O _ _ H' S₂') (fun f s₃ q => ?_) fun _ _ e => e
    obtain ⟨fl, ρ₃, st₃, H₃, h₃, tk₃, rfl, hp, hf, S₃, es₃⟩ := q
    have es₄ := es₂.trans es₃ S₂'.sb S₂'.en.live
    have hst₃ : St H₃ (i + 1) h₃ := IT.frame _ _ _ _ _ hst₂ (es₃.dk S₂'.en) fun b hb o e => es₃.keep b o (hfpown b hb) (fun k _ hk => hfpH' b hb (.inl (List.mem_of_getElem? hk))) (fun hx => (hnewB b hb).2 hx.1) e
    have hfp₃ : ∀ b ∈ fp, ¬ H₃.has b := fun b hb hh => by
      obtain ⟨o, ho, _⟩ := IT.wrObj _ _ _ b hst₂ hb
      have := es₃.new b hh (hfpH' b hb)
      rw [ho] at this; cases this
    cases hf with
    | next => exact ⟨vs.length + 1 - (i + 1), by omega, i + 1, ρ₃, st₃, H₃, h₃, tk₃, rfl, rfl, hlt, hp, S₃, hst₃, es₄, hfp₃⟩
    | cont => exact ⟨vs.length + 1 - (i + 1), by omega, i + 1, ρ₃, st₃, H₃, h₃, tk₃, rfl, rfl, hlt, hp, S₃, hst₃, es₄, hfp₃⟩
    | brk => exact ⟨.next, ρ₃, st₃, H₃, h₃, tk₃, rfl, hp, .next, S₃, es₄⟩
    | ret r => exact ⟨_, ρ₃, st₃, H₃, h₃, tk₃, rfl, hp, .ret r, S₃, es₄⟩

/-- a new mutable list: the frame and the store with it -/
theorem sim_new {H : Hd} {h h' : Heap} {a : Addr} {xs : Array Value} {q : Nat} {l : List V} (S : Sim B env ρ st H h) (kp : KH B h h') (ha : h.get? a = none) (ho : h'.get? a = some (lisObj xs q)) (hr : RepAll ⟨H.hs ++ [a], H.xs⟩ h' xs.toList l) :
    Sim B env ρ (st ++ [l]) ⟨H.hs ++ [a], H.xs⟩ h' ∧ CS B m H h ⟨H.hs ++ [a], H.xs⟩ h' ∧ Rep ⟨H.hs ++ [a], H.xs⟩ h' (.ref a) (.ref st.length) := by
  have haH : ¬ H.has a := fun hh => by obtain ⟨o, e, _⟩ := S.sto.live a hh; rw [ha] at e; cases e
  have new : ∀ b, (⟨H.hs ++ [a], H.xs⟩ : Hd).has b → ¬ H.has b → h.get? b = none := fun b hb hn => by
    rcases hb with hb | hb
    · rcases List.mem_append.mp hb with hb | hb
      · exact absurd (.inl hb) hn
      · cases List.mem_singleton.mp hb; exact ha
    · exact absurd (.inr hb) hn
  have cs : CS B m H h ⟨H.hs ++ [a], H.xs⟩ h' := ⟨⟨[a], rfl⟩, rfl, new, fun b o _ hx e => kp.keep b o hx e⟩
  have hat : (H.hs ++ [a])[st.length]? = some a := by rw [← S.sto.len]; simp
  refine ⟨⟨⟨fun b o e => kp.keep b o (ex_h0 e) (S.base.keep b o e), fun b hb => ?_, kp.tab S.base.tab⟩, ⟨by simp [S.sto.len], ?_, fun k b l' hb hl => ?_, fun b hb => ?_, fun b hb => ?_⟩, S.en.ext kp cs.dk⟩, cs, .ref hat⟩
  · by_cases hh : H.has b
    · exact S.base.new b hh
    · exact S.base.free (new b hb hh)
  · refine List.nodup_append.mpr ⟨S.sto.nd, by simp, fun x hx y hy e => ?_⟩
    cases List.mem_singleton.mp hy
    exact haH (.inl (e ▸ hx))
  · by_cases hk : k < H.hs.length
    · have hb' : (H.hs ++ [a])[k]? = some b := hb
      rw [List.getElem?_append_left hk] at hb'
      rw [List.getElem?_append_left (S.sto.len ▸ hk)] at hl
      obtain ⟨vs, q', ho', hr'⟩ := S.sto.at_ k b l' hb' hl
      exact ⟨vs, q', kp.seq (isSeq_lis ..) ho', hr'.ext cs.dk⟩
    · have hb' : (H.hs ++ [a])[k]? = some b := hb
      have hkl := (List.getElem?_eq_some_iff.mp hb').1
      have hke : k = H.hs.length := by simp at hkl; omega
      subst hke
      simp at hb'
      subst hb'
      rw [S.sto.len] at hl
      simp at hl
      subst hl
      exact ⟨xs, q, ho, hr⟩
  · by_cases hh : H.has b
    · obtain ⟨o, e, hs⟩ := S.sto.live b hh; exact ⟨o, kp.seq hs e, hs⟩
    · rcases hb with hb | hb
      · rcases List.mem_append.mp hb with hb | hb
        · exact absurd (.inl hb) hh
        · cases List.mem_singleton.mp hb; exact ⟨_, ho, isSeq_lis ..⟩
      · exact absurd (.inr hb) hh
  · intro hm
    rcases List.mem_append.mp hm with hm | hm
    · exact S.sto.dj b hb hm
    · cases List.mem_singleton.mp hm; exact haH (.inr hb)

/-- a list display as a new mutable list -/
theorem pm_list {es : List Expr} {pos : Pos} {vs : List V} {Ψ : V → Store → Prop} (h1 : PEs B n env ρ st es vs) (hp : Ψ (.ref st.length) (st ++ [vs])) (hsz : vs.length ≤ sizeLine := by simp [sizeLine]) : PM B n env m ρ st (.List es pos) Ψ := fun A hA E s H S => by
  refine List_ (wpAny_mono (h1 A hA E s H pos S) (fun xs s₁ ⟨k1, r1⟩ => ?_) fun _ _ e => e)
  have S1 := S.keeps (kp_get k1)
  have hnone : s₁.heap.get? s₁.heap.objs.size = none := by
    cases e : s₁.heap.get? s₁.heap.objs.size with
    | none => rfl
    | some o => exact absurd (Heap.lt_size e) (Nat.lt_irrefl _)
  refine wpAny_newObj_type ?_ (by show xs.toArray.size ≤ sizeLine; rw [List.size_toArray, r1.length]; exact hsz)
  have kp := kp_get (kp_push (B := B) s₁ { cls := .type "list", data := .seq xs.toArray })
  have hr : RepAll ⟨H.hs ++ [s₁.heap.objs.size], H.xs⟩ (s₁.heap.push { cls := .type "list", data := .seq xs.toArray }) xs vs := r1.ext ⟨⟨[s₁.heap.objs.size], rfl⟩, fun b hb hn => by
    rcases hb with hb | hb
    · rcases List.mem_append.mp hb with hb | hb
      · exact absurd (.inl hb) hn
      · cases List.mem_singleton.mp hb; exact hnone
    · exact absurd (.inr hb) hn, fun b o _ hs e => kp.seq hs e⟩
  obtain ⟨S2, cs, r⟩ := sim_new (m := m) S1 kp hnone (Heap.get?_push_size _ rfl) (l := vs) (by simpa using hr)
  obtain ⟨h₁, tk₁, rfl, kp1⟩ := k1
  exact ⟨_, _, _, _, tk₁, rfl, hp, S2, (CS.of_keeps kp1).trans cs S1.sb, r⟩

/-- a comprehension's list as a new mutable one, assigned to a name; both orders of the stores -/
theorem pm_comp0 {elt target iter : Expr} {ifs : List Expr} {scope : Scope} {pos : Pos} {vs : List V} {Cond : Store → Prop} {Tg : Expr → Prop} {pl : Bool} {xs : List Str} {Ψ : V → Store → Prop} (hiter : PI B n env ρ st iter vs Cond Tg pl) (htg : Tg target) (ok : okScope env scope = true) (hxs : ∀ x ∈ xs, scope.names.lookup x = some .local ∨ scope.names.lookup x = some .cell)
    (outs : List (List V)) (hlen : outs.length = vs.length)
    (hturn : ∀ (i : Nat) v out, vs[i]? = some v → outs[i]? = some out → ∀ C, ∃ ρ' p w, PA B n (cEnv scope C env) st target v xs (restr scope ρ) ρ' ∧ PTs B n (cEnv scope C env) ρ' st ifs p ∧ (p = true → PE B n (cEnv scope C env) ρ' st elt w) ∧ out = (if p then [w] else []) ∧ ∀ y u, restr scope ρ y = some u → ρ' y = some u)
    (hsz : (outs.flatten).length ≤ sizeLine) (hp : Ψ (.ref st.length) (st ++ [outs.flatten])) (hs : ∀ x, foldedSetIterable iter env x = pure x := by intro _; rfl) :
    PM B n env m ρ st (.ListComp elt [⟨target, iter, ifs, 0⟩] scope pos) Ψ := fun A hA E s H S => by
  obtain ⟨f1, f2, f3⟩ := okScope_facts ok
  rw [eval_ListComp]
  refine wpAny_comprehension_free (use := none) rfl hs (hclos_of S.en ok) f1 (hnames_of f2) (comp_block1 (RR := fun acc C => compPost (model B.prog B.w) A E none _ acc C) hA S hiter htg ok hxs outs hlen hturn hsz ?_)
  intro D C h' tk q hD hC hDC hn acc kp
  refine ⟨q, hn, fun h'' hs'' => ?_⟩
  obtain ⟨⟨vs', q, ho, hr⟩, hDH⟩ := accAt_end S.sto hD hDC hn acc hs''
  have kp' : KH B s.heap h'' := kp.but hC hn hs''
  obtain ⟨S2, cs, r⟩ := sim_new (m := m) S kp' hD ho (l := outs.flatten) (hr.move)
  exact ⟨_, _, _, h'', tk, rfl, hp, S2, cs, r⟩
end
end Mine

-- part Gw13
namespace Mine

theorem wpAny_setItem_lis {prog : Program} {w : World} {A : Around} {E : Value → Shared → Prop} {s : Shared} {l : Addr} {vs : Array Value} {n : Nat} {k : Int} {t : Tok} {v : Value} {Q : Unit → Shared → Prop} (ho : s.heap.get? l = some (lisObj vs n)) (h0 : 0 ≤ k) (hfit : k < 2 ^ 63) (hn : k < vs.size)
    (hQ : ∀ h' n', h'.get? l = some (lisObj (vs.setIfInBounds k.toNat v) n') → Heap.SameBut l s.heap h' → Q () { s with heap := h' }) : wpAny (model prog w) A (setItem (.ref l) (.int k t) v) Q E s := by
  have hl := isList_of ho
  unfold setItem
  refine wpAny_holding ?_
  refine wpAny_bind (wpAny_sequenceKey hl.typeIs (by decide) ?_)
  refine wpAny_bind (wpAny_callSpecial?_slot (name := Str.ofString "__setitem__") hl.typeIs slot_list_setitem (wpAny_call_entry slot_list_setitem hl.typeIs entry_list_setitem ?_ (args_list_setitem _ _ _)))
  show wpAny _ _ (Builtin.List.listSubscript? (.int k t) >>= _) _ _ s
  refine wpAny_bind (wpAny_listSubscript_int (fitsIndex_of h0 hfit) ?_)
  obtain ⟨j, rfl⟩ := Int.eq_ofNat_of_zero_le h0
  have hx' : vs[j]? = some (vs[j]'(by omega)) := Array.getElem?_eq_getElem _
  show wpAny _ _ ((seqItemAt l j >>= fun r => pure (r.map (j, ·))) >>= _) _ _ s
  refine wpAny_bind (wpAny_bind (wpAny_seqItemAt ho rfl (wpAny_pure ?_)))
  rw [hx']
  show wpAny _ _ (setSeqItemAt l j v >>= _) _ _ s
  obtain ⟨n', ho'⟩ := upd_lis ho (·.setIfInBounds j v)
  refine wpAny_bind (wpAny_setSeqItemAt ho rfl ?_)
  first
    | exact wpAny_bind (wpAny_pure (wpAny_pure ⟨.none, rfl, wpAny_pure (hQ _ n' ho' (Heap.SameBut.update ..))⟩))
    | exact wpAny_pure ⟨.none, rfl, wpAny_pure (hQ _ n' ho' (Heap.SameBut.update ..))⟩

/-- an operation upon values that may change the store -/
def OM (B : Bs) (n : Nat) (m : Nat) (st : Store) (t : List Value → Sem Value) (vs : List V) (Ψ : V → Store → Prop) : Prop :=
  ∀ A, Rm n A → ∀ E s H xs, SB B st H s.heap → RepAll H s.heap xs vs →
    wpAny (model B.prog B.w) A (t xs) (fun z s' => ∃ v st' H' h' tk, s' = { s with heap := h', toks := tk } ∧ Ψ v st' ∧ SB B st' H' h' ∧ CS B m H s.heap H' h' ∧ Rep H' h' z v) E s

/-- arguments that may make mutable lists -/
def PMs (B : Bs) (n : Nat) (env : Env) (m : Nat) (ρ : Nm) (st : Store) (es : List Expr) (Ψ : List V → Store → Prop) : Prop :=
  ∀ A, Rm n A → ∀ E s H pos, Sim B env ρ st H s.heap →
    wpAny (model B.prog B.w) A (spliced (backTo pos (starEach es env))) (fun xs s' => ∃ vs st' H' h' tk, s' = { s with heap := h', toks := tk } ∧ Ψ vs st' ∧ Sim B env ρ st' H' h' ∧ CS B m H s.heap H' h' ∧ RepAll H' h' xs vs) E s

theorem EnvRep.cs {B : Bs} {env : Env} {ρ : Nm} {m : Nat} {st : Store} {H H' : Hd} {h h' : Heap} (x : EnvRep env ρ H h) (S : SimH H st h) (c : CS B m H h H' h') : EnvRep env ρ H' h' := by
  have kp : ∀ b o, ¬ IsSeq o → ¬ TabO o → h.get? b = some o → h'.get? b = some o := fun b o hn ht e => c.keep b o (fun k _ hk => by
    obtain ⟨o', e', hs⟩ := S.live b (.inl (List.mem_of_getElem? hk))
    rw [e] at e'; cases e'; exact hn hs) (fun hx => ht hx.2) e
  have kc : ∀ {a : Addr} {v : Option Value}, h.IsCell a v → h'.IsCell a v := fun ⟨o, ho, hd⟩ => ⟨o, kp _ o (by rintro ⟨_, _, e⟩; rw [hd] at e; cases e) (by rintro ⟨_, _, e⟩; rw [hd] at e; cases e) ho, hd⟩
  refine ⟨x.kind, x.gl, x.bi, ?_, fun y v hy hv => ?_, fun y a ha => ?_, x.has, x.apart⟩
  · obtain ⟨q, hm, hr⟩ := x.loc
    refine ⟨q, hm.at' fun o e => ?_, fun y v hy hv => let ⟨z, hz, r⟩ := hr y v hy hv; ⟨z, hz, r.ext c.dk⟩⟩
    obtain ⟨o', es, ep, ho', hd, _⟩ := hm
    rw [e] at ho'; cases ho'
    exact kp _ o (by rintro ⟨_, _, e⟩; rw [hd] at e; cases e) (by rintro ⟨_, _, e⟩; rw [hd] at e; cases e) e
  · obtain ⟨a, z, h1, h2, h3⟩ := x.cell y v hy hv
    exact ⟨a, z, h1, kc h2, h3.ext c.dk⟩
  · obtain ⟨v, hv⟩ := x.cells y a ha
    exact ⟨v, kc hv⟩

section
variable {B : Bs} {n : Nat} {env : Env} {m : Nat} {ρ : Nm} {st : Store} {Φ : Fl → Nm → Store → Prop} {Ψ : V → Store → Prop}

theorem PM.mono {e : Expr} {Ψ' : V → Store → Prop} (h : PM B n env m ρ st e Ψ) (hp : ∀ v st, Ψ v st → Ψ' v st) : PM B n env m ρ st e Ψ' := fun A hA E s H S =>
  wpAny_mono (h A hA E s H S) (fun f s₁ ⟨v, st', H', h', tk, e, hq, r⟩ => ⟨v, st', H', h', tk, e, hp _ _ hq, r⟩) fun _ _ e => e

theorem pms_nil {Ψ : List V → Store → Prop} (h : Ψ [] st) : PMs B n env m ρ st [] Ψ := fun A hA E s H pos S => args_nil ⟨[], st, H, s.heap, s.toks, rfl, h, S, .refl .., .nil⟩
theorem pms_cons {e : Expr} {es : List Expr} {Ψ : List V → Store → Prop} (h1 : PM B n env m ρ st e (fun v st' => PMs B n env m ρ st' es (fun vs st'' => Ψ (v :: vs) st'')))
    (he : starEach (e :: es) env = (false, eval e env) :: starEach es env := by rfl) : PMs B n env m ρ st (e :: es) Ψ := fun A hA E s H pos S => by
  refine args_cons (wpAny_mono (h1 A hA E s H S) (fun x s₁ q => ?_) fun _ _ e => e) he
  obtain ⟨v, st', H', h', tk, rfl, hp, S', cs, r⟩ := q
  refine wpAny_mono (hp A hA E _ H' pos S') (fun xs s₂ q => ?_) fun _ _ e => e
  obtain ⟨vs, st'', H'', h'', tk', rfl, hp', S'', cs', r'⟩ := q
  exact ⟨v :: vs, st'', H'', h'', tk', rfl, hp', S'', cs.trans cs' S'.sb, .cons (r.ext cs'.dk) r'⟩
theorem PEs.pms {es : List Expr} {vs : List V} {Ψ : List V → Store → Prop} (h : PEs B n env ρ st es vs) (hp : Ψ vs st) : PMs B n env m ρ st es Ψ := fun A hA E s H pos S => by
  refine wpAny_mono (h A hA E s H pos S) (fun x s₁ ⟨k, r⟩ => ?_) fun _ _ e => e
  have S₁ := S.keeps (kp_get k)
  obtain ⟨h', tk, rfl, kp⟩ := k
  exact ⟨vs, st, H, h', tk, rfl, hp, S₁, .of_keeps kp, r⟩
theorem PL.om {t : List Value → Sem Value} {as : List V} {c : V} (h : PL B n st t as c) (hp : Ψ c st) : OM B n m st t as Ψ := fun A hA E s H xs S r => by
  refine wpAny_mono (h A hA E s H xs S r) (fun x s₁ ⟨k, r⟩ => ?_) fun _ _ e => e
  have S₁ := S.keeps (kp_get k)
  obtain ⟨h', tk, rfl, kp⟩ := k
  exact ⟨c, st, H, h', tk, rfl, hp, S₁, .of_keeps kp, r⟩

theorem pm_tuple {es : List Expr} {k : Nat} {pos : Pos} (h1 : PMs B n env m ρ st es (fun vs st' => vs.length ≤ sizeLine ∧ Ψ (.tup vs) st')) : PM B n env m ρ st (.Tuple es k pos) Ψ := fun A hA E s H S => by
  refine Tuple_ (wpAny_mono (h1 A hA E s H pos S) (fun xs s₁ q => ?_) fun _ _ e => e)
  obtain ⟨vs, st', H', h', tk, rfl, ⟨hsz, hp⟩, S', cs, r⟩ := q
  have kp := kp_get (kp_push (B := B) { s with heap := h', toks := tk } { cls := .type "tuple", data := .seq xs.toArray })
  refine wpAny_newObj_type ⟨.tup vs, st', H', _, tk, rfl, hp, S'.keeps kp, cs.trans (.of_keeps kp) S'.sb, .tup (vs := xs.toArray) (n := 0) (notMem_size S'.sto) (Heap.get?_push_size _ rfl) (r.ext (.of_keeps kp))⟩ (by show xs.toArray.size ≤ sizeLine; rw [List.size_toArray, r.length]; exact hsz)

/-- the call's end under the frame -/
theorem om_pm {A : Around} {E : Value → Shared → Prop} {s : Shared} {H H₁ : Hd} {h₁ : Heap} {tk₁ : Nat} {st₁ : Store} {t : List Value → Sem Value} {vs : List V} {xs : List Value} (hA : Rm n A) (h : OM B n m st₁ t vs Ψ) (S₁ : Sim B env ρ st₁ H₁ h₁) (cs : CS B m H s.heap H₁ h₁) (r : RepAll H₁ h₁ xs vs) :
    wpAny (model B.prog B.w) A (t xs) (fun x s' => ∃ v st' H' h' tk, s' = { s with heap := h', toks := tk } ∧ Ψ v st' ∧ Sim B env ρ st' H' h' ∧ CS B m H s.heap H' h' ∧ Rep H' h' x v) E { s with heap := h₁, toks := tk₁ } := by
  refine wpAny_mono (h A hA E { s with heap := h₁, toks := tk₁ } H₁ xs S₁.sb r) (fun x s₂ q => ?_) fun _ _ e => e
  obtain ⟨v, st', H', h', tk, rfl, hp, SB', cs', r'⟩ := q
  exact ⟨v, st', H', h', tk, rfl, hp, ⟨SB'.base, SB'.sto, S₁.en.cs S₁.sto cs'⟩, cs.trans cs' S₁.sb, r'⟩

/-- a method of a list -/
theorem pm_meth {o : Expr} {name : Str} {apos cpos : Pos} {e : Expr} {es : List Expr} {id : String} {v₀ : V} {l : List V} (ho : PE B n env ρ st o v₀) (hl : lis st v₀ = some l)
    (ha : PMs B n env m ρ st (e :: es) (fun vs st' => OM B n m st' (fun xs => call (.builtin id) xs) (v₀ :: vs) Ψ)) (slot : Slot "list" name id) (hty : typeOf (.builtin id) = pure (.type "method_descriptor"))
    (hbase : attributeBase o name env (eval o env) = eval o env := by rfl)
    (hfew : ((backTo cpos (starEach (e :: es) env)).all (fun x => !x.1) && (backToKw cpos (keywordEach [] env)).all (fun x => x.1.isSome)
      && decide ((e :: es).length + ([] : List Keyword).length + (if ([] : List Keyword).isEmpty then 0 else 1) < 30)) = true := by rfl)
    (hline : (apos.endLine == cpos.line) = true := by rfl) (he : starEach (e :: es) env = (false, eval e env) :: starEach es env := by rfl) (hplain : (backTo cpos (starEach es env)).any (·.1) = false := by rfl) :
    PM B n env m ρ st (.Call (.Attribute o name apos) (e :: es) [] cpos) Ψ := fun A hA E s H S => by
  refine wpAny_Call_method hbase hfew hline F.plainAttrs_list slot hty (wpAny_mono (ho A hA E s H S) (fun ov s₁ ⟨k1, r1⟩ => ?_) fun _ _ e => e)
  have S₁ := S.keeps (kp_get k1)
  obtain ⟨ad, vs, q, rfl, hob, hr⟩ := lis_at (B := B) S₁.sto r1 hl
  refine ⟨(isList_of hob).typeIs, fun a ha => by cases ha; exact ⟨_, hob, rfl⟩, ?_⟩
  refine callWith_method1 (wpAny_mono (ha A hA E s₁ H cpos S₁) (fun xs s₂ q => ?_) fun _ _ e => e) he hplain
  obtain ⟨vs, st', H', h', tk, rfl, hp, S', cs, r⟩ := q
  obtain ⟨h₁, tk₁, rfl, kp⟩ := k1
  exact om_pm (s := s) (xs := .ref ad :: xs) hA hp S' ((CS.of_keeps kp).trans cs S₁.sb) (.cons (r1.ext cs.dk) r)

/-- a handle's list is changed -/
theorem sb_set {H : Hd} {h h' : Heap} {a : Addr} {k : Nat} {ws : Array Value} {q : Nat} {l' : List V} (S : SB B st H h) (hk : H.hs[k]? = some a) (ho' : h'.get? a = some (lisObj ws q)) (kp : ∀ b o, b ≠ a → h.get? b = some o → h'.get? b = some o) (hr : RepAll H h ws.toList l') (hm : m ≤ k) :
    SB B (st.set k l') H h' ∧ CS B m H h H h' := by
  have ha : H.has a := .inl (List.mem_of_getElem? hk)
  have cs : CS B m H h H h' := ⟨⟨[], by simp⟩, rfl, fun _ h1 h2 => absurd h1 h2, fun b o hb _ e => kp b o (fun e' => hb k hm (e' ▸ hk)) e⟩
  refine ⟨⟨base_ne S.base (W := (· = a)) (fun b o hb e => kp b o hb e) (fun b hb => hb ▸ S.base.new _ ha) (fun b o hb e => by subst hb; obtain ⟨o', e', hs'⟩ := S.sto.live _ ha; rw [e] at e'; cases e'; exact seq_notCode hs'), ⟨by simp [S.sto.len], S.sto.nd, fun j b l hj hl => ?_, fun b hb => ?_, S.sto.dj⟩⟩, cs⟩
  · by_cases e : j = k
    · subst e
      rw [hk] at hj; cases hj
      rw [List.getElem?_set_self (by rw [← S.sto.len]; exact (List.getElem?_eq_some_iff.mp hk).1)] at hl
      cases hl
      exact ⟨ws, q, ho', hr.ext cs.dk⟩
    · rw [List.getElem?_set_ne (Ne.symm e)] at hl
      obtain ⟨vs, q', ho, hr'⟩ := S.sto.at_ j b l hj hl
      refine ⟨vs, q', kp b _ (fun e' => e ?_) ho, hr'.ext cs.dk⟩
      subst e'
      exact (List.getElem?_inj (List.getElem?_eq_some_iff.mp hj).1 S.sto.nd).mp (hj.trans hk.symm)
  · by_cases e : b = a
    · subst e; exact ⟨_, ho', isSeq_lis ..⟩
    · obtain ⟨o, ho, hs⟩ := S.sto.live b hb; exact ⟨o, kp b o e ho, hs⟩

theorem om_append {k : Nat} {l : List V} {v : V} (hl : st[k]? = some l) (hm : m ≤ k) (hsz : l.length ≤ sizeLine) (hp : Ψ .none (st.set k (l ++ [v]))) : OM B n m st (fun xs => call (.builtin "list.append") xs) [.ref k, v] Ψ := fun A hA E s H xs S r => by
  cases r with
  | cons r1 r =>
    cases r with
    | cons r2 r =>
      cases r
      cases r1 with
      | ref hk =>
        obtain ⟨vs, q, ho, hr⟩ := S.sto.at_ _ _ _ hk hl
        refine wpAny_append_lis ho (by rw [hr.size]; exact hsz) fun h' q' ho' hs => ?_
        obtain ⟨S', cs⟩ := sb_set (m := m) S hk ho' (fun b o hb e => hs.extBut b o hb e) (l' := l ++ [v]) (by simpa using hr.append (.one r2)) hm
        exact ⟨.none, _, H, h', s.toks, rfl, hp, S', cs, .none⟩

theorem om_insert {k : Nat} {l : List V} {v : V} {i : Int} (hl : st[k]? = some l) (hm : m ≤ k) (hsz : l.length ≤ sizeLine) (h0 : 0 ≤ i) (hi : i ≤ l.length) (hp : Ψ .none (st.set k (l.take i.toNat ++ v :: l.drop i.toNat))) : OM B n m st (fun xs => call (.builtin "list.insert") xs) [.ref k, .int i, v] Ψ := fun A hA E s H xs S r => by
  cases r with
  | cons r1 r =>
    cases r with
    | cons r2 r =>
      cases r with
      | @cons y3 _ _ _ r3 r =>
        cases r
        cases r2
        cases r1 with
        | ref hk =>
          obtain ⟨vs, q, ho, hr⟩ := S.sto.at_ _ _ _ hk hl
          have hsize := hr.size
          have hfit : ¬(!Builtin.List.listFitsIndex i) = true := by
            have : i < 2 ^ 63 := by simp [sizeLine] at hsz; omega
            simp [Builtin.List.listFitsIndex]; omega
          refine call_meets F.slot_list_insert (isList_of ho).typeIs F.entry_list_insert (F.args_list_insert_3 _ _ _) (AutoSeq1.list_insert_list_int_val_1 _ vs q i _ _ hfit (by rw [hsize]; exact hsz)) ⟨ho, ?_⟩
          have hneg : ¬ i < 0 := by omega
          have hmin : min i.toNat vs.size = i.toNat := by rw [hsize]; omega
          obtain ⟨q', ho'⟩ := upd_lis ho (fun xs : Array Value => have k := if i < 0 then (i + (xs.size : Int)).toNat else min i.toNat xs.size; (xs.extract 0 k).push y3 ++ xs.extract k)
          have hrr : RepAll H s.heap ((vs.extract 0 i.toNat).push y3 ++ vs.extract i.toNat).toList (l.take i.toNat ++ v :: l.drop i.toNat) := by
            have e1 : ((vs.extract 0 i.toNat).push y3 ++ vs.extract i.toNat).toList = vs.toList.take i.toNat ++ y3 :: vs.toList.drop i.toNat := by
              simp [Array.toList_extract, List.extract]
              exact List.take_of_length_le (by simp)
            rw [e1]
            exact (hr.take _).append (.cons r3 (hr.drop _))
          have e2 : (fun xs : Array Value => have k := if i < 0 then (i + (xs.size : Int)).toNat else min i.toNat xs.size; (xs.extract 0 k).push y3 ++ xs.extract k) vs = (vs.extract 0 i.toNat).push y3 ++ vs.extract i.toNat := by
            simp only [hneg, if_false, hmin]
          obtain ⟨S', cs⟩ := sb_set (m := m) S hk (ws := (vs.extract 0 i.toNat).push y3 ++ vs.extract i.toNat) (q := q') (by rw [← e2]; exact ho') (fun b o hb e => (Heap.SameBut.update ..).extBut b o hb e) hrr hm
          exact ⟨.none, _, H, _, s.toks, rfl, hp, S', cs, .none⟩

/-- an expression as a statement -/
theorem x_expr {e : Expr} {pos : Pos} (h : PM B n env m ρ st e (fun _ st' => Φ .next ρ st')) (hs : swapsWith e none pos.line env = pure false := by rfl) : EX1 B n env m ρ st (.Expr e pos) Φ := fun A hA O E s H S => by
  refine wpAny_Expr_any (wpAny_mono (h A hA E s H S) (fun x s₁ q => ?_) fun _ _ e => e) (by unfold interactive; rw [S.en.kind]; rfl) hs
  obtain ⟨v, st', H', h', tk, rfl, hp, S', cs, r⟩ := q
  exact ⟨.next, ρ, st', H', h', tk, rfl, hp, .next, S', cs.es⟩

/-- an item is stored: the value first, then the list and the place, which are pure -/
theorem x_setitem {o i e : Expr} {sp pos : Pos} (h : PM B n env m ρ st e (fun v st' => ∃ k l j, PE B n env ρ st' o (.ref k) ∧ st'[k]? = some l ∧ PE B n env ρ st' i (.int j) ∧ 0 ≤ j ∧ j < l.length ∧ l.length < 2 ^ 62 ∧ m ≤ k ∧ Φ .next ρ (st'.set k (l.set j.toNat v))))
    (hs : swapsWith e (some (.Subscript o i sp)) pos.line env = pure false := by rfl) : EX1 B n env m ρ st (.Assign [.Subscript o i sp] e pos) Φ := fun A hA O E s H S => by
  refine wpAny_Assign_Subscript (wpAny_mono (h A hA E s H S) (fun x s₁ q => ?_) fun _ _ e => e) hs
  obtain ⟨v, st', H', h', tk, rfl, ⟨k, l, j, h1, h2, h3, h4, h5, h6, h7, h8⟩, S', cs, r⟩ := q
  refine wpAny_mono (h1 A hA E _ H' S') (fun ov s₁ ⟨k1, r1⟩ => wpAny_mono (h3 A hA E s₁ H' (S'.keeps (kp_get k1))) (fun iv s₂ ⟨k2, r2⟩ => ?_) fun _ _ e => e) fun _ _ e => e
  have kk := kp_trans k1 k2
  have S₂ := S'.keeps (kp_get kk)
  obtain ⟨h₂, tk₂, rfl, kp⟩ := kk
  cases r2
  cases r1 with
  | ref hk =>
    obtain ⟨vs, q, ho, hr⟩ := S₂.sto.at_ _ _ _ hk h2
    have hsize := hr.size
    refine wpAny_setItem_lis ho h4 (by omega) (by rw [hsize]; omega) fun h₃ q' ho₃ hs₃ => ?_
    obtain ⟨S₃, cs₃⟩ := sb_set (m := m) S₂.sb hk ho₃ (fun b o hb e => hs₃.extBut b o hb e) (l' := l.set j.toNat v) (by simpa using hr.set (r.ext (.of_keeps kp))) h7
    have en₃ := S₂.en.cs S₂.sto cs₃
    exact ⟨.next, ρ, _, H', h₃, tk₂, rfl, h8, .next, ⟨S₃.base, S₃.sto, en₃⟩, ((cs.trans (.of_keeps kp) S'.sb).trans cs₃ S₂.sb).es⟩
end
end Mine

-- part Gw14
namespace Mine

theorem bindL_lookup (kindOf : Str → Option NameKind) : ∀ (binds : List (Str × Value)) (m : Str → Option Value) (x : Str), kindOf x = some .local → (binds.map (·.1)).Nodup → bindL kindOf binds m x = (binds.lookup x).or (m x)
  | [], m, x, _, _ => by simp [bindL]
  | (y, v) :: r, m, x, hx, hn => by
    simp only [List.map_cons, List.nodup_cons] at hn
    unfold bindL
    rw [bindL_lookup kindOf r _ x hx hn.2, List.lookup_cons]
    by_cases e : x = y
    · subst e
      have : r.lookup x = none := by
        cases hq : r.lookup x with
        | none => rfl
        | some c => exact absurd (List.mem_map.mpr ⟨_, mem_of_lookup hq, rfl⟩) hn.1
      simp [this, hx]
    · have e' : (x == y) = false := by simpa using e
      rw [e']
      split
      · simp [e]
      · rfl
theorem bindC_lookup (kindOf : Str → Option NameKind) : ∀ (binds : List (Str × Value)) (m : Str → Option Value) (x : Str), kindOf x ≠ some .local → (binds.map (·.1)).Nodup → bindC kindOf binds m x = (binds.lookup x).or (m x)
  | [], m, x, _, _ => by simp [bindC]
  | (y, v) :: r, m, x, hx, hn => by
    simp only [List.map_cons, List.nodup_cons] at hn
    unfold bindC
    rw [bindC_lookup kindOf r _ x hx hn.2, List.lookup_cons]
    by_cases e : x = y
    · subst e
      have : r.lookup x = none := by
        cases hq : r.lookup x with
        | none => rfl
        | some c => exact absurd (List.mem_map.mpr ⟨_, mem_of_lookup hq, rfl⟩) hn.1
      simp [this, hx]
    · have e' : (x == y) = false := by simpa using e
      rw [e']
      split
      · rfl
      · simp [e]

theorem lookup_zip_rep {H : Hd} {h : Heap} : ∀ {names : List Str} {ys : List Value} {ws : List V} {x : Str} {v : V}, RepAll H h ys ws → (names.zip ws).lookup x = some v → ∃ y, (names.zip ys).lookup x = some y ∧ Rep H h y v
  | [], _, _, _, _, _, hl => by simp at hl
  | nm :: names, ys, ws, x, v, hr, hl => by
    cases hr with
    | nil => simp at hl
    | cons r1 r =>
      simp only [List.zip_cons_cons, List.lookup_cons] at hl ⊢
      cases hx : x == nm with
      | true => rw [hx] at hl; cases hl; exact ⟨_, rfl, r1⟩
      | false => rw [hx] at hl; exact lookup_zip_rep r hl

theorem cellsFrom_lookup : ∀ {m : Nat} {l : List (Str × NameKind)} {x : Str} {c : Addr}, (l.map (·.1)).Nodup → (x, c) ∈ cellsFrom m l [] → (cellsFrom m l []).lookup x = some c
  | m, (y, k) :: r, x, c, hn, h => by
    simp only [List.map_cons, List.nodup_cons] at hn
    unfold cellsFrom at h ⊢
    split at h
    · rename_i hk
      rw [if_pos hk]
      rw [cellsFrom_app] at h ⊢
      rw [List.lookup_append]
      rcases List.mem_append.mp h with h | h
      · rw [cellsFrom_lookup hn.2 h]; rfl
      · obtain ⟨e1, e2⟩ := Prod.mk.inj (List.mem_singleton.mp h)
        subst e1; subst e2
        have : (cellsFrom (c + 1) r []).lookup x = none := by
          cases hq : (cellsFrom (c + 1) r []).lookup x with
          | none => rfl
          | some c' => exact absurd (List.mem_map.mpr ⟨_, cellsFrom_mem (mem_of_lookup hq), rfl⟩) hn.1
        rw [this]; simp [List.lookup_cons]
    · rename_i hk
      rw [if_neg hk]
      exact cellsFrom_lookup hn.2 h

/-- a def of the text -/
structure FnOk (B : Bs) (a : Addr) (fd : FuncData) (body : List Stmt) : Prop where
  at_ : ∃ o, B.K.lookup a = some o ∧ o.data = .func fd
  body : fd.body = .stmts body
  clo : fd.closure = []
  gl : fd.globals = mainGlobals
  bi : fd.builtins = builtinsNs
  cd : B.h₀.CodeRec fd.code fd.qualname
  co : fd.scope.isCoroutine = false
  gen : fd.scope.isGenerator = false
  kind : fd.scope.kind = .function
  nd : nodupB (fd.scope.names.map (·.1)) = true
  nofree : (fd.scope.names.all fun x => x.2 != .free) = true

def paramsOk (scope : Scope) (names : List Str) : Bool := nodupB names && names.all fun x => scope.names.lookup x == some .local || scope.names.lookup x == some .cell

section
variable {B : Bs} {n m : Nat} {st : Store} {Ψ : V → Store → Prop}

/-- room, the caller's frame may be the claim's -/
structure Rm0 (n : Nat) (A : Around) : Prop where
  hd : A.handled = none
  dp : A.depth + n ≤ 890
  un : A.units + 20 * n ≤ 9000
  fr : ∃ l, A.frames = some l
theorem Rm.rm0 {A : Around} (x : Rm n A) : Rm0 n A := ⟨x.hd, x.dp, x.un, let ⟨e, l, h, _⟩ := x.fr; ⟨e :: l, h⟩⟩
theorem Rm0.deeper {n : Nat} {A : Around} (x : Rm0 (n + 1) A) (env : Env) (h1 : env.scope.isGenerator = false) (h2 : env.scope.isCoroutine = false) (h3 : env.builtins = builtinsNs) (h4 : env.globals = mainGlobals) : Rm n (A.deeper env) :=
  ⟨x.hd, by have := x.dp; simp only [Around.deeper]; omega, by have := x.un; simp only [Around.deeper]; omega, by
    obtain ⟨l, hf⟩ := x.fr
    exact ⟨env, l, by simp only [Around.deeper, hf]; rfl, h1, h2, h3, h4⟩⟩

/-- what a call hands back -/
def retOf : Fl → V
  | .ret v => v
  | _ => .none

/-- a call of a def: its body under its own frame -/
theorem fn_core {a : Addr} {fd : FuncData} {body : List Stmt} {names : List Str} {vs ws : List V} {kw : List Value → List (Str × Value)} {pos : List Value → List Value} (F : FnOk B a fd body) (hp : paramsOk fd.scope names = true) (hlen : names.length = ws.length)
    (hb : ∀ H h xs, SB B st H h → RepAll H h xs vs → ∃ ys, (∀ S, peek B.K S (bindArgs fd ⟨pos xs, kw xs⟩) = some (names.zip ys)) ∧ RepAll H h ys ws)
    (hx : ∀ L, EX B n (callEnvC fd L a) m (fun x => (names.zip ws).lookup x) st body (fun fl _ st' => Ψ (retOf fl) st')) :
    ∀ A, Rm0 (n + 1) A → ∀ E s H xs, SB B st H s.heap → RepAll H s.heap xs vs →
    wpAny (model B.prog B.w) A (call (.ref a) (pos xs) (kw xs)) (fun z s' => ∃ v st' H' h' tk, s' = { s with heap := h', toks := tk } ∧ Ψ v st' ∧ SB B st' H' h' ∧ CS B m H s.heap H' h' ∧ Rep H' h' z v) E s := fun A hA E s H xs S r => by
  obtain ⟨o, ho, hdat⟩ := F.at_
  obtain ⟨ys, hbind, hr⟩ := hb H s.heap xs S r
  have hKX : B.K.In s.heap := B.KX.keeps S.base.keep
  refine wpAny_call (codeAny_call_function (by have := hA.dp; simp only [recursionLimit]; omega) (hKX _ _ ho) hdat F.co F.gen F.body (F.cd.keeps S.base.keep) ?_)
  refine (Looks.of_peek (M := model B.prog B.w) hKX (hbind _)).here ?_
  have hplen : names.length = ys.length := by rw [hlen, hr.length]
  have hnm : (names.zip ys).map (·.1) = names := List.map_fst_zip (Nat.le_of_eq hplen)
  simp only [paramsOk, Bool.and_eq_true, List.all_eq_true, Bool.or_eq_true, beq_iff_eq] at hp
  have hnd : ((names.zip ys).map (·.1)).Nodup := by rw [hnm]; exact nodupB_iff hp.1
  have hkinds : ∀ x ∈ names.zip ys, fd.scope.names.lookup x.1 = some .local ∨ (fd.scope.names.lookup x.1 = some .cell ∧ ((cellsFrom (s.heap.objs.size + 1) fd.scope.names []).lookup x.1).isSome = true) := fun x hx => by
    have hx' : x.1 ∈ names := by rw [← hnm]; exact List.mem_map.mpr ⟨x, hx, rfl⟩
    rcases hp.2 _ hx' with h | h
    · exact .inl h
    · obtain ⟨c, hc⟩ := cellsFrom_has (m := s.heap.objs.size + 1) (mem_of_lookup h)
      exact .inr ⟨h, by rw [hc]; rfl⟩
  rw [F.clo]
  refine wpAny_newFunctionEnv_cells F.kind hkinds fun env he s₁ x => ?_
  have he' : env = callEnvC fd s.heap.objs.size a := he
  have hLC : env.locals = s.heap.objs.size := by rw [he']; rfl
  have hcells : env.cells = cellsFrom (s.heap.objs.size + 1) fd.scope.names [] := by rw [he']; rfl
  have hscope : env.scope = fd.scope := by rw [he']; rfl
  obtain ⟨h₁, tk₁, e₁⟩ := x.toInCall.same
  have kp : ∀ b o, s.heap.get? b = some o → s₁.heap.get? b = some o := x.toInCall.keep
  have S₁ := S.keeps (.of kp)
  have hkindOf : ∀ y, env.kindOf y = fd.scope.names.lookup y := fun y => by show env.scope.names.lookup y = _; rw [hscope]
  have newo : ∀ b ∈ own env, s.heap.objs.size ≤ b := fun b hb => by
    rcases List.mem_cons.mp hb with rfl | hb
    · rw [hLC]; exact Nat.le_refl _
    · obtain ⟨p, hp, rfl⟩ := List.mem_map.mp hb
      have := x.above p.1 p.2 hp
      rw [hLC] at this
      exact Nat.le_of_lt this
  have none0 : ∀ b ∈ own env, s.heap.get? b = none := fun b hb => by
    cases e : s.heap.get? b with
    | none => rfl
    | some o => exact absurd (Heap.lt_size e) (Nat.not_lt.mpr (newo b hb))
  have en : EnvRep env (fun x => (names.zip ws).lookup x) H s₁.heap := by
    refine ⟨by rw [hscope]; exact F.kind, by rw [he']; exact F.gl, by rw [he']; exact F.bi, ⟨_, x.toInCall.ns, fun y v hy hv => ?_⟩, fun y v hy hv => ?_, fun y c hc => ?_, fun y hy => ?_, x.apart⟩
    · obtain ⟨z, hz, rz⟩ := lookup_zip_rep hr hv
      refine ⟨z, ?_, rz.ext (.of_full kp)⟩
      rw [bindL_lookup _ _ _ _ hy hnd, hz]; rfl
    · obtain ⟨z, hz, rz⟩ := lookup_zip_rep hr hv
      have hmem : y ∈ names := by rw [← hnm]; exact List.mem_map.mpr ⟨_, mem_of_lookup hz, rfl⟩
      have hcell : fd.scope.names.lookup y = some .cell := by
        rcases hp.2 y hmem with h | h
        · rw [hkindOf, h] at hy; rcases hy with hy | hy <;> cases hy
        · exact h
      obtain ⟨c, hc⟩ := cellsFrom_has (m := s.heap.objs.size + 1) (mem_of_lookup hcell)
      rw [← hcells] at hc
      refine ⟨c, z, hc, ?_, rz.ext (.of_full kp)⟩
      have := x.cell y c hc
      rw [bindC_lookup _ _ _ _ (by rw [hkindOf, hcell]; simp) hnd, hz] at this
      exact this
    · have hl : env.cells.lookup y = some c := by
        rw [hcells] at hc ⊢
        exact cellsFrom_lookup (nodupB_iff F.nd) hc
      exact ⟨_, x.cell y c hl⟩
    · have hcell : fd.scope.names.lookup y = some .cell := by
        rw [hkindOf] at hy
        rcases hy with hy | hy
        · exact hy
        · have := List.all_eq_true.mp F.nofree _ (mem_of_lookup hy)
          simp at this
      obtain ⟨c, hc⟩ := cellsFrom_has (m := s.heap.objs.size + 1) (mem_of_lookup hcell)
      exact ⟨c, by rw [hcells]; exact hc⟩
  have hownF : OwnF B env := fun b hb => S.base.free (none0 b hb)
  refine ⟨B.lim.keeps S₁.base.keep, codeAny_func ?_⟩
  have hA' : Rm n (A.deeper env) := hA.deeper env (by rw [hscope]; exact F.gen) (by rw [hscope]; exact F.co) (by rw [he']; exact F.bi) (by rw [he']; exact F.gl)
  rw [he'] at hA' hownF en
  subst e₁
  rw [he']
  refine wpAny_mono (hx s.heap.objs.size (A.deeper _) hA' hownF _ _ H ⟨S₁.base, S₁.sto, en⟩) (fun f s₂ q => ?_) fun _ _ e => e
  obtain ⟨fl, ρ', st', H', h', tk, rfl, hp', hf, S', es⟩ := q
  refine ⟨retOf fl, st', H', h', tk, rfl, hp', S'.sb, ⟨es.pre, es.xs, fun b hb hn => ?_, fun b o hm hx e => es.keep b o (fun ho => ?_) hm hx (kp b o e)⟩, ?_⟩
  · have := es.new b hb hn
    cases e : s.heap.get? b with
    | none => rfl
    | some o => have e' := kp b o e; rw [this] at e'; cases e'
  · have := none0 b (he' ▸ ho)
    rw [e] at this; cases this
  · cases hf with
    | next => exact .none
    | brk => exact .none
    | cont => exact .none
    | ret r => exact r

theorem fn_om {a : Addr} {fd : FuncData} {body : List Stmt} {names : List Str} {vs ws : List V} {kw : List Value → List (Str × Value)} {pos : List Value → List Value} (F : FnOk B a fd body) (hp : paramsOk fd.scope names = true) (hlen : names.length = ws.length)
    (hb : ∀ H h xs, SB B st H h → RepAll H h xs vs → ∃ ys, (∀ S, peek B.K S (bindArgs fd ⟨pos xs, kw xs⟩) = some (names.zip ys)) ∧ RepAll H h ys ws)
    (hx : ∀ L, EX B n (callEnvC fd L a) m (fun x => (names.zip ws).lookup x) st body (fun fl _ st' => Ψ (retOf fl) st')) :
    OM B (n + 1) m st (fun xs => call (.ref a) (pos xs) (kw xs)) vs Ψ := fun A hA E s H xs S r => fn_core F hp hlen hb hx A hA.rm0 E s H xs S r

/-- a call that leaves all that stood before is pure -/
theorem OM.pl {t : List Value → Sem Value} {vs : List V} {c : V} (h : OM B n st.length st t vs (fun v st' => v = c ∧ ∃ N, st' = st ++ N)) (hc : ∀ H H' h x, H'.hs.take H.hs.length = H.hs → H'.xs = H.xs → Rep H' h x c → Rep H h x c) : PL B n st t vs c := fun A hA E s H xs S r => by
  refine wpAny_mono (h A hA E s H xs S r) (fun x s₁ q => ?_) fun _ _ e => e
  obtain ⟨v, st', H', h', tk, rfl, ⟨rfl, N, rfl⟩, S', cs, r'⟩ := q
  have nk : ∀ b, ∀ k, st.length ≤ k → H.hs[k]? ≠ some b := fun b k hk hb => by
    have := (List.getElem?_eq_some_iff.mp hb).1
    rw [S.sto.len] at this; omega
  refine ⟨⟨h', tk, rfl, ⟨fun b o hx e => cs.keep b o (nk b) hx e, fun _ => S'.base.tab, fun b o e => ?_⟩⟩, hc H H' h' x ?_ cs.xs r'⟩
  · by_cases hx : Ex B b o
    · exact tab_live S'.base.tab hx
    · exact ⟨o, cs.keep b o (nk b) hx e⟩
  · obtain ⟨N', e⟩ := cs.pre
    rw [e]; simp

/-- plain data without handles means the same under any handles -/
def flat : V → Bool
  | .none | .bool _ | .int _ | .str _ => true
  | _ => false
theorem flat_rep {H H' : Hd} {h : Heap} {x : Value} {c : V} (hf : flat c = true) (r : Rep H' h x c) : Rep H h x c := by
  cases r <;> first | (simp [flat] at hf; done) | constructor
theorem OM.plFlat {t : List Value → Sem Value} {vs : List V} {c : V} (hf : flat c = true) (h : OM B n st.length st t vs (fun v st' => v = c ∧ ∃ N, st' = st ++ N)) : PL B n st t vs c := h.pl fun _ _ _ _ _ _ r => flat_rep hf r

variable {env : Env} {ρ : Nm}
/-- a def of the text called by its name -/
theorem ld_fn {A : Around} {E : Value → Shared → Prop} {s : Shared} {H : Hd} {x : Str} {np : Pos} {a : Addr} {fd : FuncData} {body : List Stmt} {Q : Value → Shared → Prop} (F : FnOk B a fd body) (S : Sim B env ρ st H s.heap) (hk : env.kindOf x = some .globalImplicit) (hv : B.mg x = some (.ref a)) (h : Q (.ref a) s) (hd : (x == ("__debug__" : Str)) = false := by kernel_rfl) :
    wpAny (model B.prog B.w) A (eval (.Name x np) env) Q E s := ld_glob S hk (by rw [hv]; rfl) h hd

theorem pm_callFn {x : Str} {np pos : Pos} {e : Expr} {es : List Expr} {a : Addr} {fd : FuncData} {body : List Stmt} (F : FnOk B a fd body) (hk : env.kindOf x = some .globalImplicit) (hv : B.mg x = some (.ref a))
    (ha : PMs B n env m ρ st (e :: es) (fun vs st' => OM B n m st' (fun xs => call (.ref a) xs) vs Ψ)) (hd : (x == ("__debug__" : Str)) = false := by kernel_rfl)
    (he : starEach (e :: es) env = (false, eval e env) :: starEach es env := by rfl) : PM B n env m ρ st (.Call (.Name x np) (e :: es) [] pos) Ψ := fun A hA E s H S => by
  obtain ⟨o, ho, hdat⟩ := F.at_
  refine wpAny_Call_ofName (ld_fn F S hk hv ?_ hd)
  refine callWith_def (o := o) (fd := fd) hdat (wpAny_mono (ha A hA E s H pos S) (fun xs s₁ q => ?_) fun _ _ e => e) he
  obtain ⟨vs, st', H', h', tk, rfl, hp, S', cs, r⟩ := q
  exact ⟨B.KX.keeps S'.base.keep _ _ ho, om_pm hA hp S' cs r⟩
theorem pe_callFn {x : Str} {np pos : Pos} {e : Expr} {es : List Expr} {a : Addr} {fd : FuncData} {body : List Stmt} {vs : List V} {c : V} (F : FnOk B a fd body) (hk : env.kindOf x = some .globalImplicit) (hv : B.mg x = some (.ref a))
    (ha : PEs B n env ρ st (e :: es) vs) (h2 : PL B n st (fun xs => call (.ref a) xs) vs c) (hd : (x == ("__debug__" : Str)) = false := by kernel_rfl)
    (he : starEach (e :: es) env = (false, eval e env) :: starEach es env := by rfl) : PE B n env ρ st (.Call (.Name x np) (e :: es) [] pos) c := fun A hA E s H S => by
  obtain ⟨o, ho, hdat⟩ := F.at_
  refine wpAny_Call_ofName (ld_fn F S hk hv ?_ hd)
  refine callWith_def (o := o) (fd := fd) hdat (wpAny_mono (ha A hA E s H pos S) (fun xs s₁ ⟨k1, r1⟩ => ?_) fun _ _ e => e) he
  have S₁ := S.keeps (kp_get k1)
  exact ⟨B.KX.keeps S₁.base.keep _ _ ho, wpAny_mono (h2 A hA E s₁ H xs S₁.sb r1) (fun z s₂ ⟨k2, r2⟩ => ⟨kp_trans k1 k2, r2⟩) fun _ _ e => e⟩
end
end Mine

-- part Gw15
namespace Mine

/-- what a name of the top means -/
def gname (K : Frag) (x : Str) : Option Value := match K.lookup mainGlobals with
  | some ⟨_, _, .dict es _, _⟩ => nsFind es x
  | _ => none
def hasTop (K : Frag) : Bool := match K.lookup mainGlobals with
  | some ⟨_, _, .dict _ _, _⟩ => true
  | _ => false
theorem mg_of {B : Bs} (ht : hasTop B.K = true) (x : Str) : B.mg x = gname B.K x := by
  unfold gname
  unfold hasTop at ht
  split at ht
  · rename_i c d es n sl h
    obtain ⟨o, es', ep, ho, hd, _, hm⟩ := B.g
    have := B.KX _ _ h
    rw [ho] at this
    cases this
    cases hd
    exact (hm x).symm
  · cases ht
theorem glob_b {B : Bs} {x : Str} {v : Value} (ht : hasTop B.K = true) (hg : gname B.K x = none) (hb : bootBuiltins x = some v) (hx : x ≠ "__name__") : (B.mg x).or (B.mb x) = some v := by
  rw [mg_of ht, hg, B.bb x hx, hb]; rfl
theorem glob_g {B : Bs} {x : Str} {v : Value} (ht : hasTop B.K = true) (hg : gname B.K x = some v) : B.mg x = some v := by rw [mg_of ht, hg]

def fdOf (K : Frag) (a : Addr) : FuncData := match K.lookup a with
  | some ⟨_, _, .func fd, _⟩ => fd
  | _ => default
def bodyOf (fd : FuncData) : List Stmt := match fd.body with
  | .stmts b => b
  | _ => []
def codeOk (K : Frag) (cd : Value) (q : Str) : Bool := match cd with
  | .ref c => (match K.lookup c with
    | some ⟨_, _, .fields vs, _⟩ => (match (vs[1]? : Option Value) with
      | some (Value.str x _) => x == q
      | _ => false)
    | _ => false)
  | _ => false
def fnOkB (K : Frag) (a : Addr) : Bool :=
  (match K.lookup a with | some ⟨_, _, .func _, _⟩ => true | _ => false) && (match (fdOf K a).body with | .stmts _ => true | _ => false) && (fdOf K a).closure.isEmpty && (fdOf K a).globals == mainGlobals && (fdOf K a).builtins == builtinsNs &&
  codeOk K (fdOf K a).code (fdOf K a).qualname && !(fdOf K a).scope.isCoroutine && !(fdOf K a).scope.isGenerator && (fdOf K a).scope.kind == .function && nodupB ((fdOf K a).scope.names.map (·.1)) && ((fdOf K a).scope.names.all fun x => x.2 != .free)
theorem fnOk_of {B : Bs} {a : Addr} (h : fnOkB B.K a = true) : FnOk B a (fdOf B.K a) (bodyOf (fdOf B.K a)) := by
  simp only [fnOkB, Bool.and_eq_true, beq_iff_eq, Bool.not_eq_eq_eq_not, Bool.not_true] at h
  obtain ⟨⟨⟨⟨⟨⟨⟨⟨⟨⟨h1, h2⟩, h3⟩, h4⟩, h5⟩, h6⟩, h7⟩, h8⟩, h9⟩, h10⟩, h11⟩ := h
  refine ⟨?_, ?_, by simpa using h3, h4, h5, ?_, h7, h8, h9, h10, h11⟩
  · unfold fdOf
    split at h1
    · rename_i c d fd sl ho
      exact ⟨_, ho, rfl⟩
    · cases h1
  · unfold bodyOf
    split at h2
    · rename_i b hb; rw [hb]
    · cases h2
  · unfold codeOk at h6
    split at h6
    · rename_i c hc
      split at h6
      · rename_i c' d vs sl ho
        split at h6
        · rename_i x t hx
          refine ⟨c, _, vs, t, hc, B.KX _ _ ho, rfl, ?_⟩
          rw [hx, eq_of_beq h6]
        · cases h6
      · cases h6
    · cases h6

theorem repAll_ints {H : Hd} {h : Heap} : ∀ {vs : List Value} {ns : List Int}, IntsAre vs ns → RepAll H h vs (ns.map V.int)
  | _, _, .nil => .nil
  | _, _, .cons i t r => .cons (.int i t) (repAll_ints r)

theorem well_list {P : Params} {h : Heap} {a : Addr} {ns : List Int} {vs : List Value} (w : Well P h (.ref a) (ofPy (.list (ns.map .int)))) (hl : h.IsList a vs.toArray) : h.get? a = some (lisObj vs.toArray 0) := by
  obtain ⟨o, ho, hc, n, hd⟩ := hl
  have : ∀ d, ofPy (.list (ns.map .int)) = d → Well P h (.ref a) d → h.get? a = some (lisObj vs.toArray 0) := by
    intro d hd' w
    cases w with
    | list hg _ =>
      rw [ho] at hg; cases hg
      cases hd
      exact ho
    | _ => (simp [ofPy] at hd'; try (first | cases hd' | (rw [ho] at *; simp_all)))
  exact this _ rfl w
end Mine

-- part Gw16
namespace Mine

theorem ints_of_rep {H : Hd} {h : Heap} : ∀ {vs : List Value} {ns : List Int}, RepAll H h vs (ns.map V.int) → IntsAre vs ns
  | _, [], r => by cases r; exact .nil
  | _, i :: ns, r => by
    cases r with
    | cons r1 r => cases r1; exact .cons i _ (ints_of_rep r)

-- data by value, the handles read through the store
mutual
def py (st : Store) : Nat → V → Option PyData
  | _, .none => some .none
  | _, .bool b => some (.bool b)
  | _, .int i => some (.int i)
  | _, .str s => some (.str s)
  | f + 1, .tup l => (pys st f l).map .tuple
  | f + 1, .lst l => (pys st f l).map .list
  | f + 1, .ref k => match st[k]? with
    | some l => (pys st f l).map .list
    | none => none
  | _, _ => none
def pys (st : Store) : Nat → List V → Option (List PyData)
  | _, [] => some []
  | f, v :: vs => match py st f v, pys st f vs with
    | some d, some ds => some (d :: ds)
    | _, _ => none
end

theorem reads_of {H : Hd} {st : Store} {h : Heap} (S : SimH H st h) : ∀ (f : Nat) {x : Value} {v : V} {d : PyData}, Rep H h x v → py st f v = some d → ∃ as, Reads h x d as := by
  have all : ∀ (f : Nat), (∀ {x : Value} {v : V} {d : PyData}, Rep H h x v → py st f v = some d → ∃ as, Reads h x d as) → ∀ {xs : List Value} {vs : List V} {ds : List PyData}, RepAll H h xs vs → pys st f vs = some ds → ∃ as, ReadsAll h xs ds as := by
    intro f ih xs
    induction xs with
    | nil => intro vs ds r hd; cases r; simp [pys] at hd; subst hd; exact ⟨_, .nil⟩
    | cons x xs hi =>
      intro vs ds r hd
      cases r with
      | @cons _ _ v vs r1 r =>
        unfold pys at hd
        cases e1 : py st f v with
        | none => rw [e1] at hd; cases hd
        | some d =>
          cases e2 : pys st f vs with
          | none => rw [e1, e2] at hd; cases hd
          | some ds' =>
            rw [e1, e2] at hd
            cases hd
            obtain ⟨as, q⟩ := ih r1 e1
            obtain ⟨bs, q'⟩ := hi r e2
            exact ⟨_, .cons q q'⟩
  intro f
  induction f with
  | zero => intro x v d r hd; cases r <;> simp [py] at hd <;> subst hd <;> exact ⟨_, by constructor⟩
  | succ f ih =>
    intro x v d r hd
    cases r with
    | none => simp [py] at hd; subst hd; exact ⟨_, .none⟩
    | bool b => simp [py] at hd; subst hd; exact ⟨_, .bool b⟩
    | int i t => simp [py] at hd; subst hd; exact ⟨_, .int i t⟩
    | str s t => simp [py] at hd; subst hd; exact ⟨_, .str s t⟩
    | tup ha ho hr =>
      simp only [py, Option.map_eq_some_iff] at hd
      obtain ⟨ds, e, rfl⟩ := hd
      obtain ⟨as, q⟩ := all f ih hr e
      exact ⟨_, .tuple ho rfl rfl q⟩
    | lst ha ho hr =>
      simp only [py, Option.map_eq_some_iff] at hd
      obtain ⟨ds, e, rfl⟩ := hd
      obtain ⟨as, q⟩ := all f ih hr e
      exact ⟨_, .list ho rfl rfl q⟩
    | @ref k a hk =>
      simp only [py] at hd
      cases hl : st[k]? with
      | none => rw [hl] at hd; cases hd
      | some l =>
        rw [hl] at hd
        simp only [Option.map_eq_some_iff] at hd
        obtain ⟨ds, e, rfl⟩ := hd
        obtain ⟨vs, n, ho, hr⟩ := S.at_ k a l hk hl
        obtain ⟨as, q⟩ := all f ih hr e
        exact ⟨_, .list ho rfl rfl q⟩
    | val x => simp [py] at hd

section
variable {B : Bs} {n : Nat} {st : Store}

theorem o_maxL {a : V} {ns : List Int} {M : Int} (hl : lis st a = some (ns.map V.int)) (hM : M ∈ ns) (hmax : ∀ x ∈ ns, x ≤ M) : PL B n st (fun xs => call (.builtin "max") xs) [a] (.int M) := PL.one fun A hA E s H x S rx => by
  obtain ⟨ad, vs, m, rfl, ho, hr⟩ := lis_at (B := B) S.sto rx hl
  have hi := ints_of_rep hr
  obtain ⟨xs, e⟩ := hi.allInts.items
  have hns : ns = xs.toList.map (·.1) := by rw [← hi.numsOf, ← nums_intItems, ← e]
  have hsz : 0 < xs.size := by
    rcases Nat.eq_zero_or_pos xs.size with h | h
    · have : xs.toList = [] := by simpa using h
      rw [hns, this] at hM; cases hM
    · exact h
  have hL : s.heap.IsList ad (intItems xs) := by rw [← e]; simpa using isList_of ho
  refine max_intList hA.hd hL hsz fun v h' tk hv hk => ?_
  obtain ⟨t, rfl⟩ := intItems_at hv
  obtain ⟨h1, h2⟩ := argBest_gt (numAt xs) (xs.size - 1)
  have e1 : numAt xs (argBest (fun i j => decide (numAt xs i > numAt xs j)) (xs.size - 1)) = M := by
    apply Int.le_antisymm
    · apply hmax
      rw [hns, numAt_eq]; exact getD_mem (by rw [List.length_map, Array.length_toList]; omega)
    · rw [hns] at hM
      obtain ⟨p, hp, rfl⟩ := List.mem_map.mp hM
      obtain ⟨i, hi'⟩ := List.getElem?_of_mem hp
      have hil := (List.getElem?_eq_some_iff.mp hi').1
      have : numAt xs i = p.1 := by rw [numAt]; simp at hi' hil; simp [hi']
      rw [← this]
      exact h2 i (by simp at hil; omega)
  rw [e1]
  exact ⟨⟨h', tk, rfl, .of hk⟩, .int ..⟩
theorem o_minL {a : V} {ns : List Int} {M : Int} (hl : lis st a = some (ns.map V.int)) (hM : M ∈ ns) (hmin : ∀ x ∈ ns, M ≤ x) : PL B n st (fun xs => call (.builtin "min") xs) [a] (.int M) := PL.one fun A hA E s H x S rx => by
  obtain ⟨ad, vs, m, rfl, ho, hr⟩ := lis_at (B := B) S.sto rx hl
  have hi := ints_of_rep hr
  obtain ⟨xs, e⟩ := hi.allInts.items
  have hns : ns = xs.toList.map (·.1) := by rw [← hi.numsOf, ← nums_intItems, ← e]
  have hsz : 0 < xs.size := by
    rcases Nat.eq_zero_or_pos xs.size with h | h
    · have : xs.toList = [] := by simpa using h
      rw [hns, this] at hM; cases hM
    · exact h
  have hL : s.heap.IsList ad (intItems xs) := by rw [← e]; simpa using isList_of ho
  refine min_intList hA.hd hL hsz fun v h' tk hv hk => ?_
  obtain ⟨t, rfl⟩ := intItems_at hv
  obtain ⟨h1, h2⟩ := argBest_lt (numAt xs) (xs.size - 1)
  have e1 : numAt xs (argBest (fun i j => decide (numAt xs i < numAt xs j)) (xs.size - 1)) = M := by
    apply Int.le_antisymm
    · rw [hns] at hM
      obtain ⟨p, hp, rfl⟩ := List.mem_map.mp hM
      obtain ⟨i, hi'⟩ := List.getElem?_of_mem hp
      have hil := (List.getElem?_eq_some_iff.mp hi').1
      have : numAt xs i = p.1 := by rw [numAt]; simp at hi' hil; simp [hi']
      rw [← this]
      exact h2 i (by simp at hil; omega)
    · apply hmin
      rw [hns, numAt_eq]; exact getD_mem (by rw [List.length_map, Array.length_toList]; omega)
  rw [e1]
  exact ⟨⟨h', tk, rfl, .of hk⟩, .int ..⟩
theorem o_sumL {a : V} {ns : List Int} (hl : lis st a = some (ns.map V.int)) : PL B n st (fun xs => call (.builtin "sum") xs) [a] (.int ns.sum) := PL.one fun A hA E s H x S rx => by
  obtain ⟨ad, vs, m, rfl, ho, hr⟩ := lis_at (B := B) S.sto rx hl
  have hi := ints_of_rep hr
  obtain ⟨xs, e⟩ := hi.allInts.items
  have hns : ns = xs.toList.map (·.1) := by rw [← hi.numsOf, ← nums_intItems, ← e]
  have hL : s.heap.IsList ad (intItems xs) := by rw [← e]; simpa using isList_of ho
  refine sum_intListG hA.hd hL fun h' tk t' hk => ?_
  have e2 : preSum (numAt xs) xs.size = ns.sum := by rw [preSum_eq, List.take_of_length_le (by simp), hns]
  rw [e2]
  exact ⟨⟨h', tk, rfl, .of hk⟩, .int ..⟩
theorem o_max2 {a b : Int} : PL B n st (fun xs => call (.builtin "max") xs) [.int a, .int b] (.int (if b > a then b else a)) := PL.two fun A hA E s H x y S rx ry => by
  cases rx; cases ry
  refine max_two_ints hA.hd fun h' tk hk => ⟨⟨h', tk, rfl, .of hk⟩, ?_⟩
  by_cases hc : b > a
  · rw [if_pos hc, if_pos hc]; exact .int ..
  · rw [if_neg hc, if_neg hc]; exact .int ..

theorem o_eqD {a b : V} {da db : PyData} (f g : Nat) (ha : py st f a = some da) (hb : py st g b = some db) (sa : SeqAt.shaped da = true) (sb : SeqAt.shaped db = true) : P2 B n st (compareOp .Eq) a b (.bool (PyData.eqv da db)) := fun A hA E s H x y S rx ry => by
  obtain ⟨as, ra⟩ := reads_of S.sto f rx ha
  obtain ⟨bs, rb⟩ := reads_of S.sto g ry hb
  exact eq_dataH ra rb sa sb (by have := hA.un; simp only [cLine]; omega) ⟨kp_refl _, .bool _⟩
theorem o_neD {a b : V} {da db : PyData} (f g : Nat) (ha : py st f a = some da) (hb : py st g b = some db) (sa : SeqAt.shaped da = true) (sb : SeqAt.shaped db = true) : P2 B n st (compareOp .NotEq) a b (.bool (!PyData.eqv da db)) := fun A hA E s H x y S rx ry => by
  obtain ⟨as, ra⟩ := reads_of S.sto f rx ha
  obtain ⟨bs, rb⟩ := reads_of S.sto g ry hb
  exact ne_dataH ra rb sa sb (by have := hA.un; simp only [cLine]; omega) ⟨kp_refl _, .bool _⟩
/-- equal data -/
theorem o_eqSame {a b : V} {d : PyData} (f g : Nat) (ha : py st f a = some d) (hb : py st g b = some d) (sa : SeqAt.shaped d = true) : P2 B n st (compareOp .Eq) a b (.bool true) := by
  have := o_eqD (B := B) (n := n) f g ha hb sa sa
  rwa [SeqAt.eqv_refl d (SeqAt.canLay_of_shaped sa)] at this
theorem o_neSame {a b : V} {d : PyData} (f g : Nat) (ha : py st f a = some d) (hb : py st g b = some d) (sa : SeqAt.shaped d = true) : P2 B n st (compareOp .NotEq) a b (.bool false) := by
  have := o_neD (B := B) (n := n) f g ha hb sa sa
  rwa [SeqAt.eqv_refl d (SeqAt.canLay_of_shaped sa)] at this
end
end Mine

-- part Gw17
namespace Mine
section
variable {B : Bs} {n m : Nat} {env : Env} {ρ : Nm} {st : Store} {Φ : Fl → Nm → Store → Prop} {Ψ : V → Store → Prop}

theorem nm_ne {ρ : Nm} {x y : Str} {v w : V} (h : ρ y = some w) (hne : y ≠ x := by decide +kernel) : upd ρ x v y = some w := by unfold upd; rw [if_neg hne]; exact h
theorem nm_eq {ρ : Nm} {x : Str} {v : V} : upd ρ x v x = some v := by unfold upd; rw [if_pos rfl]

/-- a local name -/
theorem pn {x : Str} {pos : Pos} {v : V} (hv : ρ x = some v) (hk : env.kindOf x = some .local := by kernel_rfl)
    (hd : (x == ("__debug__" : Str)) = false := by kernel_rfl) (hc : (x == ("__classdict__" : Str)) = false := by kernel_rfl) : PE B n env ρ st (.Name x pos) v := pe_name hv (.inl hk) hd hc
/-- a name in a cell of its own -/
theorem pc {x : Str} {pos : Pos} {v : V} (hv : ρ x = some v) (hk : env.kindOf x = some .cell := by kernel_rfl)
    (hd : (x == ("__debug__" : Str)) = false := by kernel_rfl) (hc : (x == ("__classdict__" : Str)) = false := by kernel_rfl) : PE B n env ρ st (.Name x pos) v := pe_name hv (.inr (.inl hk)) hd hc
/-- a name of a frame around -/
theorem pf {x : Str} {pos : Pos} {v : V} (hv : ρ x = some v) (hk : env.kindOf x = some .free := by kernel_rfl)
    (hd : (x == ("__debug__" : Str)) = false := by kernel_rfl) (hc : (x == ("__classdict__" : Str)) = false := by kernel_rfl) : PE B n env ρ st (.Name x pos) v := pe_name hv (.inr (.inr hk)) hd hc

theorem xa {x : Str} {px pos : Pos} {e : Expr} (h : PM B n env m ρ st e (fun v st' => Φ .next (upd ρ x v) st')) (hk : env.kindOf x = some .local := by kernel_rfl) (hs : swapsWith e (some (.Name x px)) pos.line env = pure false := by rfl) :
    EX1 B n env m ρ st (.Assign [.Name x px] e pos) Φ := x_assign h (.inl hk) hs
theorem xc {x : Str} {px pos : Pos} {e : Expr} (h : PM B n env m ρ st e (fun v st' => Φ .next (upd ρ x v) st')) (hk : env.kindOf x = some .cell := by kernel_rfl) (hs : swapsWith e (some (.Name x px)) pos.line env = pure false := by rfl) :
    EX1 B n env m ρ st (.Assign [.Name x px] e pos) Φ := x_assign h (.inr hk) hs

/-- an if whose ways meet again -/
theorem x_ifJ {t : Expr} {b o : List Stmt} {pos : Pos} {c : Bool} (J : Nm → Store → Prop) (h1 : PT B n env ρ st t c) (h2 : c = true → EX B n env m ρ st b (fun f ρ st => f = .next ∧ J ρ st)) (h3 : c = false → EX B n env m ρ st o (fun f ρ st => f = .next ∧ J ρ st))
    (h4 : ∀ ρ st, J ρ st → Φ .next ρ st) : EX1 B n env m ρ st (.If t b o pos) Φ :=
  x_if h1 (fun h => (h2 h).mono fun f ρ st q => by rw [q.1]; exact h4 _ _ q.2) (fun h => (h3 h).mono fun f ρ st q => by rw [q.1]; exact h4 _ _ q.2)

/-- a comparison whose left side is no pure one -/
theorem pm_cmp {l r : Expr} {op : CmpOp} {pos : Pos} (h1 : PM B n env m ρ st l (fun a st' => ∃ b c, PE B n env ρ st' r b ∧ P2 B n st' (compareOp op) a b c ∧ Ψ c st')) (hm : behindInMarks op r = false := by with_unfolding_all rfl) : PM B n env m ρ st (.Compare l [op] [r] pos) Ψ := fun A hA E s H S => by
  refine wpAny_Compare1 (wpAny_mono (h1 A hA E s H S) (fun x s₁ q => ?_) fun _ _ e => e) hm
  obtain ⟨a, st', H', h', tk, rfl, ⟨b, c, h2, h3, hp⟩, S', cs, r⟩ := q
  refine wpAny_mono (h2 A hA E _ H' S') (fun y s₂ ⟨k2, r2⟩ => ?_) fun _ _ e => e
  refine wpAny_mono (h3 A hA E s₂ H' x y (S'.sb.keeps (kp_get k2)) (r.ext (kp_dk k2 H')) r2) (fun z s₃ ⟨k3, r3⟩ => ?_) fun _ _ e => e
  have kk := kp_trans k2 k3
  obtain ⟨h₂, tk₂, rfl, kp⟩ := kk
  exact ⟨c, st', H', h₂, tk₂, rfl, hp, S'.keeps kp, cs.trans (.of_keeps kp) S'.sb, r3⟩
theorem o_lenN {a : V} {l : List V} {k : Nat} (hl : lis st a = some l) (hk : l.length = k) (hfit : k < 2 ^ 62) : PL B n st (fun xs => call (.builtin "len") xs) [a] (.int k) := by subst hk; exact o_len hl hfit
theorem o_neF {a : Int} : P2 B n st (compareOp .NotEq) (.int a) (.int a) (.bool false) := by have := o_ne (B := B) (n := n) (st := st) (a := a) (b := a); simpa using this
theorem o_eqT {a : Int} : P2 B n st (compareOp .Eq) (.int a) (.int a) (.bool true) := by have := o_eq (B := B) (n := n) (st := st) (a := a) (b := a); simpa using this
theorem o_ltD {a b : Int} {c : Bool} (h : decide (a < b) = c) : P2 B n st (compareOp .Lt) (.int a) (.int b) (.bool c) := h ▸ o_lt
end
end Mine

-- part Gw18
namespace Mine
section
variable {B : Bs} {n m : Nat} {env : Env} {ρ : Nm} {st : Store} {Φ : Fl → Nm → Store → Prop} {Ψ : V → Store → Prop}

/-- the namespace of a comprehension is let go -/
theorem Sim.but {H : Hd} {h h' : Heap} {C : Addr} {q : Str → Option Value} (S : Sim B env ρ st H h) (hn : h.Ns C q) (hC0 : B.free C) (hL : env.locals ≠ C) (hs : Heap.SameBut C h h') : Sim B env ρ st H h' ∧ DKeep H h H h' := by
  have ks : ∀ b o, IsSeq o → h.get? b = some o → h'.get? b = some o := fun b o hq e => hs.extBut b o (fun e' => by
    subst e'
    obtain ⟨o', es, ep, ho', hd, _⟩ := hn
    rw [e] at ho'; cases ho'
    obtain ⟨_, _, hq⟩ := hq
    rw [hd] at hq; cases hq) e
  have kc : ∀ {c : Addr} {v : Option Value}, h.IsCell c v → c ≠ C := fun hc e => by
    subst e
    obtain ⟨o, es, ep, ho, hd, _⟩ := hn
    obtain ⟨o', ho', hd'⟩ := hc
    rw [ho] at ho'; cases ho'; rw [hd] at hd'; cases hd'
  refine ⟨⟨base_ne S.base (W := (· = C)) (fun b o hb e => hs.extBut b o hb e) (fun b hb => hb ▸ hC0) (fun b o hb e => by subst hb; exact ns_notCode hn e), S.sto.keepSeq ks, S.en.kind, S.en.gl, S.en.bi, ?_, fun z w hz hw => ?_, fun z c hz => ?_, S.en.has, S.en.apart⟩, dk_seq ks⟩
  · obtain ⟨q', hm, hr⟩ := S.en.loc
    exact ⟨q', hm.sameBut hs hL, fun z w hz hw => let ⟨y, hy, r⟩ := hr z w hz hw; ⟨y, hy, r.ext (dk_seq ks)⟩⟩
  · obtain ⟨c, y', h1, h2, h3⟩ := S.en.cell z w hz hw
    exact ⟨c, y', h1, h2.sameBut hs (kc h2), h3.ext (dk_seq ks)⟩
  · obtain ⟨w, hc⟩ := S.en.cells z c hz
    exact ⟨w, hc.sameBut hs (kc hc)⟩

/-- a list comprehension gives these -/
def PC (B : Bs) (n : Nat) (env : Env) (ρ : Nm) (st : Store) (e : Expr) (out : List V) : Prop :=
  ∃ elt target iter ifs gs scope pos, e = .ListComp elt (⟨target, iter, ifs, 0⟩ :: gs) scope pos ∧ (∀ x, foldedSetIterable iter env x = pure x) ∧ okScope env scope = true ∧
    ∀ A, Rm n A → ∀ (E : Value → Shared → Prop) (s : Shared) (H : Hd) (RR : Value → Addr → Result → Shared → Prop), Sim B env ρ st H s.heap →
      (∀ D C h' tk m, s.heap.get? D = none → s.heap.get? C = none → D ≠ C → h'.Ns C m → AccAt D out ⟨H.hs, [D] ++ H.xs⟩ h' → KH B s.heap h' → RR (.ref D) C (.ok .next) { s with heap := h', toks := tk }) →
      wpAny (model B.prog B.w) A (eval iter env) (fun xv s₁ => wpAny (model B.prog B.w) A (pyIter xv) (fun it s₂ => wpAny (model B.prog B.w) A (newList []) (fun acc s₃ => wpAny (model B.prog B.w) A (newFunctionEnv scope env.globals (closOf env scope.names []) [] env.qual none .none (some env)) (fun cenv s₄ =>
        codeAny (model B.prog B.w) A (.compStart (.ListComp elt (⟨target, iter, ifs, 0⟩ :: gs) scope pos) 0 it acc { cenv with scope := relabel scope env }) (RR acc cenv.locals) s₄) E s₃) E s₂) E s₁) E s

theorem PC.pe {e : Expr} {out : List V} (h : PC B n env ρ st e out) : PE B n env ρ st e (.lst out) := fun A hA E s H S => by
  obtain ⟨elt, target, iter, ifs, gs, scope, pos, rfl, hs, ok, h⟩ := h
  obtain ⟨f1, f2, f3⟩ := okScope_facts ok
  rw [eval_ListComp]
  refine wpAny_comprehension_free (use := none) rfl hs (hclos_of S.en ok) f1 (hnames_of f2) (h A hA E s H (fun acc C => compPost (model B.prog B.w) A E none _ acc C) S ?_)
  intro D C h' tk m hD hC hDC hn acc kp
  refine ⟨m, hn, fun h'' hs'' => ?_⟩
  obtain ⟨⟨vs', q, ho, hr⟩, hDH⟩ := accAt_end S.sto hD hDC hn acc hs''
  exact ⟨⟨h'', tk, rfl, kp.but hC hn hs''⟩, .lst hDH ho hr.dropX⟩

theorem PC.pm {e : Expr} {out : List V} (h : PC B n env ρ st e out) (hp : Ψ (.ref st.length) (st ++ [out])) : PM B n env m ρ st e Ψ := fun A hA E s H S => by
  obtain ⟨elt, target, iter, ifs, gs, scope, pos, rfl, hs, ok, h⟩ := h
  obtain ⟨f1, f2, f3⟩ := okScope_facts ok
  rw [eval_ListComp]
  refine wpAny_comprehension_free (use := none) rfl hs (hclos_of S.en ok) f1 (hnames_of f2) (h A hA E s H (fun acc C => compPost (model B.prog B.w) A E none _ acc C) S ?_)
  intro D C h' tk q hD hC hDC hn acc kp
  refine ⟨q, hn, fun h'' hs'' => ?_⟩
  obtain ⟨⟨vs', q, ho, hr⟩, hDH⟩ := accAt_end S.sto hD hDC hn acc hs''
  have kp' : KH B s.heap h'' := kp.but hC hn hs''
  obtain ⟨S2, cs, r⟩ := sim_new (m := m) S kp' hD ho (l := out) (hr.move)
  exact ⟨_, _, _, h'', tk, rfl, hp, S2, cs, r⟩

/-- x = [...]: the store is made ahead of the variables' end -/
theorem xu {e : Expr} {out : List V} {y : Str} {py spos : Pos} (h : PC B n env ρ st e out) (hp : Φ .next (upd ρ y (.lst out)) st) (hk : env.kindOf y = some .local := by kernel_rfl) (hsw : swapsWith e (some (.Name y py)) spos.line env = pure true := by kernel_rfl) : EX1 B n env m ρ st (.Assign [.Name y py] e spos) Φ := fun A hA O E s H S => by
  obtain ⟨elt, target, iter, ifs, gs, scope, pos, rfl, hs, ok, h⟩ := h
  obtain ⟨f1, f2, f3⟩ := okScope_facts ok
  rw [exec_Assign_Name_used _ _ _ _ hsw]
  refine wpAny_bind (wpAny_standAt (wpAny_bind ?_))
  show wpAny _ A (do let _ ← comprehension (.ListComp elt (⟨target, iter, ifs, 0⟩ :: gs) scope pos) scope env _ (newList []) false (eval iter env) (some (assign (.Name y py) env))) _ _ s
  refine wpAny_bind (wpAny_mono (wpAny_comprehension_free (use := some (assign (.Name y py) env)) (Q := fun _ s' => _) rfl hs (hclos_of S.en ok) f1 (hnames_of f2) (h A hA E s H (fun acc C => compPost (model B.prog B.w) A E (some (assign (.Name y py) env)) _ acc C) S ?_)) (fun _ s' hq => wpAny_pure (wpAny_pure hq)) fun _ _ e => e)
  intro D C h' tk q hD hC hDC hn acc kp
  show wpAny _ A (assign (.Name y py) env (.ref D)) _ _ _
  have S' := S.keeps kp
  obtain ⟨⟨vs', q', ho, hr⟩, hDH⟩ := accAt_end S.sto hD hDC hn acc (h'' := h') (Heap.SameBut.refl _ _)
  have hlive : ∀ b, wrt env [y] b → b ≠ C := fun b hb e => by
    subst e
    obtain ⟨o, ho⟩ := S.en.live _ (wrt_own hb)
    rw [hC] at ho; cases ho
  have hC0 : B.free C := S.base.free hC
  refine wpAny_assign_Name (st_name (xs := [y]) (v := .lst out) S' (O.own _) (by simp) (.inl hk) (.lst hDH ho hr.dropX) fun h₂ tk₂ S₂ kp₂ => ?_)
  have hn₂ : h₂.Ns C q := hn.at' fun o e => kp₂ C o (fun hw => hlive C hw rfl) e
  refine ⟨q, hn₂, fun h₃ hs₃ => ?_⟩
  obtain ⟨S₃, dk₃⟩ := S₂.but hn₂ hC0 (hlive _ (.inl rfl)) hs₃
  refine ⟨.next, _, st, H, h₃, tk₂, rfl, hp, .next, S₃, ?_⟩
  refine ⟨⟨[], by simp⟩, rfl, fun _ a b => absurd a b, fun b o hb _ hx e => ?_⟩
  exact hs₃.extBut b o (fun e' => by subst e'; rw [hC] at e; cases e) (kp₂ b o (fun hw => hb (wrt_own hw)) (kp.keep b o hx e))

theorem pc_comp0 {elt target iter : Expr} {ifs : List Expr} {scope : Scope} {pos : Pos} {vs : List V} {Cond : Store → Prop} {Tg : Expr → Prop} {pl : Bool} {xs : List Str} (hiter : PI B n env ρ st iter vs Cond Tg pl) (htg : Tg target) (ok : okScope env scope = true) (hxs : ∀ x ∈ xs, scope.names.lookup x = some .local ∨ scope.names.lookup x = some .cell)
    (outs : List (List V)) (hlen : outs.length = vs.length)
    (hturn : ∀ (i : Nat) v out, vs[i]? = some v → outs[i]? = some out → ∀ C, ∃ ρ' p w, PA B n (cEnv scope C env) st target v xs (restr scope ρ) ρ' ∧ PTs B n (cEnv scope C env) ρ' st ifs p ∧ (p = true → PE B n (cEnv scope C env) ρ' st elt w) ∧ out = (if p then [w] else []) ∧ ∀ y u, restr scope ρ y = some u → ρ' y = some u)
    (hsz : (outs.flatten).length ≤ sizeLine) (hs : ∀ x, foldedSetIterable iter env x = pure x := by intro _; rfl) :
    PC B n env ρ st (.ListComp elt [⟨target, iter, ifs, 0⟩] scope pos) outs.flatten :=
  ⟨elt, target, iter, ifs, [], scope, pos, rfl, hs, ok, fun A hA E s H RR S hRR => comp_block1 (RR := RR) hA S hiter htg ok hxs outs hlen hturn hsz hRR⟩

theorem pc_if {α : Type} {elt target iter : Expr} {ifs : List Expr} {scope : Scope} {pos : Pos} {Cond : Store → Prop} {Tg : Expr → Prop} {pl : Bool} (xs : List Str) (as : List α) (c : α → V) (ρ' : α → Str → Option V) (p : α → Bool) (f : α → V) {vs out : List V} (hout : out = (as.filter p).map f) (hiter : PI B n env ρ st iter vs Cond Tg pl) (hvs : vs = as.map c) (htg : Tg target) (ok : okScope env scope = true)
    (hxs : ∀ x ∈ xs, scope.names.lookup x = some .local ∨ scope.names.lookup x = some .cell)
    (hpa : ∀ a ∈ as, ∀ C, PA B n (cEnv scope C env) st target (c a) xs (restr scope ρ) (ρ' a)) (hw : ∀ a ∈ as, ∀ y u, restr scope ρ y = some u → ρ' a y = some u)
    (hp : ∀ a ∈ as, ∀ C, PTs B n (cEnv scope C env) (ρ' a) st ifs (p a)) (hf : ∀ a ∈ as, p a = true → ∀ C, PE B n (cEnv scope C env) (ρ' a) st elt (f a))
    (hsz : as.length ≤ sizeLine) (hs : ∀ x, foldedSetIterable iter env x = pure x := by intro _; rfl) :
    PC B n env ρ st (.ListComp elt [⟨target, iter, ifs, 0⟩] scope pos) out := by
  subst hvs hout
  rw [← flatten_if]
  refine pc_comp0 hiter htg ok hxs _ (by simp) (fun i v out hv ho C => ?_) ?_ hs
  · rw [List.getElem?_map] at hv ho
    cases ha : as[i]? with
    | none => rw [ha] at hv; cases hv
    | some a =>
      rw [ha] at hv ho
      cases hv; cases ho
      have hm := List.mem_of_getElem? ha
      exact ⟨ρ' a, p a, f a, hpa a hm C, hp a hm C, fun h => hf a hm h C, rfl, hw a hm⟩
  · rw [flatten_if, List.length_map]; exact Nat.le_trans (List.length_filter_le _ _) hsz

theorem pc_name {α : Type} {elt iter : Expr} {x : Str} {px : Pos} {ifs : List Expr} {scope : Scope} {pos : Pos} {Cond : Store → Prop} {Tg : Expr → Prop} {pl : Bool} (as : List α) (c : α → V) (p : α → Bool) (f : α → V) {vs out : List V} (hout : out = (as.filter p).map f) (hiter : PI B n env ρ st iter vs Cond Tg pl) (hvs : vs = as.map c) (htg : Tg (.Name x px))
    (hp : ∀ a ∈ as, ∀ C, PTs B n (cEnv scope C env) (upd (restr scope ρ) x (c a)) st ifs (p a)) (hf : ∀ a ∈ as, p a = true → ∀ C, PE B n (cEnv scope C env) (upd (restr scope ρ) x (c a)) st elt (f a))
    (hsz : as.length ≤ sizeLine) (ok : okScope env scope = true := by kernel_rfl) (hx : scope.names.lookup x = some .local := by kernel_rfl) (hs : ∀ x, foldedSetIterable iter env x = pure x := by intro _; rfl) :
    PC B n env ρ st (.ListComp elt [⟨.Name x px, iter, ifs, 0⟩] scope pos) out :=
  pc_if [x] as c (fun a => upd (restr scope ρ) x (c a)) p f hout hiter hvs htg ok (fun y hy => by cases List.mem_singleton.mp hy; exact .inl hx) (fun a _ C => pa_name (List.mem_singleton.mpr rfl) (kind_comp (.inl hx))) (fun a _ => upd_weak (.inl hx) fun _ _ h => h) hp hf hsz hs
/-- two names as the target -/
theorem pc_two {α : Type} {elt iter : Expr} {x y : Str} {px py pt : Pos} {kt : Nat} {ifs : List Expr} {scope : Scope} {pos : Pos} {Cond : Store → Prop} {Tg : Expr → Prop} {pl : Bool} (as : List α) (c d : α → V) (p : α → Bool) (f : α → V) {vs out : List V} (hout : out = (as.filter p).map f) (hiter : PI B n env ρ st iter vs Cond Tg pl) (hvs : vs = as.map fun a => V.tup [c a, d a]) (htg : Tg (.Tuple [.Name x px, .Name y py] kt pt))
    (hp : ∀ a ∈ as, ∀ C, PTs B n (cEnv scope C env) (upd (upd (restr scope ρ) x (c a)) y (d a)) st ifs (p a)) (hf : ∀ a ∈ as, p a = true → ∀ C, PE B n (cEnv scope C env) (upd (upd (restr scope ρ) x (c a)) y (d a)) st elt (f a))
    (hsz : as.length ≤ sizeLine) (ok : okScope env scope = true := by kernel_rfl) (hx : scope.names.lookup x = some .local := by kernel_rfl) (hy : scope.names.lookup y = some .local := by kernel_rfl) (hs : ∀ x, foldedSetIterable iter env x = pure x := by intro _; rfl) :
    PC B n env ρ st (.ListComp elt [⟨.Tuple [.Name x px, .Name y py] kt pt, iter, ifs, 0⟩] scope pos) out :=
  pc_if [x, y] as _ (fun a => upd (upd (restr scope ρ) x (c a)) y (d a)) p f hout hiter hvs htg ok (fun z hz => by simp at hz; rcases hz with rfl | rfl <;> exact .inl (by assumption))
    (fun a _ C => pa_tuple (pas_cons (pa_name (by simp) (kind_comp (.inl hx))) (pas_cons (pa_name (by simp) (kind_comp (.inl hy))) pas_nil))) (fun a _ => upd_weak (.inl hy) (upd_weak (.inl hx) fun _ _ h => h)) hp hf hsz hs

/-- a range by its length -/
theorem pi_rangeN {np pos : Pos} {e : Expr} {k : Nat} {vs : List V} (h1 : PE B n env ρ st e (.int k)) (hvs : vs = (List.range k).map fun j => V.int (j : Nat)) (hb : k < 2 ^ 62)
    (hv : (B.mg "range").or (B.mb "range") = some (.type "range")) (hk : env.kindOf "range" = some .globalImplicit := by kernel_rfl)
    (he : starEach [e] env = [(false, eval e env)] := by rfl) :
    PI B n env ρ st (.Call (.Name "range" np) [e] [] pos) vs (fun _ => True) AnyT true := by
  have := pi_range1 (np := np) (pos := pos) h1 (by omega) hv hk he
  rw [hvs]
  have e : (rng 0 1 (k : Int).toNat).map V.int = (List.range k).map fun j => V.int (j : Nat) := by simp [rng]
  rwa [e] at this

/-- names of the frame within a comprehension -/
theorem rs {scope : Scope} {x : Str} {v : V} (h : ρ x = some v) (hk : scope.names.lookup x = some .free := by kernel_rfl) : restr scope ρ x = some v := by unfold restr; rw [if_pos hk]; exact h
end
end Mine

-- part Gw19
namespace Mine
section
variable {B : Bs} {n m : Nat}

/-- the claim's end from the walk of the law's body -/
theorem law_end {s₁ : Shared} (hB : ∀ b o, ¬ B.isT b → s₁.heap.get? b = some o → B.h₀.get? b = some o) (hB' : ∀ b o, B.h₀.get? b = some o → s₁.heap.get? b = some o) (hT : ∀ t ∈ B.tabs, s₁.heap.TableAt t.c t.P #[]) (hg : s₁.gens = #[]) {c : ClaimW} {cl : Str → Option Addr} {mean : ExcName → Option Value} {args : List WData} {a : Addr} {fd : FuncData} {body : List Stmt} {sc : Addr} {vs : List Value} {ns : List Int}
    (F : FnOk B a fd body) (hp : paramsOk fd.scope ["script"] = true) (hb : ∀ x S, peek B.K S (bindArgs fd ⟨[x], []⟩) = some [(("script" : Str), x)]) (hl : s₁.heap.get? sc = some (lisObj vs.toArray 0)) (hI : IntsAre vs ns)
    (hx : ∀ L, EX B n (callEnvC fd L a) 0 (fun y => ((["script"] : List Str).zip [V.lst (ns.map V.int)]).lookup y) [] body (fun fl _ _ => retOf fl = .bool true)) (hn : n ≤ 400)
    (hr : ∀ cls, c.raises args cls = false) (hpost : c.post args (.bool true) args = true) :
    wpAny (model B.prog B.w) callerA (call (.ref a) [.ref sc]) (fun v s' => GoodWG c cl mean args s₁ (.ok (.ret v)) s') (fun e s' => GoodWG c cl mean args s₁ (.error e) s') s₁ := by
  have rm : Rm0 (n + 1) callerA := ⟨rfl, by show 1 + claimMargin + (n + 1) ≤ 890; simp only [claimMargin]; omega, by show 4 + 20 * (n + 1) ≤ 9000; omega, ⟨_, rfl⟩⟩
  have sb : SB B [] ⟨[], []⟩ s₁.heap := ⟨⟨hB', fun a ha => (by rcases ha with ha | ha <;> cases ha), fun t ht => ⟨#[], (hT t ht).2, trivial, fun pos cv e => by simp [codeAmong] at e⟩⟩, ⟨rfl, List.nodup_nil, fun k b l hk => by simp at hk, fun b hb => (by rcases hb with hb | hb <;> cases hb), fun b hb => (by cases hb)⟩⟩
  have rp : RepAll ⟨[], []⟩ s₁.heap [.ref sc] [V.lst (ns.map V.int)] := .one (.lst (by rintro (h | h) <;> cases h) hl (repAll_ints hI))
  refine wpAny_mono (fn_core (m := 0) (st := []) (vs := [V.lst (ns.map V.int)]) (Ψ := fun v _ => v = .bool true) (names := ["script"]) (ws := [V.lst (ns.map V.int)]) (pos := fun xs => xs) (kw := fun _ => []) F hp rfl (fun H h xs S r => ?_) hx callerA rm _ s₁ ⟨[], []⟩ [.ref sc] sb rp) (fun z s' q => ?_) fun _ _ e => e
  · cases r with
    | cons r1 r => cases r; exact ⟨[_], fun S => hb _ S, .one r1⟩
  · obtain ⟨v, st', H', h', tk, rfl, rfl, SB', cs, rz⟩ := q
    cases rz
    refine ⟨.inl ⟨_, _, [], rfl, hr, ReadsW.bool true, hpost, fun _ => ⟨List.nodup_nil, fun _ hm => (nomatch hm)⟩⟩, ⟨fun b o e => ?_, fun b o e => ?_⟩, rfl, .of_eq hg⟩
    · by_cases ht : B.isT b
      · obtain ⟨t, ht, rfl⟩ := ht
        obtain ⟨ps, h1, _⟩ := SB'.base.tab t ht
        have h2 := (hT t ht).2
        rw [e] at h2; cases h2
        exact .inr (.inl ⟨(hT t ht).isCodeTable, rfl, #[], ps, rfl, by simpa using h1⟩)
      · exact .inl (SB'.base.keep b o (hB b o ht e))
    · by_cases ht : B.isT b
      · obtain ⟨t, ht, rfl⟩ := ht
        obtain ⟨ps, h1, _⟩ := SB'.base.tab t ht
        exact ⟨_, h1⟩
      · exact ⟨o, SB'.base.keep b o (hB b o ht e)⟩
end
end Mine

-- part Gw20
namespace Mine

theorem codeAmong_app {pos : Pos} {a b : Int} {c cv : Value} (l : List Value) (h : TriplesOk l) (hs : codeAmong pos (l ++ [rawInt a, rawInt b, c]) = some cv) : codeAmong pos l = some cv ∨ cv = c := by
  fun_induction TriplesOk l with
  | case1 =>
    simp only [List.nil_append, rawInt, codeAmong] at hs
    split at hs
    · cases hs; exact .inr rfl
    · cases hs
  | case2 a' t b' u x rest ih =>
    simp only [List.cons_append, codeAmong] at hs ⊢
    split at hs
    · rename_i hc; rw [if_pos hc]; exact .inl hs
    · rename_i hc; rw [if_neg hc]; exact ih h hs
  | case3 => exact h.elim

theorem triples_noStr {l : List Value} (h : TriplesOk l) {q : Str} {t : Tok} : l[1]? ≠ some (.str q t) := by
  fun_induction TriplesOk l with
  | case1 => simp
  | case2 a' t b' u x rest ih => simp
  | case3 => exact h.elim
theorem inj_nodup {α β : Type} {f : α → β} : ∀ {l : List α}, (l.map f).Nodup → ∀ {x y}, x ∈ l → y ∈ l → f x = f y → x = y
  | [], _, _, _, hx, _, _ => by simp at hx
  | a :: l, h, x, y, hx, hy, e => by
    simp only [List.map_cons, List.nodup_cons] at h
    rcases List.mem_cons.mp hx with e1 | hx'
    · rcases List.mem_cons.mp hy with e2 | hy'
      · rw [e1, e2]
      · exact absurd (by rw [← e1, e]; exact List.mem_map_of_mem hy') h.1
    · rcases List.mem_cons.mp hy with e2 | hy'
      · exact absurd (by rw [← e2, ← e]; exact List.mem_map_of_mem hx') h.1
      · exact inj_nodup h.2 hx' hy' e

section
variable {B : Bs} {n m : Nat} {env : Env} {ρ : Nm} {st : Store} {Φ : Fl → Nm → Store → Prop} {Ψ : V → Store → Prop}

/-- a lambda is made: its function stands, tables may have grown -/
theorem lam_eval {A : Around} {E : Value → Shared → Prop} {s : Shared} {H : Hd} {t : Tab} {params : Arguments} {body : Expr} {scope : Scope} {pos : Pos} {clos : List (Str × Addr)} {Q : Value → Shared → Prop} (S : Sim B env ρ st H s.heap) (ht : t ∈ B.tabs) (hcode : env.code = .ref t.c) (hq : env.qual ++ "<lambda>" = t.q)
    (hdef : defaultsOf params env = ([], [])) (hcl : closureFor scope env = pure clos)
    (h : ∀ f cv ctv h' tk, KH B s.heap h' → s.heap.get? f = none → h'.get? f = some { cls := .type "function", data := .func (kla_fn "<lambda>" t.q params body scope clos ((B.mg "__name__").getD .none) cv ctv) } → h'.CodeRec cv t.q → Q (.ref f) { s with heap := h', toks := tk }) :
    wpAny (model B.prog B.w) A (eval (.Lambda params body scope pos) env) Q E s := by
  refine kla_eval hdef ?_
  obtain ⟨ps, hP, htr, hrec⟩ := S.base.tab t ht
  have hg : s.heap.Ns mainGlobals B.mg := B.g.keeps S.base.keep
  have hgP : mainGlobals ≠ t.P := fun q => by
    obtain ⟨o, es, ep, e, hd, _⟩ := hg
    rw [q, hP] at e; cases e; cases hd
  have hb : s.heap.BuiltinsAt B.mg t.P := by
    obtain ⟨bm, ob, b1, b2, b3, b4, b5, b6⟩ := B.bm
    have b3' := S.base.keep _ _ b3
    refine ⟨bm, ob, b1, b2, fun q => ?_, fun q => ?_, b3', b4, b5, b6⟩
    · obtain ⟨o, es, ep, e, hd, _⟩ := hg
      rw [q, e] at b3'; cases b3'; rw [hd] at b6; cases b6
    · rw [q, hP] at b3'; cases b3'; cases b4
  have C := (B.codes t ht).keeps S.base.keep
  rw [hq]
  cases hcm : codeAmong pos ps.toList with
  | none =>
    refine kla_makeFunction (mg := B.mg) hcl S.en.gl hg hcode C hP htr hcm hgP hb fun c' ctv h' tk hx hge hlt hrc htb => ?_
    have kp : ∀ b o, b ≠ t.P → s.heap.get? b = some o → (h'.push (kla_obj "<lambda>" t.q params body scope clos ((B.mg "__name__").getD .none) c' ctv)).get? b = some o := fun b o hb e => Heap.get?_push_of_some _ (hx b o hb e)
    refine h _ (.ref c') ctv _ tk ⟨fun b o hne e => kp b o (fun eb => hne ?_) e, fun T t' ht' => ?_, fun b o e => ?_⟩ ?_ (Heap.get?_push_size _ rfl) (hrc.push _)
    · subst eb; rw [hP] at e; cases e
      exact ⟨⟨t, ht, rfl⟩, rfl, _, rfl⟩
    · by_cases eP : t'.P = t.P
      · have et : t' = t := by
          have := B.apartT
          exact inj_nodup this ht' ht eP
        subst et
        refine ⟨_, Heap.get?_push_of_some _ htb, ?_, fun pos' cv e => ?_⟩
        · have := TriplesOk_snoc pos.line pos.col (.ref c') _ htr
          simpa using this
        · have e' : codeAmong pos' (ps.toList ++ [rawInt pos.line, rawInt pos.col, .ref c']) = some cv := by simpa using e
          rcases codeAmong_app _ htr e' with e | rfl
          · obtain ⟨c, o, vs, u, e1, e2, e3, e4⟩ := hrec pos' cv e
            refine ⟨c, o, vs, u, e1, kp c o (fun ec => ?_) e2, e3, e4⟩
            rw [ec, hP] at e2; cases e2; cases e3
            exact triples_noStr htr (by simpa using e4)
          · exact hrc.push _
      · obtain ⟨ps', h1, h2, h3⟩ := T t' ht'
        refine ⟨ps', kp _ _ eP h1, h2, fun pos' cv e => ?_⟩
        obtain ⟨c, o, vs, u, e1, e2, e3, e4⟩ := h3 pos' cv e
        refine ⟨c, o, vs, u, e1, kp c o (fun ec => ?_) e2, e3, e4⟩
        rw [ec, hP] at e2; cases e2; cases e3
        exact triples_noStr htr (by simpa using e4)
    · by_cases eb : b = t.P
      · subst eb; exact ⟨_, Heap.get?_push_of_some _ htb⟩
      · exact ⟨o, kp b o eb e⟩
    · cases e : s.heap.get? h'.objs.size with
      | none => rfl
      | some o =>
        have h1 : (h'.objs.size : Nat) < s.heap.objs.size := Heap.lt_size e
        have h2 : (c' : Nat) < h'.objs.size := hlt
        have h3 : s.heap.objs.size ≤ (c' : Nat) := hge
        exact absurd (Nat.lt_of_lt_of_le (Nat.lt_trans h2 h1) h3) (Nat.lt_irrefl _)
  | some cv =>
    refine kla_makeFunctionHit (mg := B.mg) hcl S.en.gl hg hcode C hP htr hcm hb fun ctv h' tk hk hsz => ?_
    have kp : ∀ b o, s.heap.get? b = some o → (h'.push { cls := .type "function", data := .func (kla_fn "<lambda>" t.q params body scope clos ((B.mg "__name__").getD .none) cv ctv) }).get? b = some o := fun b o e => Heap.get?_push_of_some _ (hk b o e)
    refine h _ cv ctv _ tk (.of kp) ?_ (Heap.get?_push_size _ rfl) ((hrec pos cv hcm).keeps kp)
    cases e : s.heap.get? h'.objs.size with
    | none => rfl
    | some o =>
      exact absurd (Nat.lt_of_lt_of_le (Heap.lt_size e) hsz) (Nat.lt_irrefl _)
end
end Mine

-- part Gw21
namespace Mine

/-- a lambda's function -/
structure LamOk (B : Bs) (a : Addr) (fd : FuncData) (body : Expr) : Prop where
  at_ : ∃ o, B.h₀.get? a = some o ∧ o.data = .func fd
  body : fd.body = .expr body
  clo : fd.closure = []
  gl : fd.globals = mainGlobals
  bi : fd.builtins = builtinsNs
  cd : B.h₀.CodeRec fd.code fd.qualname
  co : fd.scope.isCoroutine = false
  gen : fd.scope.isGenerator = false
  kind : fd.scope.kind = .function
  nd : nodupB (fd.scope.names.map (·.1)) = true
  nofree : (fd.scope.names.all fun x => x.2 != .free) = true

def lamScope (sc : Scope) : Bool := !sc.isCoroutine && !sc.isGenerator && sc.kind == .function && nodupB (sc.names.map (·.1)) && (sc.names.all fun x => x.2 != .free)

section
variable {B : Bs} {n m : Nat} {st : Store}

/-- the call of a lambda -/
theorem lam_pl {a : Addr} {fd : FuncData} {body : Expr} {names : List Str} {vs : List V} {c : V} (F : LamOk B a fd body) (hp : paramsOk fd.scope names = true) (hlen : names.length = vs.length)
    (hb : ∀ xs : List Value, xs.length = vs.length → bindArgs fd ⟨xs, []⟩ = pure (names.zip xs))
    (hx : ∀ L, PE B n (callEnvC fd L a) (fun x => (names.zip vs).lookup x) st body c) : PL B (n + 1) st (fun xs => call (.ref a) xs) vs c := fun A hA E s H ys S hr => by
  obtain ⟨o, ho, hdat⟩ := F.at_
  refine wpAny_call (kla_callFunE (by have := hA.dp; simp only [recursionLimit]; omega) (S.base.keep _ _ ho) hdat F.co F.gen F.body (F.cd.keeps S.base.keep) ?_)
  rw [hb ys hr.length]
  refine wpAny_pure ?_
  have hplen : names.length = ys.length := by rw [hlen, hr.length]
  have hnm : (names.zip ys).map (·.1) = names := List.map_fst_zip (Nat.le_of_eq hplen)
  simp only [paramsOk, Bool.and_eq_true, List.all_eq_true, Bool.or_eq_true, beq_iff_eq] at hp
  have hnd : ((names.zip ys).map (·.1)).Nodup := by rw [hnm]; exact nodupB_iff hp.1
  have hkinds : ∀ x ∈ names.zip ys, fd.scope.names.lookup x.1 = some .local ∨ (fd.scope.names.lookup x.1 = some .cell ∧ ((cellsFrom (s.heap.objs.size + 1) fd.scope.names []).lookup x.1).isSome = true) := fun x hx => by
    have hx' : x.1 ∈ names := by rw [← hnm]; exact List.mem_map.mpr ⟨x, hx, rfl⟩
    rcases hp.2 _ hx' with h | h
    · exact .inl h
    · obtain ⟨c, hc⟩ := cellsFrom_has (m := s.heap.objs.size + 1) (mem_of_lookup h)
      exact .inr ⟨h, by rw [hc]; rfl⟩
  rw [F.clo]
  refine wpAny_newFunctionEnv_cells F.kind hkinds fun env he s₁ x => ?_
  have he' : env = callEnvC fd s.heap.objs.size a := he
  have hLC : env.locals = s.heap.objs.size := by rw [he']; rfl
  have hcells : env.cells = cellsFrom (s.heap.objs.size + 1) fd.scope.names [] := by rw [he']; rfl
  have hscope : env.scope = fd.scope := by rw [he']; rfl
  obtain ⟨h₁, tk₁, e₁⟩ := x.toInCall.same
  have kp : ∀ b o, s.heap.get? b = some o → s₁.heap.get? b = some o := x.toInCall.keep
  have S₁ := S.keeps (.of kp)
  have hkindOf : ∀ y, env.kindOf y = fd.scope.names.lookup y := fun y => by show env.scope.names.lookup y = _; rw [hscope]
  have en : EnvRep env (fun x => (names.zip vs).lookup x) H s₁.heap := by
    refine ⟨by rw [hscope]; exact F.kind, by rw [he']; exact F.gl, by rw [he']; exact F.bi, ⟨_, x.toInCall.ns, fun y v hy hv => ?_⟩, fun y v hy hv => ?_, fun y c hc => ?_, fun y hy => ?_, x.apart⟩
    · obtain ⟨z, hz, rz⟩ := lookup_zip_rep hr hv
      refine ⟨z, ?_, rz.ext (.of_full kp)⟩
      rw [bindL_lookup _ _ _ _ hy hnd, hz]; rfl
    · obtain ⟨z, hz, rz⟩ := lookup_zip_rep hr hv
      have hmem : y ∈ names := by rw [← hnm]; exact List.mem_map.mpr ⟨_, mem_of_lookup hz, rfl⟩
      have hcell : fd.scope.names.lookup y = some .cell := by
        rcases hp.2 y hmem with h | h
        · rw [hkindOf, h] at hy; rcases hy with hy | hy <;> cases hy
        · exact h
      obtain ⟨c, hc⟩ := cellsFrom_has (m := s.heap.objs.size + 1) (mem_of_lookup hcell)
      rw [← hcells] at hc
      refine ⟨c, z, hc, ?_, rz.ext (.of_full kp)⟩
      have := x.cell y c hc
      rw [bindC_lookup _ _ _ _ (by rw [hkindOf, hcell]; simp) hnd, hz] at this
      exact this
    · have hl : env.cells.lookup y = some c := by
        rw [hcells] at hc ⊢
        exact cellsFrom_lookup (nodupB_iff F.nd) hc
      exact ⟨_, x.cell y c hl⟩
    · have hcell : fd.scope.names.lookup y = some .cell := by
        rw [hkindOf] at hy
        rcases hy with hy | hy
        · exact hy
        · have := List.all_eq_true.mp F.nofree _ (mem_of_lookup hy)
          simp at this
      obtain ⟨c, hc⟩ := cellsFrom_has (m := s.heap.objs.size + 1) (mem_of_lookup hcell)
      exact ⟨c, by rw [hcells]; exact hc⟩
  refine ⟨B.lim.keeps S₁.base.keep, kla_codeExpr ?_⟩
  have hA' : Rm n (A.deeper env) := hA.deeper env (by rw [hscope]; exact F.gen) (by rw [hscope]; exact F.co) (by rw [he']; exact F.bi) (by rw [he']; exact F.gl)
  rw [he'] at hA' en
  subst e₁
  rw [he']
  refine wpAny_mono (hx s.heap.objs.size (A.deeper _) hA' _ _ H ⟨S₁.base, S₁.sto, en⟩) (fun f s₂ ⟨k2, r2⟩ => ?_) fun _ _ e => e
  exact ⟨kp_trans ⟨_, _, rfl, .of kp⟩ k2, r2⟩

/-- what must not stand in the base -/
def hidden (B : Bs) (H : Hd) : List Addr := H.hs ++ H.xs ++ B.tabs.map (·.P)
theorem incl {H : Hd} {h : Heap} (S : SB B st H h) : ∀ b o, B.h₀.get? b = some o → (hideAll h (hidden B H)).get? b = some o := fun b o e => by
  refine hideAll_get _ (S.base.keep b o e) fun hb => ?_
  rcases List.mem_append.mp hb with hb | hb
  · rcases List.mem_append.mp hb with hb | hb
    · exact (S.base.new b (.inl hb)).no e
    · exact (S.base.new b (.inr hb)).no e
  · obtain ⟨t, ht, rfl⟩ := List.mem_map.mp hb
    rw [B.hid t ht] at e; cases e

/-- the base with all that stands but the handles -/
def Bs.grow (B : Bs) {st : Store} {H : Hd} {h : Heap} (S : SB B st H h) : Bs where
  prog := B.prog
  w := B.w
  h₀ := hideAll h (hidden B H)
  mg := B.mg
  mb := B.mb
  g := B.g.keeps (incl S)
  b := B.b.keeps (incl S)
  lim := B.lim.keeps (incl S)
  seer := B.seer.keeps (incl S)
  tree := B.tree
  K := B.K
  KX := B.KX.keeps (incl S)
  bb := B.bb
  bm := let ⟨bm, ob, h1, h2, h3, r⟩ := B.bm; ⟨bm, ob, h1, h2, incl S _ _ h3, r⟩
  tabs := B.tabs
  hid := fun t ht => hideAll_none _ (List.mem_append_right _ (List.mem_map_of_mem ht))
  codes := fun t ht => (B.codes t ht).keeps (incl S)
  apartT := B.apartT

theorem sb_grow {H : Hd} {h : Heap} (S : SB B st H h) : SB (B.grow S) st H h :=
  ⟨⟨fun b o e => of_hideAll _ e, fun a ha => ⟨hideAll_none _ (List.mem_append_left _ (ha.elim (fun h => List.mem_append_left _ h) fun h => List.mem_append_right _ h)), (S.base.new a ha).2⟩, S.base.tab⟩, S.sto⟩
theorem sb_back {H H' : Hd} {h h' : Heap} {st' : Store} (S : SB B st H h) (S' : SB (B.grow S) st' H' h') : SB B st' H' h' :=
  ⟨⟨fun b o e => S'.base.keep b o (incl S b o e), fun a ha => ⟨by
    cases e : B.h₀.get? a with
    | none => rfl
    | some o => exact ((S'.base.new a ha).no (incl S a o e)).elim, (S'.base.new a ha).2⟩, S'.base.tab⟩, S'.sto⟩

theorem kt_back {H : Hd} {h : Heap} (S : SB B st H h) {s s' : Shared} (k : KT (B.grow S) s s') : KT B s s' := let ⟨h', tk, e, q⟩ := k; ⟨h', tk, e, q.keep, q.tab, q.live⟩

variable {env : Env} {ρ : Nm} {Ψ : V → Store → Prop}

/-- a base of the same text -/
structure Like (B B' : Bs) : Prop where
  K : B'.K = B.K
  w : B'.w = B.w
  prog : B'.prog = B.prog
  mg : B'.mg = B.mg
  mb : B'.mb = B.mb
  tabs : B'.tabs = B.tabs
theorem like_grow {H : Hd} {h : Heap} (S : SB B st H h) : Like B (B.grow S) := ⟨rfl, rfl, rfl, rfl, rfl, rfl⟩

theorem lamOk_grow {H : Hd} {h : Heap} (S : SB B st H h) {f : Addr} {q : Str} {params : Arguments} {body : Expr} {scope : Scope} {pm cv ctv : Value} (hok : lamScope scope = true) (ho : h.get? f = some { cls := .type "function", data := .func (kla_fn "<lambda>" q params body scope [] pm cv ctv) }) (hc : h.CodeRec cv q) :
    LamOk (B.grow S) f (kla_fn "<lambda>" q params body scope [] pm cv ctv) body := by
  have vis : ∀ b o, ¬ IsSeq o → ¬ TabO o → h.get? b = some o → (hideAll h (hidden B H)).get? b = some o := fun b o hs ht e => by
    refine hideAll_get _ e fun hb => ?_
    rcases List.mem_append.mp hb with hb | hb
    · obtain ⟨o', e', hs'⟩ := S.sto.live b ((List.mem_append.mp hb).elim .inl .inr)
      rw [e] at e'; cases e'; exact hs hs'
    · obtain ⟨t, htt, rfl⟩ := List.mem_map.mp hb
      obtain ⟨ps, h1, _⟩ := S.base.tab t htt
      rw [e] at h1; cases h1
      exact ht ⟨rfl, _, rfl⟩
  simp only [lamScope, Bool.and_eq_true, beq_iff_eq, Bool.not_eq_eq_eq_not, Bool.not_true] at hok
  refine ⟨⟨_, vis _ _ (by rintro ⟨_, _, e⟩; cases e) (by rintro ⟨_, _, e⟩; cases e) ho, rfl⟩, rfl, rfl, rfl, rfl, ?_, hok.1.1.1.1, hok.1.1.1.2, hok.1.1.2, hok.1.2, hok.2⟩
  obtain ⟨c, oc, vs, u, e1, e2, e3, e4⟩ := hc
  refine ⟨c, oc, vs, u, e1, ?_, e3, e4⟩
  refine hideAll_get _ e2 fun hb => ?_
  rcases List.mem_append.mp hb with hb | hb
  · obtain ⟨o', e', hs'⟩ := S.sto.live c ((List.mem_append.mp hb).elim .inl .inr)
    rw [e2] at e'; cases e'
    exact seq_notCode hs' ⟨vs, _, _, e3, e4⟩
  · obtain ⟨t, htt, rfl⟩ := List.mem_map.mp hb
    obtain ⟨ps, h1, h2, _⟩ := S.base.tab t htt
    rw [e2] at h1; cases h1; cases e3
    exact triples_noStr h2 (by simpa using e4)

/-- what a lambda's site needs -/
structure Site (B : Bs) (env : Env) (params : Arguments) (lscope : Scope) (t : Tab) : Prop where
  mem : t ∈ B.tabs
  code : env.code = .ref t.c
  qual : env.qual ++ "<lambda>" = t.q
  dflt : defaultsOf params env = ([], [])
  clos : closureFor lscope env = pure []
  ok : lamScope lscope = true

/-- a def called with a lambda as its key -/
theorem pm_callKey {x : Str} {np pos kp : Pos} {e : Expr} {es : List Expr} {a : Addr} {fd : FuncData} {body : List Stmt} {params : Arguments} {lbody : Expr} {lscope : Scope} {lpos : Pos} {t : Tab} (F : FnOk B a fd body) (hk : env.kindOf x = some .globalImplicit) (hv : B.mg x = some (.ref a)) (site : Site B env params lscope t)
    (ha : PMs B n env m ρ st (e :: es) (fun vs st' => ∀ B', Like B B' → ∀ f pm cv ctv, LamOk B' f (kla_fn "<lambda>" t.q params lbody lscope [] pm cv ctv) lbody → OM B' n m st' (fun xs => call (.ref a) xs [("key", .ref f)]) vs Ψ)) (hd : (x == ("__debug__" : Str)) = false := by kernel_rfl)
    (he : starEach (e :: es) env = (false, eval e env) :: starEach es env := by rfl) : PM B n env m ρ st (.Call (.Name x np) (e :: es) [⟨some "key", .Lambda params lbody lscope lpos, kp⟩] pos) Ψ := fun A hA E s H S => by
  obtain ⟨o, ho, hdat⟩ := F.at_
  refine wpAny_Call_ofName (ld_fn F S hk hv ?_ hd)
  refine callWith_def_kw (o := o) (fd := fd) hdat (evalArgs_kw2 rfl (wpAny_mono (ha A hA E s H pos S) (fun xs s₁ q => ?_) fun _ _ e => e) he)
  obtain ⟨vs, st', H', h', tk, rfl, hp, S', cs, r⟩ := q
  refine wpAny_evalAll_cons (wpAny_bind (lam_eval S' site.mem site.code site.qual site.dflt site.clos fun f cv ctv h'' tk' kh hf ho' hc => wpAny_bind (wpAny_standAt (wpAny_pure (wpAny_evalAll_nil ?_)))))
  have S'' := S'.keeps kh
  refine ⟨B.KX.keeps S''.base.keep _ _ ho, ?_⟩
  have hO := hp (B.grow S''.sb) (like_grow _) f _ cv ctv (lamOk_grow S''.sb site.ok ho' hc)
  refine wpAny_mono (hO A hA E { s with heap := h'', toks := tk' } H' xs (sb_grow S''.sb) (r.ext (.of_keeps kh))) (fun z s₂ q => ?_) fun _ _ e => e
  obtain ⟨v, st'', H'', h₃, tk₃, rfl, hp', SB3, cs3, r3⟩ := q
  have cs3' : CS B m H' h'' H'' h₃ := ⟨cs3.pre, cs3.xs, cs3.new, cs3.keep⟩
  have SB3' := sb_back S''.sb SB3
  exact ⟨v, st'', H'', h₃, tk₃, rfl, hp', ⟨SB3'.base, SB3'.sto, S''.en.cs S''.sto cs3'⟩, (cs.trans (.of_keeps kh) S'.sb).trans cs3' S''.sb, r3⟩

theorem pe_callKey {x : Str} {np pos kp : Pos} {e : Expr} {es : List Expr} {a : Addr} {fd : FuncData} {body : List Stmt} {params : Arguments} {lbody : Expr} {lscope : Scope} {lpos : Pos} {t : Tab} {vs : List V} {c : V} (F : FnOk B a fd body) (hk : env.kindOf x = some .globalImplicit) (hv : B.mg x = some (.ref a)) (site : Site B env params lscope t)
    (ha : PEs B n env ρ st (e :: es) vs) (h2 : ∀ B', Like B B' → ∀ f pm cv ctv, LamOk B' f (kla_fn "<lambda>" t.q params lbody lscope [] pm cv ctv) lbody → PL B' n st (fun xs => call (.ref a) xs [("key", .ref f)]) vs c) (hd : (x == ("__debug__" : Str)) = false := by kernel_rfl)
    (he : starEach (e :: es) env = (false, eval e env) :: starEach es env := by rfl) : PE B n env ρ st (.Call (.Name x np) (e :: es) [⟨some "key", .Lambda params lbody lscope lpos, kp⟩] pos) c := fun A hA E s H S => by
  obtain ⟨o, ho, hdat⟩ := F.at_
  refine wpAny_Call_ofName (ld_fn F S hk hv ?_ hd)
  refine callWith_def_kw (o := o) (fd := fd) hdat (evalArgs_kw2 rfl (wpAny_mono (ha A hA E s H pos S) (fun xs s₁ ⟨k1, r1⟩ => ?_) fun _ _ e => e) he)
  have S' := S.keeps (kp_get k1)
  refine wpAny_evalAll_cons (wpAny_bind (lam_eval S' site.mem site.code site.qual site.dflt site.clos fun f cv ctv h'' tk' kh hf ho' hc => wpAny_bind (wpAny_standAt (wpAny_pure (wpAny_evalAll_nil ?_)))))
  have S'' := S'.keeps kh
  refine ⟨B.KX.keeps S''.base.keep _ _ ho, ?_⟩
  have hO := h2 (B.grow S''.sb) (like_grow _) f _ cv ctv (lamOk_grow S''.sb site.ok ho' hc)
  refine wpAny_mono (hO A hA E { s₁ with heap := h'', toks := tk' } H xs (sb_grow S''.sb) (r1.ext (.of_keeps kh))) (fun z s₂ ⟨k2, r2⟩ => ?_) fun _ _ e => e
  exact ⟨kp_trans (kp_trans k1 ⟨_, _, rfl, kh⟩) (kt_back S''.sb k2), r2⟩

/-- the key called within -/
theorem pe_callVal {x : Str} {np pos : Pos} {e : Expr} {es : List Expr} {f : Addr} {fd : FuncData} {lbody : Expr} {vs : List V} {c : V} (F : LamOk B f fd lbody) (hn : PE B n env ρ st (.Name x np) (.val (.ref f)))
    (ha : PEs B n env ρ st (e :: es) vs) (h2 : PL B n st (fun xs => call (.ref f) xs) vs c)
    (he : starEach (e :: es) env = (false, eval e env) :: starEach es env := by rfl) : PE B n env ρ st (.Call (.Name x np) (e :: es) [] pos) c := fun A hA E s H S => by
  obtain ⟨o, ho, hdat⟩ := F.at_
  refine wpAny_Call_ofName (wpAny_mono (hn A hA E s H S) (fun y s₀ ⟨k0, r0⟩ => ?_) fun _ _ e => e)
  cases r0
  have S₀ := S.keeps (kp_get k0)
  refine callWith_def (o := o) (fd := fd) hdat (wpAny_mono (ha A hA E s₀ H pos S₀) (fun xs s₁ ⟨k1, r1⟩ => ?_) fun _ _ e => e) he
  have S₁ := S₀.keeps (kp_get k1)
  exact ⟨S₁.base.keep _ _ ho, wpAny_mono (h2 A hA E s₁ H xs S₁.sb r1) (fun z s₂ ⟨k2, r2⟩ => ⟨kp_trans k0 (kp_trans k1 k2), r2⟩) fun _ _ e => e⟩

end
end Mine

-- part Gw22
namespace Mine

theorem ns_hide {h : Heap} {ts : List Addr} {a : Addr} {m : Str → Option Value} (x : h.Ns a m) (ha : a ∉ ts) : (hideAll h ts).Ns a m := x.at' fun o e => hideAll_get _ e ha

/-- an object of the fragment that is a def -/
def isFn (K : Frag) (a : Addr) : Bool := match K.lookup a with
  | some ⟨_, _, .func _, _⟩ => true
  | _ => false

theorem tab_of_top {p : Program} {loose : List Str} {mean : ExcName → Option Value} {mg mb : Str → Option Value} {h : Heap} (T : Top p loose mean mg mb h) {K : Frag} (KX : K.In h) {name : Str} {a c P : Addr} (hd : name ∈ (recsOf p).map (·.name)) (hm : mg name = some (.ref a)) (hf : isFn K a = true) (hfd : (fdOf K a).code = .ref c) (hc : codeHdIn K c P = true) : h.TableAt c P #[] := by
  obtain ⟨d, hdm, rfl⟩ := List.mem_map.mp hd
  obtain ⟨a', o, fd, c', P', h1, h2, h3, h4, h5, h6⟩ := T.tab d hdm
  rw [hm] at h1; cases h1
  have hfo : ∃ o', K.lookup a = some o' ∧ o'.data = .func (fdOf K a) := by
    unfold isFn at hf
    unfold fdOf
    split at hf
    · rename_i c d fd sl ho
      exact ⟨_, ho, by first | rfl | rw [ho]⟩
    · cases hf
  obtain ⟨o', ho', hd'⟩ := hfo
  have := KX _ _ ho'
  rw [h2] at this; cases this
  rw [h3] at hd'; cases hd'
  rw [h4] at hfd; cases hfd
  obtain ⟨o, vs, file, tf, flags, tg, inF, text, tt, e1, e2, e3, e4, _⟩ := codeHd_of_K KX hc
  obtain ⟨⟨o2, vs2, f1, f2, f3, f4⟩, f5⟩ := h6
  rw [e1] at f1; cases f1
  rw [e3] at f3; cases f3
  rw [e4] at f4; cases f4
  exact ⟨⟨o, vs, e1, e2, e3, e4⟩, f5⟩

structure TabsFit (p : Program) (mg : Str → Option Value) (K : Frag) (tabs : List Tab) : Prop where
  nd : (tabs.map (·.P)).Nodup
  nK : ∀ t ∈ tabs, K.lookup t.P = none
  co : ∀ t ∈ tabs, codeHdIn K t.c t.P = true
  st : ∀ t ∈ tabs, t.P ≠ mainGlobals ∧ t.P ≠ builtinsNs ∧ t.P ≠ cStatics ∧ t.P ≠ sysModules
  fn : ∀ t ∈ tabs, ∃ name a, name ∈ (recsOf p).map (·.name) ∧ mg name = some (.ref a) ∧ isFn K a = true ∧ (fdOf K a).code = .ref t.c

/-- the base from the head's facts -/
def Bs.of {p : Program} {loose : List Str} {mean : ExcName → Option Value} {mg mb : Str → Option Value} {h : Heap} (T : Top p loose mean mg mb h) (prog : Program) (w : World) (hi : importsNone p = true) (tree : prog.given.tree = none) (K : Frag) (KX : K.In h) (tabs : List Tab) (X : TabsFit p mg K tabs) : Bs where
  prog := prog
  w := w
  h₀ := hideAll h (tabs.map (·.P))
  mg := mg
  mb := mb
  g := ns_hide T.g fun hm => let ⟨t, ht, e⟩ := List.mem_map.mp hm; (X.st t ht).1 e
  b := ns_hide T.b fun hm => let ⟨t, ht, e⟩ := List.mem_map.mp hm; (X.st t ht).2.1 e
  lim := by
    obtain ⟨mc, h1, h2⟩ := T.nolimit
    exact ⟨mc, ns_hide h1 fun hm => let ⟨t, ht, e⟩ := List.mem_map.mp hm; (X.st t ht).2.2.1 e, h2⟩
  seer := by
    have N := T.seer hi
    refine ⟨?_, ?_, ?_, ?_⟩
    · obtain ⟨mc, h1, h2⟩ := N.statics
      exact ⟨mc, ns_hide h1 fun hm => let ⟨t, ht, e⟩ := List.mem_map.mp hm; (X.st t ht).2.2.1 e, h2⟩
    · obtain ⟨mc, h1, h2⟩ := N.mods
      exact ⟨mc, ns_hide h1 fun hm => let ⟨t, ht, e⟩ := List.mem_map.mp hm; (X.st t ht).2.2.2 e, h2⟩
    · obtain ⟨mc, h1, h2⟩ := N.imp
      exact ⟨mc, ns_hide h1 fun hm => let ⟨t, ht, e⟩ := List.mem_map.mp hm; (X.st t ht).2.1 e, h2⟩
    · obtain ⟨mg', bm, ob, h1, h2, h3, h4, h5⟩ := N.main
      refine ⟨mg', bm, ob, ns_hide h1 fun hm => let ⟨t, ht, e⟩ := List.mem_map.mp hm; (X.st t ht).1 e, h2, hideAll_get _ h3 fun hm => ?_, h4, h5⟩
      obtain ⟨t, ht, rfl⟩ := List.mem_map.mp hm
      obtain ⟨name, a, n1, n2, n3, n4⟩ := X.fn t ht
      have := (tab_of_top T KX n1 n2 n3 n4 (X.co t ht)).2
      rw [h3] at this; cases this; cases h4
  tree := tree
  K := K
  KX := fun a o e => hideAll_get _ (KX a o e) fun hm => by
    obtain ⟨t, ht, rfl⟩ := List.mem_map.mp hm
    rw [X.nK t ht] at e; cases e
  bb := T.builtins
  bm := by
    obtain ⟨bm, ob, h1, h2, h3, h4, r⟩ := T.bmain
    refine ⟨bm, ob, h1, h2, hideAll_get _ h3 fun hm => ?_, h4, r⟩
    obtain ⟨t, ht, rfl⟩ := List.mem_map.mp hm
    obtain ⟨name, a, n1, n2, n3, n4⟩ := X.fn t ht
    have := (tab_of_top T KX n1 n2 n3 n4 (X.co t ht)).2
    rw [h3] at this; cases this; cases h4
  tabs := tabs
  hid := fun t ht => hideAll_none _ (List.mem_map_of_mem ht)
  codes := fun t ht => codeHd_of_K (fun a o e => hideAll_get _ (KX a o e) fun hm => by
    obtain ⟨t, ht, rfl⟩ := List.mem_map.mp hm
    rw [X.nK t ht] at e; cases e) (X.co t ht)
  apartT := X.nd
end Mine

-- part Gw23
namespace Mine

/-- what a tree of questions gives under an oracle -/
def wpo (o : Nat → Nat → Bool) (n : Nat) {α : Type} : KasT α → (α → Prop) → Prop
  | .ret a, Q => Q a
  | .ask i j k, Q => i < n ∧ j < n ∧ wpo o n (k (o i j)) Q
theorem wpo_mono {o : Nat → Nat → Bool} {n : Nat} {α : Type} {Q Q' : α → Prop} (hq : ∀ a, Q a → Q' a) : ∀ t : KasT α, wpo o n t Q → wpo o n t Q'
  | .ret a, h => hq a h
  | .ask i j k, h => ⟨h.1, h.2.1, wpo_mono hq _ h.2.2⟩
theorem wpo_bind {o : Nat → Nat → Bool} {n : Nat} {α β : Type} {f : α → KasT β} {Q : β → Prop} : ∀ t : KasT α, wpo o n t (fun a => wpo o n (f a) Q) → wpo o n (t.bind f) Q
  | .ret a, h => h
  | .ask i j k, h => ⟨h.1, h.2.1, wpo_bind _ h.2.2⟩
theorem wpo_kas {o : Nat → Nat → Bool} {n : Nat} {α : Type} {cmp : Nat → Nat → (Bool → Shared → Prop) → Shared → Prop} {Q : α → Prop} {s : Shared} (hc : ∀ i j (C : Bool → Shared → Prop), i < n → j < n → C (o i j) s → cmp i j C s) : ∀ t : KasT α, wpo o n t Q → t.kasWp cmp (fun a s' => s' = s ∧ Q a) s
  | .ret a, h => ⟨rfl, h⟩
  | .ask i j k, h => hc i j _ h.1 h.2.1 (wpo_kas hc _ h.2.2)

section
variable (r : Nat → Int)
def Rk (p : Array Nat) (i : Nat) : Int := r (p.getD i 0)
def Pm (n : Nat) (p : Array Nat) : Prop := p.toList.Perm (List.range n)
def NonDec (p : Array Nat) (k : Nat) : Prop := ∀ i, i + 1 < k → Rk r p i ≤ Rk r p (i + 1)
def NonInc (p : Array Nat) (k : Nat) : Prop := ∀ i, i + 1 < k → Rk r p (i + 1) ≤ Rk r p i
variable {r}

theorem Pm.size {n : Nat} {p : Array Nat} (h : Pm n p) : p.size = n := by have := h.length_eq; simpa using this
theorem Pm.lt {n : Nat} {p : Array Nat} (h : Pm n p) (hn : 0 < n) (i : Nat) : p.getD i 0 < n := by
  rw [Array.getD_eq_getD_getElem?]
  cases e : p[i]? with
  | none => simpa using hn
  | some x =>
    have : x ∈ p.toList := by
      rw [← Array.getElem?_toList] at e
      exact List.mem_of_getElem? e
    simpa using h.mem_iff.mp this
theorem Pm.rev {n : Nat} {p : Array Nat} (h : Pm n p) (i j : Nat) : Pm n (kas_rev p i j) := (Array.perm_iff_toList_perm.mp (mirror_perm _ _ _ _)).trans h
theorem Pm.bub {n : Nat} {p : Array Nat} (h : Pm n p) (i j : Nat) : Pm n (bubble p i j) := (Array.perm_iff_toList_perm.mp (bubble_perm _ _ _)).trans h
theorem R_congr {p q : Array Nat} {i j : Nat} (h : p[i]? = q[j]?) : Rk r p i = Rk r q j := by unfold Rk; rw [Array.getD_eq_getD_getElem?, Array.getD_eq_getD_getElem?, h]
theorem R_rev {p : Array Nat} {i j : Nat} (hj : j ≤ p.size) (k : Nat) : Rk r (kas_rev p i j) k = if i ≤ k ∧ k < j then Rk r p (i + j - 1 - k) else Rk r p k := by
  have e := getElem?_mirror_all (xs := p) (i := i) hj k
  unfold kas_rev
  split
  · rename_i h; rw [if_pos h] at e; exact R_congr e
  · rename_i h; rw [if_neg h] at e; exact R_congr e
theorem R_revEq {p : Array Nat} {i j : Nat} (hj : j ≤ p.size) (heq : ∀ k, i ≤ k → k < j → Rk r p k = Rk r p (j - 1)) (k : Nat) : Rk r (kas_rev p i j) k = Rk r p k := by
  rw [R_rev hj]
  split
  · rename_i h; rw [heq k h.1 h.2, heq _ (by omega) (by omega)]
  · rfl
theorem R_bub {p : Array Nat} {src d : Nat} (hs : src < p.size) (hd : d ≤ src) (k : Nat) : Rk r (bubble p src d) k = if k = src - d then Rk r p src else if src - d < k ∧ k ≤ src then Rk r p (k - 1) else Rk r p k := by
  have e := getElem?_bubble hs d hd k
  by_cases h1 : k = src - d
  · rw [if_pos h1] at e ⊢; exact R_congr e
  · rw [if_neg h1] at e ⊢
    by_cases h2 : src - d < k ∧ k ≤ src
    · rw [if_pos h2] at e ⊢; exact R_congr e
    · rw [if_neg h2] at e ⊢; exact R_congr e

theorem NonDec.all {p : Array Nat} {k : Nat} (h : NonDec r p k) : ∀ {i j : Nat}, i ≤ j → j < k → Rk r p i ≤ Rk r p j := by
  intro i j hij
  induction hij with
  | refl => intro _; exact Int.le_refl _
  | step _ ih => intro hj; exact Int.le_trans (ih (by omega)) (h _ (by omega))
theorem NonInc.all {p : Array Nat} {k : Nat} (h : NonInc r p k) : ∀ {i j : Nat}, i ≤ j → j < k → Rk r p j ≤ Rk r p i := by
  intro i j hij
  induction hij with
  | refl => intro _; exact Int.le_refl _
  | step _ ih => intro hj; exact Int.le_trans (h _ (by omega)) (ih (by omega))

variable (r) in
/-- the oracle -/
def orc (i j : Nat) : Bool := decide (r i < r j)

theorem asc_ok {n : Nat} {p : Array Nat} (hP : Pm n p) (hn : 0 < n) : ∀ (f k : Nat), 1 ≤ k → k + f ≤ n → NonDec r p k → wpo (orc r) n (kas_asc p f k) (fun m => k ≤ m ∧ m ≤ k + f ∧ NonDec r p m ∧ (m < k + f → Rk r p m < Rk r p (m - 1)))
  | 0, k, h1, h2, h3 => ⟨Nat.le_refl _, Nat.le_refl _, h3, fun h => absurd h (Nat.lt_irrefl _)⟩
  | f + 1, k, h1, h2, h3 => by
    refine ⟨hP.lt hn _, hP.lt hn _, ?_⟩
    by_cases hc : Rk r p k < Rk r p (k - 1)
    · have : orc r (p.getD k 0) (p.getD (k - 1) 0) = true := decide_eq_true hc
      rw [this]
      exact ⟨Nat.le_refl _, by omega, h3, fun _ => hc⟩
    · have : orc r (p.getD k 0) (p.getD (k - 1) 0) = false := decide_eq_false hc
      rw [this]
      simp only [Bool.false_eq_true, if_false]
      refine wpo_mono (fun m hm => ⟨by omega, by omega, hm.2.2.1, fun h => hm.2.2.2 (by omega)⟩) _ (asc_ok hP hn f (k + 1) (by omega) (by omega) fun i hi => ?_)
      by_cases e : i + 1 = k
      · rw [e, show i = k - 1 from by omega]; omega
      · exact h3 i (by omega)

structure DInv (n : Nat) (p : Array Nat) (k q : Nat) : Prop where
  pm : Pm n p
  inc : NonInc r p k
  q1 : q + 1 ≤ k
  eq : ∀ i, k - 1 - q ≤ i → i < k → Rk r p i = Rk r p (k - 1)

theorem desc_ok {n : Nat} (hn : 0 < n) : ∀ (f : Nat) (p : Array Nat) (k q : Nat), k + f ≤ n → DInv (r := r) n p k q → wpo (orc r) n (kas_desc f p k q) (fun t => k ≤ t.2.1 ∧ t.2.1 ≤ k + f ∧ DInv (r := r) n t.1 t.2.1 t.2.2)
  | 0, p, k, q, h1, h2 => ⟨Nat.le_refl _, Nat.le_refl _, h2⟩
  | f + 1, p, k, q, h1, D => by
    have hq1 := D.q1
    refine ⟨D.pm.lt hn _, D.pm.lt hn _, ?_⟩
    by_cases hc : Rk r p k < Rk r p (k - 1)
    · have : orc r (p.getD k 0) (p.getD (k - 1) 0) = true := decide_eq_true hc
      rw [this]
      simp only [if_true]
      by_cases hq : q > 0
      · rw [if_pos hq]
        have e : ∀ i, Rk r (kas_rev p (k - (q + 1)) k) i = Rk r p i := R_revEq (by rw [D.pm.size]; omega) fun i hi hik => D.eq i (by omega) hik
        refine wpo_mono (fun t ht => ⟨by omega, by omega, ht.2.2⟩) _ (desc_ok hn f _ (k + 1) 0 (by omega) ⟨D.pm.rev _ _, fun i hi => ?_, by omega, fun i hi hik => ?_⟩)
        · rw [e, e]
          by_cases ek : i + 1 = k
          · rw [ek, show i = k - 1 from by omega]; omega
          · exact D.inc i (by omega)
        · rw [show i = k + 1 - 1 from by omega]
      · rw [if_neg hq]
        refine wpo_mono (fun t ht => ⟨by omega, by omega, ht.2.2⟩) _ (desc_ok hn f _ (k + 1) 0 (by omega) ⟨D.pm, fun i hi => ?_, by omega, fun i hi hik => ?_⟩)
        · by_cases ek : i + 1 = k
          · rw [ek, show i = k - 1 from by omega]; omega
          · exact D.inc i (by omega)
        · rw [show i = k + 1 - 1 from by omega]
    · have : orc r (p.getD k 0) (p.getD (k - 1) 0) = false := decide_eq_false hc
      rw [this]
      simp only [Bool.false_eq_true, if_false]
      refine ⟨D.pm.lt hn _, D.pm.lt hn _, ?_⟩
      by_cases hd : Rk r p (k - 1) < Rk r p k
      · have : orc r (p.getD (k - 1) 0) (p.getD k 0) = true := decide_eq_true hd
        rw [this]
        exact ⟨Nat.le_refl _, Nat.le_add_right _ _, D⟩
      · have : orc r (p.getD (k - 1) 0) (p.getD k 0) = false := decide_eq_false hd
        rw [this]
        simp only [Bool.false_eq_true, if_false]
        refine wpo_mono (fun t ht => ⟨by omega, by omega, ht.2.2⟩) _ (desc_ok hn f _ (k + 1) (q + 1) (by omega) ⟨D.pm, fun i hi => ?_, by omega, fun i hi hik => ?_⟩)
        · by_cases ek : i + 1 = k
          · rw [ek, show i = k - 1 from by omega]; omega
          · exact D.inc i (by omega)
        · have e1 : Rk r p (k + 1 - 1) = Rk r p (k - 1) := by rw [Nat.add_sub_cancel]; omega
          rw [e1]
          by_cases ek : i = k
          · rw [ek]; omega
          · exact D.eq i (by omega) (by omega)

def Pre (n : Nat) (t : Nat × Array Nat) : Prop := 1 ≤ t.1 ∧ t.1 ≤ n ∧ Pm n t.2 ∧ NonDec r t.2 t.1

theorem tail3_ok {n k : Nat} {p : Array Nat} (hn : 0 < n) (hP : Pm n p) (h1 : 1 ≤ k) (hk : k ≤ n) (hi : NonInc r p k) : wpo (orc r) n (kas_tail3 k n p) (Pre (r := r) n) := by
  refine wpo_bind _ (wpo_mono (fun m hm => ?_) _ (asc_ok (r := r) (hP.rev 0 k) hn (n - k) k h1 (by omega) fun i hik => ?_))
  · exact ⟨by omega, by omega, hP.rev 0 k, hm.2.2.1⟩
  · rw [R_rev (by rw [hP.size]; exact hk), R_rev (by rw [hP.size]; exact hk), if_pos (by omega), if_pos (by omega)]
    exact hi.all (by omega) (by omega)

theorem descPart_ok {n k : Nat} {p : Array Nat} (hn : 0 < n) (hP : Pm n p) (h1 : 1 ≤ k) (hk : k < n) (heq : ∀ i, i < k → Rk r p i = Rk r p (k - 1)) (hc : Rk r p k < Rk r p (k - 1)) : wpo (orc r) n (kas_descPart k n p) (Pre (r := r) n) := by
  refine wpo_bind _ (wpo_mono (fun t ht => ?_) _ (desc_ok (r := r) hn (n - (k + 1)) p (k + 1) 0 (by omega) ⟨hP, fun i hi => ?_, by omega, fun i hi hik => ?_⟩))
  · obtain ⟨h2, h3, D⟩ := ht
    have hq1 := D.q1
    split
    · have e : ∀ i, Rk r (kas_rev t.1 (t.2.1 - (t.2.2 + 1)) t.2.1) i = Rk r t.1 i := R_revEq (by rw [D.pm.size]; omega) fun i hi hik => D.eq i (by omega) hik
      exact tail3_ok hn (D.pm.rev _ _) (by omega) (by omega) fun i hi => by rw [e, e]; exact D.inc i hi
    · exact tail3_ok hn D.pm (by omega) (by omega) D.inc
  · by_cases ek : i + 1 = k
    · rw [ek, show i = k - 1 from by omega]; omega
    · rw [heq i (by omega), heq (i + 1) (by omega)]; exact Int.le_refl _
  · rw [show i = k + 1 - 1 from by omega]

theorem count_ok {n : Nat} {p : Array Nat} (hn : 0 < n) (hP : Pm n p) : wpo (orc r) n (kas_count n p) (Pre (r := r) n) := by
  refine wpo_bind _ (wpo_mono (fun m hm => ?_) _ (asc_ok (r := r) hP hn (n - 1) 1 (by omega) (by omega) fun i hi => by omega))
  obtain ⟨h1, h2, h3, h4⟩ := hm
  split
  · rename_i e
    have e := eq_of_beq e
    exact ⟨h1, by omega, hP, h3⟩
  · rename_i e
    have e : m ≠ n := fun e' => e (by rw [e']; exact beq_self_eq_true _)
    have hlt := h4 (by omega)
    split
    · refine ⟨hP.lt hn _, hP.lt hn _, ?_⟩
      by_cases hc : Rk r p 0 < Rk r p (m - 1)
      · have : orc r (p.getD 0 0) (p.getD (m - 1) 0) = true := decide_eq_true hc
        rw [this]
        exact ⟨h1, by omega, hP, h3⟩
      · have : orc r (p.getD 0 0) (p.getD (m - 1) 0) = false := decide_eq_false hc
        rw [this]
        simp only [Bool.false_eq_true, if_false]
        have heq : ∀ i, 0 ≤ i → i < m → Rk r p i = Rk r p (m - 1) := fun i _ hi => by
          have a1 := h3.all (Nat.zero_le i) hi
          have a2 := h3.all (i := i) (j := m - 1) (by omega) (by omega)
          omega
        have e2 : ∀ i, Rk r (kas_rev p 0 m) i = Rk r p i := R_revEq (by rw [hP.size]; omega) heq
        exact descPart_ok hn (hP.rev 0 m) h1 (by omega) (fun i hi => by rw [e2, e2]; exact heq i (by omega) hi) (by rw [e2, e2]; exact hlt)
    · have : m = 1 := by omega
      subst this
      exact descPart_ok hn hP h1 (by omega) (fun i hi => by rw [show i = 1 - 1 from by omega]) hlt

theorem place_ok {n k : Nat} {p : Array Nat} (hn : 0 < n) (hP : Pm n p) (hs : NonDec r p k) : ∀ (f l u : Nat), l ≤ u → u ≤ k → u - l ≤ f → (∀ i, i < l → Rk r p i ≤ Rk r p k) → (∀ i, u ≤ i → i < k → Rk r p k < Rk r p i) →
    wpo (orc r) n (kas_place p k f l u) (fun l => l ≤ k ∧ (∀ i, i < l → Rk r p i ≤ Rk r p k) ∧ (∀ i, l ≤ i → i < k → Rk r p k < Rk r p i))
  | 0, l, u, h1, h2, h3, h4, h5 => ⟨by omega, h4, fun i hi hik => h5 i (by omega) hik⟩
  | f + 1, l, u, h1, h2, h3, h4, h5 => by
    unfold kas_place
    split
    · exact ⟨by omega, h4, fun i hi hik => h5 i (by omega) hik⟩
    · rename_i hlu
      refine ⟨hP.lt hn _, hP.lt hn _, ?_⟩
      by_cases hc : Rk r p k < Rk r p ((l + u) / 2)
      · have : orc r (p.getD k 0) (p.getD ((l + u) / 2) 0) = true := decide_eq_true hc
        rw [this]
        simp only [if_true]
        refine place_ok hn hP hs f l ((l + u) / 2) (by omega) (by omega) (by omega) h4 fun i hi hik => ?_
        have := hs.all hi hik
        omega
      · have : orc r (p.getD k 0) (p.getD ((l + u) / 2) 0) = false := decide_eq_false hc
        rw [this]
        simp only [Bool.false_eq_true, if_false]
        refine place_ok hn hP hs f ((l + u) / 2 + 1) u (by omega) h2 (by omega) (fun i hi => ?_) h5
        have := hs.all (i := i) (j := (l + u) / 2) (by omega) (by omega)
        omega

theorem bin_ok {n : Nat} (hn : 0 < n) : ∀ (f : Nat) (p : Array Nat) (k : Nat), Pm n p → NonDec r p k → k + f = n → wpo (orc r) n (kas_bin f p k) (fun p => Pm n p ∧ NonDec r p n)
  | 0, p, k, hP, hs, e => ⟨hP, by rw [← e]; exact hs⟩
  | f + 1, p, k, hP, hs, e => by
    refine wpo_bind _ (wpo_mono (fun l hl => ?_) _ (place_ok (r := r) hn hP hs k 0 k (by omega) (by omega) (by omega) (fun i hi => by omega) (fun i hi hik => by omega)))
    obtain ⟨h1, h2, h3⟩ := hl
    have hks : k < p.size := by rw [hP.size]; omega
    refine bin_ok hn f _ (k + 1) (hP.bub _ _) (fun i hi => ?_) (by omega)
    rw [R_bub hks (by omega), R_bub hks (by omega)]
    have e1 : k - (k - l) = l := by omega
    rw [e1]
    by_cases c1 : i = l
    · rw [if_pos c1]
      rw [if_neg (by omega), if_pos (by omega)]
      rw [Nat.add_sub_cancel]
      by_cases c2 : i = k
      · omega
      · exact Int.le_of_lt (h3 i (by omega) (by omega))
    · rw [if_neg c1]
      by_cases c2 : i + 1 = l
      · rw [if_pos c2, if_neg (by omega)]
        exact h2 i (by omega)
      · rw [if_neg c2]
        by_cases c3 : i < l
        · rw [if_neg (by omega), if_neg (by omega)]
          exact hs i (by omega)
        · rw [if_pos (by omega), if_pos (by omega)]
          have := hs (i - 1) (by omega)
          rw [Nat.add_sub_cancel]
          rwa [show i - 1 + 1 = i from by omega] at this

/-- the sort of the interpreter's is a sort -/
theorem sort_ok {n : Nat} (hn : 0 < n) : wpo (orc r) n (kas_sort n) (fun p => Pm n p ∧ NonDec r p n) := by
  refine wpo_bind _ (wpo_mono (fun t ht => ?_) _ (count_ok (r := r) hn (show Pm n (List.toArray (List.range n)) from List.Perm.refl _)))
  obtain ⟨h1, h2, h3, h4⟩ := ht
  split
  · rw [Nat.max_eq_left h1]
    exact bin_ok hn _ _ _ h3 h4 (by omega)
  · rename_i hlt
    have : t.1 = n := by omega
    exact ⟨h3, by rw [← this]; exact h4⟩
end
end Mine

-- part Gw24
namespace Mine
section
variable {B : Bs} {n m : Nat} {st : Store}

/-- a new sequence is changed -/
theorem KH.upd {h h' h'' : Heap} {a : Addr} {o : Obj} (k : KH B h h') (ha : h.get? a = none) (ho : h'.get? a = some o) (hs : IsSeq o) (sb : Heap.SameBut a h' h'') : KH B h h'' where
  keep := fun b o hx e => sb.extBut b o (fun e' => by subst e'; rw [ha] at e; cases e) (k.keep b o hx e)
  tab := fun T => tabs_ne (k.tab T) (W := (· = a)) (fun b o hb e => sb.extBut b o hb e) (fun b hb ⟨t, ht, e⟩ => by
    obtain ⟨ps, h1, _⟩ := T t ht
    rw [e, hb, ha] at h1; cases h1) fun b o' hb e => by subst hb; rw [ho] at e; cases e; exact seq_notCode hs
  live := fun b o e => let ⟨o', e'⟩ := k.live b o e; ⟨o', sb.extBut b o' (fun e'' => by subst e''; rw [ha] at e; cases e) e'⟩

/-- an opaque list was changed -/
theorem sb_acc {H : Hd} {h h' : Heap} {D : Addr} {o o' : Obj} (S : SB B st H h) (hD : D ∈ H.xs) (ho : h.get? D = some o) (hs : IsSeq o) (ho' : h'.get? D = some o') (hs' : IsSeq o')
    (kp : ∀ b o, b ≠ D → h.get? b = some o → h'.get? b = some o) : SB B st H h' ∧ DKeep H h H h' := by
  have dk : DKeep H h H h' := ⟨⟨[], by simp⟩, fun _ h1 h2 => absurd h1 h2, fun b o hb hq e => kp b o (fun e' => hb (e' ▸ .inr hD)) e⟩
  refine ⟨⟨base_ne S.base (W := (· = D)) (fun b o hb e => kp b o hb e) (fun b hb => hb ▸ S.base.new _ (.inr hD)) (fun b o'' hb e => by subst hb; rw [ho] at e; cases e; exact seq_notCode hs), ⟨S.sto.len, S.sto.nd, fun k a l ha hl => ?_, fun a ha => ?_, S.sto.dj⟩⟩, dk⟩
  · obtain ⟨us, q, ho, hr⟩ := S.sto.at_ k a l ha hl
    exact ⟨us, q, kp a _ (fun e => S.sto.dj _ hD (e ▸ List.mem_of_getElem? ha)) ho, hr.ext dk⟩
  · by_cases e : a = D
    · subst e; exact ⟨_, ho', hs'⟩
    · obtain ⟨o, ho, hs⟩ := S.sto.live a ha; exact ⟨o, kp a o e ho, hs⟩

/-- the loop over the items: the keys are made -/
theorem keys_ok {A : Around} (hA : Rm n A) {E : Value → Shared → Prop} {s₀ s : Shared} {H : Hd} {D kS f : Addr} {e1 : Nat} {vs : List Value} {l kvs : List V} {Q : PySem.Fin → Shared → Prop}
    (S : SB B st ⟨H.hs, [D, kS] ++ H.xs⟩ s.heap) (kh : KH B s₀.heap s.heap) (hD0 : s₀.heap.get? D = none) (hk0 : s₀.heap.get? kS = none) (hDk : D ≠ kS) (hr : RepAll ⟨H.hs, [D, kS] ++ H.xs⟩ s.heap vs l)
    (hD : s.heap.get? D = some (seqObj "list" #[] e1)) (hk : s.heap.get? kS = some (seqObj "list" #[] 0)) (hlen : kvs.length = l.length) (h64 : l.length < 64)
    (hkey : ∀ (i : Nat) v k, l[i]? = some v → kvs[i]? = some k → PL B n st (fun xs => call (.ref f) xs) [v] k)
    (h : ∀ h' tk ks c, SB B st ⟨H.hs, [D, kS] ++ H.xs⟩ h' → KH B s₀.heap h' → RepAll ⟨H.hs, [D, kS] ++ H.xs⟩ h' vs l → RepAll ⟨H.hs, [D, kS] ++ H.xs⟩ h' ks kvs → h'.get? D = some (seqObj "list" #[] e1) → h'.get? kS = some (seqObj "list" ks.toArray c) →
      wpAny (model B.prog B.w) A (ksk_end D false vs.toArray e1 (.ref kS) ks.toArray) Q E { s with heap := h', toks := tk }) :
    wpAny (model B.prog B.w) A (ksk_rest D (.ref f) false vs.toArray e1 (.ref kS)) Q E s := by
  have hvl := hr.length
  unfold ksk_rest
  refine wpAny_bind (wpAny_rule ?_)
  rw [List.forIn_toArray]
  refine wpAny_bind (ksk_fold (fun i s' => ∃ h' tk ks c, s' = { s with heap := h', toks := tk } ∧ SB B st ⟨H.hs, [D, kS] ++ H.xs⟩ h' ∧ KH B s₀.heap h' ∧ RepAll ⟨H.hs, [D, kS] ++ H.xs⟩ h' vs l ∧ RepAll ⟨H.hs, [D, kS] ++ H.xs⟩ h' ks (kvs.take i) ∧ h'.get? D = some (seqObj "list" #[] e1) ∧ h'.get? kS = some (seqObj "list" ks.toArray c)) vs 0 s
    ⟨s.heap, s.toks, [], 0, rfl, S, kh, hr, by simpa using RepAll.nil, hD, by simpa using hk⟩ ?step ?done)
  case step =>
    rintro j x s' hx ⟨h', tk, ks, c, rfl, S', kh', hr', hks, hD', hk'⟩
    simp only [Nat.zero_add] at hks ⊢
    obtain ⟨v, hv, rx⟩ := hr'.get' hx
    have hj : j < l.length := (List.getElem?_eq_some_iff.mp hv).1
    obtain ⟨kv, hkv⟩ : ∃ kv, kvs[j]? = some kv := ⟨_, List.getElem?_eq_getElem (by omega)⟩
    have hksl : ks.length ≤ j := by have := hks.length; rw [List.length_take] at this; omega
    refine wpAny_bind (wpAny_attempt (wpAny_mono (hkey j v kv hv hkv A hA (fun _ _ => False) { s with heap := h', toks := tk } _ [x] S' (.one rx)) (fun k s'' q => ?_) fun _ _ hF => hF.elim))
    obtain ⟨⟨h2, tk2, rfl, kh2⟩, rk⟩ := q
    have kh2 : KH B h' h2 := kh2
    have S2 := S'.keeps kh2
    have hk2 := kh2.seq ⟨_, _, rfl⟩ hk'
    have hD2 := kh2.seq ⟨_, _, rfl⟩ hD'
    have s1 := Heap.SameBut.update h2 kS (Obj.mapSeq (·.push k))
    have ea : (List.toArray ks).push k = List.toArray (ks ++ [k]) := by simp
    obtain ⟨c2, hc2⟩ : ∃ c2, (h2.update kS (Obj.mapSeq (·.push k))).get? kS = some (seqObj "list" (List.toArray (ks ++ [k])) c2) := ⟨_, by rw [← ea]; exact get?_update_seq hk2 (·.push k)⟩
    obtain ⟨S3, dk3⟩ := sb_acc S2 (D := kS) (List.mem_append_left _ (by simp)) hk2 ⟨_, _, rfl⟩ hc2 ⟨_, _, rfl⟩ (fun b o hb e => s1.extBut b o hb e)
    refine wpAny_bind (listUpdate_at hk2 rfl ?_ (by rw [List.size_toArray, sizeLine_eq]; omega) (Nat.le_trans (Nat.le_of_eq (Array.size_push ..)) (by rw [List.size_toArray, sizeLine_eq]; omega)))
    refine wpAny_pure ⟨rfl, _, tk2, ks ++ [k], c2, rfl, S3, (kh'.trans kh2).upd hk0 hk2 ⟨_, _, rfl⟩ s1, (hr'.ext (.of_keeps kh2)).ext dk3, ?_, s1.extBut _ _ hDk hD2, hc2⟩
    rw [List.take_add_one, hkv]
    exact ((hks.ext (.of_keeps kh2)).ext dk3).append (.one (rk.ext dk3))
  case done =>
    rintro s' ⟨h', tk, ks, c, rfl, S', kh', hr', hks, hD', hk'⟩
    rw [List.take_of_length_le (by omega)] at hks
    refine wpAny_bind (listItems_at hk' rfl ?_)
    exact h h' tk ks c S' kh' hr' hks hD' hk'

/-- the sort itself and its end -/
theorem end_ok {A : Around} {E : Value → Shared → Prop} {s : Shared} {D kS : Addr} {e1 c : Nat} {vs ks : List Value} {κ : SortKind} {r : Nat → Int} {Q : PySem.Fin → Shared → Prop} (hlen : ks.length = vs.length) (h2 : 2 ≤ vs.length) (h64 : vs.length < 64) (hDk : D ≠ kS)
    (hD : s.heap.get? D = some (seqObj "list" #[] e1)) (hk : s.heap.get? kS = some (seqObj "list" ks.toArray c))
    (hkind : ∀ Q : SortKind → Shared → Prop, Q κ s → wpAny (model B.prog B.w) A (keyKind' ks.toArray) Q (fun _ _ => False) s)
    (hcmp : ∀ i j (C : Bool → Shared → Prop), i < vs.length → j < vs.length → C (orc r i j) s → wpAny (model B.prog B.w) A (keyLt' κ (ks.getD i .none) (ks.getD j .none)) C (fun _ _ => False) s)
    (h : ∀ (p : List Nat) h' e', p.Perm (List.range vs.length) → p.Pairwise (fun a b => r a ≤ r b) → (∀ b o, b ≠ D → b ≠ kS → s.heap.get? b = some o → h'.get? b = some o) → h'.get? D = some (seqObj "list" (p.map fun i => vs.getD i .none).toArray e') → (∃ e'', h'.get? kS = some (seqObj "list" #[] e'')) →
      Q (.done (.ret .none)) { s with heap := h' }) :
    wpAny (model B.prog B.w) A (ksk_end D false vs.toArray e1 (.ref kS) ks.toArray) Q E s := by
  have hn2 : ¬ vs.toArray.size < 2 := by rw [List.size_toArray]; omega
  unfold ksk_end
  simp only [Bool.false_eq_true, if_false]
  rw [if_neg hn2, if_neg hn2]
  refine wpAny_bind (wpAny_mono (hkind (fun κ' s' => κ' = κ ∧ s' = s) ⟨rfl, rfl⟩) (fun κ' s0 hq => ?_) fun _ _ x => x.elim)
  obtain ⟨rfl, rfl⟩ := hq
  have hw := wpo_kas (s := s0) (cmp := kas_ask B.prog B.w A κ' ks) (fun i j C hi hj hc => hcmp i j C hi hj hc) _ (sort_ok (r := r) (n := vs.length) (by omega))
  refine wpAny_bind (wpAny_mono (kat_run (Q := fun st' s' => s' = s0 ∧ ∃ p : Array Nat, p.size = vs.length ∧ arrOf st' = p.map (kas_item ((List.toArray ks).zip (List.toArray vs))) ∧ failedOf st' = none ∧ Pm vs.length p ∧ NonDec r p vs.length) hlen h2 h64 (fun p' st' s' a1 a2 a3 a4 => ⟨a4.1, p', a1, a2, a3, a4.2⟩) hw) ?_ fun _ _ x => x)
  rintro ⟨⟨⟩, st'⟩ s' ⟨rfl, p, hp, har, hf, hP, hS⟩
  have hout := kat_snds hlen har
  have s1 := Heap.SameBut.update s'.heap kS (Obj.mapSeq fun _ => (#[] : Array Value))
  obtain ⟨ck, hck⟩ : ∃ ck, (s'.heap.update kS (Obj.mapSeq fun _ => (#[] : Array Value))).get? kS = some (seqObj "list" #[] ck) := ⟨_, get?_update_seq hk fun _ => #[]⟩
  have hD1 := s1.extBut _ _ hDk hD
  generalize hO : p.toList.map (fun i => vs.getD i Value.none) = out at hout
  have hol : out.length = vs.length := by rw [← hO, List.length_map, Array.length_toList, hp]
  have s2 := Heap.SameBut.update (s'.heap.update kS (Obj.mapSeq fun _ => (#[] : Array Value))) D (Obj.mapSeq fun _ => List.toArray out)
  obtain ⟨c2, hc2⟩ : ∃ c2, ((s'.heap.update kS (Obj.mapSeq fun _ => (#[] : Array Value))).update D (Obj.mapSeq fun _ => List.toArray out)).get? D = some (seqObj "list" (List.toArray out) c2) := ⟨_, get?_update_seq hD1 fun _ => List.toArray out⟩
  unfold ksk_tail
  dsimp only
  rw [hout]
  simp only [Bool.false_eq_true, if_false]
  refine wpAny_bind (listUpdate_at hk rfl ?_ (by rw [List.size_toArray, sizeLine_eq]; omega) (Nat.zero_le _))
  refine wpAny_bind (wpAny_letGo ?_)
  refine wpAny_bind (seqEpoch_at hD1 rfl ?_)
  refine wpAny_bind (listUpdate_at hD1 rfl ?_ (Nat.zero_le _) (by rw [List.size_toArray, hol, sizeLine_eq]; omega))
  rw [hf]
  simp only [bne_self_eq_false, Bool.false_eq_true, if_false]
  refine wpAny_pure ?_
  refine h p.toList _ c2 hP ?_ (fun b o h1 h2 e => s2.extBut b o h1 (s1.extBut b o h2 e)) (by rw [hO]; exact hc2) ⟨ck, s2.extBut _ _ hDk.symm hck⟩
  have hall : ∀ i j (hi : i < p.toList.length) (hj : j < p.toList.length), i < j → r p.toList[i] ≤ r p.toList[j] := fun i j hi hj hij => by
    have := hS.all (Nat.le_of_lt hij) (by rw [Array.length_toList, hp] at hj; exact hj)
    simp only [Rk, Array.getD_eq_getD_getElem?] at this
    rw [Array.getElem?_eq_getElem (by simpa using hi), Array.getElem?_eq_getElem (by simpa using hj)] at this
    simpa using this
  exact List.pairwise_iff_getElem.mpr hall
end
end Mine

-- part Gw25
namespace Mine
section
variable {B : Bs} {n m : Nat} {st : Store}

theorem RepAll.getD {H : Hd} {h : Heap} {vs : List Value} {l : List V} (r : RepAll H h vs l) : ∀ p : List Nat, (∀ i ∈ p, i < l.length) → RepAll H h (p.map fun i => vs.getD i .none) (p.map fun i => l.getD i .none)
  | [], _ => .nil
  | i :: p, hp => by
    have hi := hp i (by simp)
    obtain ⟨x, hx, rx⟩ := r.get (i := i) (v := l[i]) (List.getElem?_eq_getElem hi)
    refine .cons ?_ (RepAll.getD r p fun j hj => hp j (by simp [hj]))
    show Rep H h (vs.getD i Value.none) (l.getD i V.none)
    rw [List.getD_eq_getElem?_getD, List.getD_eq_getElem?_getD, hx, List.getElem?_eq_getElem hi]
    exact rx

/-- sorted with a key, of a list -/
theorem o_sortedKey {f : Addr} {a : V} {l kvs out : List V} {κ : SortKind} {r : Nat → Int} (hl : lis st a = some l) (hlen : kvs.length = l.length) (h2 : 2 ≤ l.length) (h64 : l.length < 64)
    (hkey : ∀ (i : Nat) v k, l[i]? = some v → kvs[i]? = some k → PL B n st (fun xs => call (.ref f) xs) [v] k)
    (hkind : ∀ A, Rm n A → ∀ H (s : Shared) ks, RepAll H s.heap ks kvs → ∀ Q : SortKind → Shared → Prop, Q κ s → wpAny (model B.prog B.w) A (keyKind' ks.toArray) Q (fun _ _ => False) s)
    (hcmp : ∀ A, Rm n A → ∀ H (s : Shared) ks, RepAll H s.heap ks kvs → ∀ i j (C : Bool → Shared → Prop), i < l.length → j < l.length → C (orc r i j) s → wpAny (model B.prog B.w) A (keyLt' κ (ks.getD i .none) (ks.getD j .none)) C (fun _ _ => False) s)
    (hout : ∀ p : List Nat, p.Perm (List.range l.length) → p.Pairwise (fun a b => r a ≤ r b) → p.map (fun i => l.getD i .none) = out) :
    PL B (n + 2) st (fun xs => call (.builtin "sorted") xs [("key", .ref f)]) [a] (.lst out) := fun A hA E s H xs S rr => by
  cases rr with
  | cons r1 rr =>
  cases rr
  obtain ⟨ad, vs, q, rfl, ho, hr⟩ := lis_at (B := B) S.sto r1 hl
  have hvl := hr.length
  refine call_function_entry_kw kind_sorted plain_sorted entry_sorted (ksk_s1 _ _) ?_
  unfold Builtin.«sorted»
  refine wpAny_bind (m := checkCount "sorted" 1 1 _) (wpAny_pure ?_)
  refine wpAny_bind (collect_list (vs := vs.toList) (by simpa using isList_of ho) ?_ (by rw [sizeLine_eq]; omega))
  refine wpAny_bind (wpAny_newList ?_ (by rw [sizeLine_eq]; omega))
  have hsz : ((s.heap.push (seqObj "list" #[] 0)).update s.heap.objs.size (Obj.mapSeq (· ++ vs.toList.toArray))).objs.size = s.heap.objs.size + 1 := by
    rw [Heap.size_update, size_push']
  have hoL : (((s.heap.push (seqObj "list" #[] 0)).update s.heap.objs.size (Obj.mapSeq (· ++ vs.toList.toArray))).push (seqObj "list" vs.toList.toArray 0)).get? (s.heap.objs.size + 1) = some (seqObj "list" vs.toList.toArray 0) := by
    rw [← hsz]; exact Heap.get?_push_size _ rfl
  have keep : ∀ b o, s.heap.get? b = some o → (((s.heap.push (seqObj "list" #[] 0)).update s.heap.objs.size (Obj.mapSeq (· ++ vs.toList.toArray))).push (seqObj "list" vs.toList.toArray 0)).get? b = some o := fun b o q => by
    have hlt : b < s.heap.objs.size := Heap.lt_size q
    rw [Heap.get?_push_ne _ _ _ (by rw [hsz]; exact Nat.ne_of_lt (Nat.lt_succ_of_lt hlt)), Heap.get?_update_ne _ _ _ _ (Nat.ne_of_lt hlt), Heap.get?_push_ne _ _ _ (Nat.ne_of_lt hlt)]
    exact q
  have hDs : (((s.heap.push (seqObj "list" #[] 0)).update s.heap.objs.size (Obj.mapSeq (· ++ vs.toList.toArray))).push (seqObj "list" vs.toList.toArray 0)).objs.size = s.heap.objs.size + 2 := by rw [size_push', hsz]
  show wpAny _ _ _ _ _ { s with heap := ((s.heap.push (seqObj "list" #[] 0)).update s.heap.objs.size (Obj.mapSeq (· ++ vs.toList.toArray))).push (seqObj "list" vs.toList.toArray 0) }
  rw [hsz]
  generalize hh1 : ((s.heap.push (seqObj "list" #[] 0)).update s.heap.objs.size (Obj.mapSeq (· ++ vs.toList.toArray))).push (seqObj "list" vs.toList.toArray 0) = h1 at hoL keep hDs
  have nn : ∀ b, s.heap.objs.size ≤ b → s.heap.get? b = none := fun b hb => by
    cases e : s.heap.get? b with
    | none => rfl
    | some o => exact absurd (Heap.lt_size e) (Nat.not_lt.mpr hb)
  refine wpAny_bind (wpAny_holding (wpAny_call_entry_kw slot_list_sort ⟨_, hoL, rfl⟩ entry_list_sort ?_ (ksk_l1 _ _)))
  show wpAny (model B.prog B.w) A.in1.in1 (Builtin.«list.sort» ⟨[.ref (s.heap.objs.size + 1)], [(Str.ofString "key", .ref f)]⟩) _ _ _
  rw [ksk_t1]
  have hA2 : Rm n A.in1.in1 := hA.in1.in1
  have hD0 : s.heap.get? (s.heap.objs.size + 1) = none := nn _ (Nat.le_succ _)
  have hk0 : s.heap.get? (s.heap.objs.size + 3) = none := nn _ (by omega)
  have hDk : (s.heap.objs.size + 1 : Addr) ≠ s.heap.objs.size + 3 := Nat.ne_of_lt (by omega)
  unfold ksk_tree
  refine wpAny_bind (listItems_at hoL rfl ?_)
  have s1 := Heap.SameBut.update h1 (s.heap.objs.size + 1) (Obj.mapSeq fun _ => (#[] : Array Value))
  obtain ⟨e1, ho1⟩ : ∃ e1, (h1.update (s.heap.objs.size + 1) (Obj.mapSeq fun _ => (#[] : Array Value))).get? (s.heap.objs.size + 1) = some (seqObj "list" #[] e1) := ⟨_, get?_update_seq hoL fun _ => #[]⟩
  refine wpAny_bind (listUpdate_at hoL rfl ?_ (by rw [List.size_toArray, sizeLine_eq]; omega) (Nat.zero_le _))
  refine wpAny_bind (seqEpoch_at ho1 rfl ?_)
  refine wpAny_bind (wpAny_newTuple ?_ (by show vs.toList.length ≤ _; rw [sizeLine_eq]; omega))
  refine wpAny_bind (wpAny_newList ?_ (Nat.zero_le _))
  refine wpAny_holding ?_
  have hz2 : (h1.update (s.heap.objs.size + 1) (Obj.mapSeq fun _ => (#[] : Array Value))).objs.size = s.heap.objs.size + 2 := by rw [Heap.size_update, hDs]
  have kh2 : KH B s.heap (h1.update (s.heap.objs.size + 1) (Obj.mapSeq fun _ => (#[] : Array Value))) := (KH.of (B := B) keep).upd hD0 hoL ⟨_, _, rfl⟩ s1
  generalize h1.update (s.heap.objs.size + 1) (Obj.mapSeq fun _ => (#[] : Array Value)) = g2 at *
  have hz3 : (g2.push (seqObj "tuple" vs.toList.toArray 0)).objs.size = s.heap.objs.size + 3 := by rw [size_push', hz2]
  show wpAny (model B.prog B.w) A.in1.in1 (ksk_rest (s.heap.objs.size + 1) (.ref f) false vs.toList.toArray e1 (.ref (g2.push (seqObj "tuple" vs.toList.toArray 0)).objs.size)) _ _ { s with heap := (g2.push (seqObj "tuple" vs.toList.toArray 0)).push (seqObj "list" #[] 0) }
  have kS4 : ((g2.push (seqObj "tuple" vs.toList.toArray 0)).push (seqObj "list" #[] 0)).get? (s.heap.objs.size + 3) = some (seqObj "list" #[] 0) := by rw [← hz3]; exact Heap.get?_push_size _ rfl
  have hp4 : ∀ b o, g2.get? b = some o → ((g2.push (seqObj "tuple" vs.toList.toArray 0)).push (seqObj "list" #[] 0)).get? b = some o := fun b o e => Heap.get?_push_of_some _ (Heap.get?_push_of_some _ e)
  have D4 := hp4 _ _ ho1
  have kh4 := kh2.trans (.of hp4)
  rw [hz3]
  generalize (g2.push (seqObj "tuple" vs.toList.toArray 0)).push (seqObj "list" #[] 0) = g4 at *
  obtain ⟨SB4, dk4⟩ := sim_more (Y := [s.heap.objs.size + 1, s.heap.objs.size + 3]) S kh4 (fun a ha => by
    simp only [List.mem_cons, List.not_mem_nil, or_false] at ha
    rcases ha with rfl | rfl
    · exact hD0
    · exact hk0) (fun a ha => by
    simp only [List.mem_cons, List.not_mem_nil, or_false] at ha
    rcases ha with rfl | rfl
    · exact ⟨_, D4, _, _, rfl⟩
    · exact ⟨_, kS4, _, _, rfl⟩)
  refine keys_ok (s₀ := s) (kvs := kvs) hA2 SB4 kh4 hD0 hk0 hDk (hr.ext dk4) D4 kS4 hlen h64 hkey fun h' tk ks c SB5 kh5 hr5 hks D5 kS5 => ?_
  have hkl := hks.length
  refine end_ok (s := { s with heap := h', toks := tk }) (κ := κ) (r := r) (by omega) (by omega) (by omega) hDk D5 kS5 (fun Q hq => hkind _ hA2 _ _ _ hks Q hq) (fun i j C hi hj hc => hcmp _ hA2 _ _ _ hks i j C (by omega) (by omega) hc) fun p h6 e6 hp1 hp2 kp6 D6 kS6 => ?_
  refine ⟨_, rfl, wpAny_pure ⟨_, rfl, ?_⟩⟩
  have kk : ∀ b o, ¬ Ex B b o → s.heap.get? b = some o → h6.get? b = some o := fun b o hx e => kp6 b o (fun e' => by subst e'; rw [hD0] at e; cases e) (fun e' => by subst e'; rw [hk0] at e; cases e) (kh5.keep b o hx e)
  have kh6 : KH B s.heap h6 := by
    have T6 : TabsOk B s.heap → TabsOk B h6 := fun T => tabs_ne (kh5.tab T) (W := fun b => b = s.heap.objs.size + 1 ∨ b = s.heap.objs.size + 3) (fun b o hb e => kp6 b o (fun e' => hb (.inl e')) (fun e' => hb (.inr e')) e) (fun b hb ⟨t, ht, e⟩ => by
      obtain ⟨ps, h1, _⟩ := T t ht
      rw [e] at h1
      rcases hb with rfl | rfl
      · rw [hD0] at h1; cases h1
      · rw [hk0] at h1; cases h1) fun b o hb e => by
      rcases hb with rfl | rfl
      · rw [D5] at e; cases e; exact seq_notCode ⟨_, _, rfl⟩
      · rw [kS5] at e; cases e; exact seq_notCode ⟨_, _, rfl⟩
    refine ⟨kk, T6, fun b o e => ?_⟩
    by_cases hx : Ex B b o
    · exact tab_live (T6 S.base.tab) hx
    · exact ⟨o, kk b o hx e⟩
  have hDH : ¬ H.has (s.heap.objs.size + 1) := fun hh => by
    obtain ⟨o, e, _⟩ := S.sto.live _ hh
    rw [hD0] at e; cases e
  refine ⟨⟨h6, tk, rfl, kh6⟩, .lst (vs := (p.map fun i => vs.toList.getD i .none).toArray) (n := e6) hDH D6 ?_⟩
  have hpl : ∀ i ∈ p, i < l.length := fun i hi => by
    have := hp1.mem_iff.mp hi
    rw [List.mem_range] at this; omega
  rw [← hout p (by rw [← hvl]; exact hp1) hp2]
  exact (RepAll.getD hr p hpl).ext (.of_keeps kh6)
end
end Mine

-- part Gw26
namespace Mine

def lexlt (x y : Int × Int) : Bool := decide (x.1 < y.1) || (x.1 == y.1 && decide (x.2 < y.2))
theorem lexlt_iff {x y : Int × Int} : lexlt x y = true ↔ x.1 < y.1 ∨ (x.1 = y.1 ∧ x.2 < y.2) := by simp [lexlt]
def rank (ks : List (Int × Int)) (x : Int × Int) : Int := ((ks.filter fun k => lexlt k x).length : Nat)
theorem filter_le {α : Type} {p q : α → Bool} (h : ∀ x, p x = true → q x = true) : ∀ l : List α, (l.filter p).length ≤ (l.filter q).length
  | [] => Nat.le_refl _
  | a :: l => by
    have ih := filter_le h l
    simp only [List.filter_cons]
    cases hp : p a
    · cases hq : q a <;> simp <;> omega
    · rw [h a hp]; simp; omega
theorem filter_lt {α : Type} {p q : α → Bool} (h : ∀ x, p x = true → q x = true) {a : α} (ha : p a = false) (hq : q a = true) : ∀ l : List α, a ∈ l → (l.filter p).length < (l.filter q).length
  | b :: l, hm => by
    simp only [List.filter_cons]
    rcases List.mem_cons.mp hm with rfl | hm
    · rw [ha, hq]; have := filter_le h l; simp; omega
    · have ih := filter_lt h ha hq l hm
      cases hp : p b
      · cases hq : q b <;> simp <;> omega
      · rw [h b hp]; simp; omega
theorem rank_lt {ks : List (Int × Int)} {x y : Int × Int} (hx : x ∈ ks) : decide (rank ks x < rank ks y) = lexlt x y := by
  cases h : lexlt x y with
  | true =>
    have h' := lexlt_iff.mp h
    have := filter_lt (p := fun k => lexlt k x) (q := fun k => lexlt k y) (fun k hk => lexlt_iff.mpr (by have := lexlt_iff.mp hk; omega)) (a := x) (by simp [lexlt]) h ks hx
    simp only [rank]
    exact decide_eq_true (by omega)
  | false =>
    have h' : ¬ (x.1 < y.1 ∨ (x.1 = y.1 ∧ x.2 < y.2)) := fun e => by rw [lexlt_iff.mpr e] at h; cases h
    have := filter_le (p := fun k => lexlt k y) (q := fun k => lexlt k x) (fun k hk => lexlt_iff.mpr (by have := lexlt_iff.mp hk; omega)) ks
    simp only [rank]
    exact decide_eq_false (by omega)

section
variable {B : Bs} {n m : Nat} {st : Store}

theorem pair_of_rep {H : Hd} {h : Heap} {x : Value} {a b : Int} (r : Rep H h x (.tup [.int a, .int b])) : ∃ ad q t u, x = .ref ad ∧ h.get? ad = some (tupObj #[.int a t, .int b u] q) := by
  cases r with
  | @tup ad vs q l ha ho hr =>
    obtain ⟨vl⟩ := vs
    cases hr with
    | cons r1 hr =>
      cases hr with
      | cons r2 hr =>
        cases hr; cases r1; cases r2
        exact ⟨ad, q, _, _, rfl, ho⟩

theorem tups_of_rep {H : Hd} {h : Heap} : ∀ {ks : List Value} {kz : List (Int × Int)}, RepAll H h ks (kz.map fun k => .tup [.int k.1, .int k.2]) → ∃ fs, KatTups h ks fs ∧ fs.length = kz.length ∧ ∀ v ∈ fs, ∃ i t, v = .int i t
  | _, [], .nil => ⟨[], .nil, rfl, by simp⟩
  | _, k :: kz, .cons r1 r => by
    obtain ⟨fs, h1, h2, h3⟩ := tups_of_rep (kz := kz) r
    obtain ⟨ad, q, t, u, rfl, ho⟩ := pair_of_rep r1
    refine ⟨.int k.1 t :: fs, .cons ho rfl rfl rfl h1, by simp [h2], fun v hv => ?_⟩
    rcases List.mem_cons.mp hv with rfl | hv
    · exact ⟨_, _, rfl⟩
    · exact h3 v hv

theorem kind_pairs {kz : List (Int × Int)} (hne : 0 < kz.length) (A : Around) (H : Hd) (s : Shared) (ks : List Value) (hr : RepAll H s.heap ks (kz.map fun k => .tup [.int k.1, .int k.2])) (Q : SortKind → Shared → Prop) (hq : Q (tuples' true) s) : wpAny (model B.prog B.w) A (keyKind' ks.toArray) Q (fun _ _ => False) s := by
  obtain ⟨fs, h1, h2, h3⟩ := tups_of_rep hr
  refine kat_kind (T := .type "int") h1 (by omega) (fun v hv => ?_) (by decide) hq
  obtain ⟨i, t, rfl⟩ := h3 v hv
  exact fun A Q E s _ hq => wpAny_pure hq

theorem lt_pairs {kz : List (Int × Int)} (A : Around) (H : Hd) (s : Shared) (ks : List Value) (hr : RepAll H s.heap ks (kz.map fun k => .tup [.int k.1, .int k.2])) (i j : Nat) (x y : Int × Int) (hx : kz[i]? = some x) (hy : kz[j]? = some y) (C : Bool → Shared → Prop) (hc : C (lexlt x y) s) : wpAny (model B.prog B.w) A (keyLt' (tuples' true) (ks.getD i .none) (ks.getD j .none)) C (fun _ _ => False) s := by
  obtain ⟨vx, h1, r1⟩ := hr.get (i := i) (v := .tup [.int x.1, .int x.2]) (by simp [hx])
  obtain ⟨vy, h2, r2⟩ := hr.get (i := j) (v := .tup [.int y.1, .int y.2]) (by simp [hy])
  obtain ⟨ax, qx, tx, ux, rfl, hox⟩ := pair_of_rep r1
  obtain ⟨ay, qy, ty, uy, rfl, hoy⟩ := pair_of_rep r2
  rw [List.getD_eq_getElem?_getD, List.getD_eq_getElem?_getD, h1, h2]
  refine kat_lt hox rfl hoy rfl ?_
  refine kat_cons (wpAny_eqBool_int ?_)
  by_cases e1 : x.1 = y.1
  · rw [show (x.1 == y.1) = true from by simp [e1]]
    refine kat_yes (kat_cons (wpAny_eqBool_int ?_))
    by_cases e2 : x.2 = y.2
    · rw [show (x.2 == y.2) = true from by simp [e2]]
      refine kat_yes (kat_nil ?_)
      have : lexlt x y = false := by simp [lexlt, e1, e2]
      rw [this] at hc
      exact hc
    · rw [show (x.2 == y.2) = false from by simp [e2]]
      refine kat_no ?_
      refine kat_one _ _ (lt_int ?_)
      have : lexlt x y = decide (x.2 < y.2) := by simp [lexlt, e1]
      rw [this] at hc
      exact hc
  · rw [show (x.1 == y.1) = false from by simp [e1]]
    refine kat_no (oneLt_int ?_)
    have : lexlt x y = decide (x.1 < y.1) := by simp [lexlt, e1]
    rw [this] at hc
    exact hc

theorem perm_getD {α : Type} (d : α) (as : List α) : (List.range as.length).map (fun i => as.getD i d) = as := by
  apply List.ext_getElem
  · simp
  · intro i h1 h2
    simp at h1
    simp [h1]

/-- sorted with a key of two numbers -/
theorem o_sortedPairs {α : Type} {f : Addr} {a : V} (as out : List α) (c : α → V) (key : α → Int × Int) (hl : lis st a = some (as.map c)) (h2 : 2 ≤ as.length) (h64 : as.length < 64)
    (hkey : ∀ x ∈ as, PL B n st (fun xs => call (.ref f) xs) [c x] (.tup [.int (key x).1, .int (key x).2]))
    (hu : ∀ as' : List α, as'.Perm as → as'.Pairwise (fun x y => lexlt (key y) (key x) = false) → as' = out) :
    PL B (n + 2) st (fun xs => call (.builtin "sorted") xs [("key", .ref f)]) [a] (.lst (out.map c)) := by
  obtain ⟨d, hd⟩ : ∃ d, d ∈ as := by
    cases as with
    | nil => simp at h2
    | cons x _ => exact ⟨x, by simp⟩
  refine o_sortedKey (κ := tuples' true) (r := fun i => rank (as.map key) (key (as.getD i d))) (kvs := (as.map key).map fun k => .tup [.int k.1, .int k.2]) hl (by simp) (by simpa using h2) (by simpa using h64) (fun i v k hv hk => ?_) (fun A hA H s ks hr Q hq => kind_pairs (by simp; omega) A H s ks hr Q hq) (fun A hA H s ks hr i j C hi hj hc => ?_) (fun p hp1 hp2 => ?_)
  · simp only [List.getElem?_map] at hv hk
    cases hx : as[i]? with
    | none => rw [hx] at hv; cases hv
    | some x =>
      rw [hx] at hv hk; cases hv; cases hk
      exact hkey x (List.mem_of_getElem? hx)
  · simp only [List.length_map] at hi hj
    refine lt_pairs A H s ks hr i j (key as[i]) (key as[j]) (by simp [hi]) (by simp [hj]) C ?_
    have e : orc (fun i => rank (as.map key) (key (as.getD i d))) i j = lexlt (key as[i]) (key as[j]) := by
      unfold orc
      rw [rank_lt (List.mem_map_of_mem (by rw [List.getD_eq_getElem?_getD, List.getElem?_eq_getElem hi]; exact List.getElem_mem hi))]
      rw [List.getD_eq_getElem?_getD, List.getElem?_eq_getElem hi, List.getD_eq_getElem?_getD, List.getElem?_eq_getElem hj]
      rfl
    rw [e] at hc
    exact hc
  · simp only [List.length_map] at hp1
    have hpi : ∀ i ∈ p, i < as.length := fun i hi => by have := hp1.mem_iff.mp hi; simpa using this
    have e1 : p.map (fun i => (as.map c).getD i V.none) = (p.map fun i => as.getD i d).map c := by
      rw [List.map_map]
      refine List.map_congr_left fun i hi => ?_
      have := hpi i hi
      simp [List.getD_eq_getElem?_getD, this]
    rw [e1]
    congr 1
    refine hu _ ?_ ?_
    · have := hp1.map (fun i => as.getD i d)
      rwa [perm_getD] at this
    · refine List.pairwise_map.mpr (hp2.imp_of_mem fun {i j} hi hj hij => ?_)
      have hmem : key (as.getD j d) ∈ as.map key := List.mem_map_of_mem (by rw [List.getD_eq_getElem?_getD, List.getElem?_eq_getElem (hpi j hj)]; exact List.getElem_mem _)
      rw [← rank_lt (y := key (as.getD i d)) hmem]
      exact decide_eq_false (by omega)
end
end Mine

-- part Gw27
namespace Mine
section
variable {B : Bs} {n m : Nat} {env : Env} {ρ : Nm} {st : Store} {Φ : Fl → Nm → Store → Prop} {Ψ : V → Store → Prop}

/-- a builtin called by its name with a lambda as its key -/
theorem pe_callKeyB {x : Str} {np pos kp : Pos} {e : Expr} {es : List Expr} {id : String} {params : Arguments} {lbody : Expr} {lscope : Scope} {lpos : Pos} {t : Tab} {vs : List V} {c : V} (hv : (B.mg x).or (B.mb x) = some (.builtin id)) (hk : env.kindOf x = some .globalImplicit) (site : Site B env params lscope t)
    (ha : PEs B n env ρ st (e :: es) vs) (h2 : ∀ B', Like B B' → ∀ f pm cv ctv, LamOk B' f (kla_fn "<lambda>" t.q params lbody lscope [] pm cv ctv) lbody → PL B' n st (fun xs => call (.builtin id) xs [("key", .ref f)]) vs c) (hd : (x == ("__debug__" : Str)) = false := by kernel_rfl)
    (he : ∀ pos, backTo pos (starEach (e :: es) env) = (false, eval e env) :: backTo pos (starEach es env) := by intro _; rfl) (hplain : ∀ pos, (backTo pos (starEach es env)).any (·.1) = false := by intro _; rfl) : PE B n env ρ st (.Call (.Name x np) (e :: es) [⟨some "key", .Lambda params lbody lscope lpos, kp⟩] pos) c := fun A hA E s H S => by
  refine wpAny_Call_ofName (ld_glob S hk hv ?_ hd)
  refine callWith_builtin_kwB (by rw [he]; simp only [List.any_cons, Bool.false_or]; exact hplain pos) rfl ?_
  rw [he]
  refine evalArgs_kwB rfl ?_
  rw [← he]
  refine wpAny_mono (ha A hA E s H pos S) (fun xs s₁ ⟨k1, r1⟩ => ?_) fun _ _ e => e
  have S' := S.keeps (kp_get k1)
  refine wpAny_evalAll_cons (wpAny_bind (lam_eval S' site.mem site.code site.qual site.dflt site.clos fun f cv ctv h'' tk' kh hf ho' hc => wpAny_bind (wpAny_standAt (wpAny_pure (wpAny_evalAll_nil ?_)))))
  have S'' := S'.keeps kh
  have hO := h2 (B.grow S''.sb) (like_grow _) f _ cv ctv (lamOk_grow S''.sb site.ok ho' hc)
  refine wpAny_mono (hO A hA E { s₁ with heap := h'', toks := tk' } H xs (sb_grow S''.sb) (r1.ext (.of_keeps kh))) (fun z s₂ ⟨k2, r2⟩ => ?_) fun _ _ e => e
  exact ⟨kp_trans (kp_trans k1 ⟨_, _, rfl, kh⟩) (kt_back S''.sb k2), r2⟩

/-- a method without arguments -/
theorem pm_meth0 {o : Expr} {name : Str} {apos cpos : Pos} {id : String} {v₀ : V} {l : List V} (ho : PE B n env ρ st o v₀) (hl : lis st v₀ = some l)
    (ha : OM B n m st (fun xs => call (.builtin id) xs) [v₀] Ψ) (slot : Slot "list" name id) (hty : typeOf (.builtin id) = pure (.type "method_descriptor"))
    (hbase : attributeBase o name env (eval o env) = eval o env := by rfl)
    (hfew : ((backTo cpos (starEach [] env)).all (fun x => !x.1) && (backToKw cpos (keywordEach [] env)).all (fun x => x.1.isSome)
      && decide (([] : List Expr).length + ([] : List Keyword).length + (if ([] : List Keyword).isEmpty then 0 else 1) < 30)) = true := by rfl)
    (hline : (apos.endLine == cpos.line) = true := by rfl) :
    PM B n env m ρ st (.Call (.Attribute o name apos) [] [] cpos) Ψ := fun A hA E s H S => by
  refine wpAny_Call_method hbase hfew hline F.plainAttrs_list slot hty (wpAny_mono (ho A hA E s H S) (fun ov s₁ ⟨k1, r1⟩ => ?_) fun _ _ e => e)
  have S₁ := S.keeps (kp_get k1)
  obtain ⟨ad, vs, q, rfl, hob, hr⟩ := lis_at (B := B) S₁.sto r1 hl
  refine ⟨(isList_of hob).typeIs, fun a ha => by cases ha; exact ⟨_, hob, rfl⟩, ?_⟩
  refine callWith_method0 ?_
  obtain ⟨h₁, tk₁, rfl, kp⟩ := k1
  exact om_pm (s := s) (xs := [.ref ad]) hA ha S₁ (CS.of_keeps kp) (.one r1)

theorem om_pop {k : Nat} {l : List V} {v : V} (hl : st[k]? = some (l ++ [v])) (hm : m ≤ k) (hsz : (l ++ [v]).length ≤ sizeLine) (hp : Ψ v (st.set k l)) : OM B n m st (fun xs => call (.builtin "list.pop") xs) [.ref k] Ψ := fun A hA E s H xs S r => by
  cases r with
  | cons r1 r =>
    cases r
    cases r1 with
    | ref hk =>
      obtain ⟨vs, q, ho, hr⟩ := S.sto.at_ _ _ _ hk hl
      have hsize := hr.size
      obtain ⟨vl⟩ := vs
      have hvl : vl.length = l.length + 1 := by simpa using hsize
      obtain ⟨y, hy, ry⟩ := hr.get (i := l.length) (v := v) (by simp)
      have e1 : vl = vl.take l.length ++ [y] := by
        have h1 : vl.drop l.length = [y] := by
          rw [List.drop_eq_getElem_cons (by omega), List.drop_of_length_le (by omega)]
          have : vl[l.length]? = some y := hy
          rw [List.getElem?_eq_getElem (by omega)] at this
          cases this; rfl
        rw [← h1, List.take_append_drop]
      have hy' : (Array.mk vl)[(Array.mk vl).size - 1]? = some y := by simpa [hvl] using hy
      refine call_meets F.slot_list_pop (isList_of ho).typeIs F.entry_list_pop (F.args_list_pop_1 _) (MeetsSeq.list_pop_last _ _ q y hy' (by rw [hsize]; exact hsz)) ⟨ho, ?_⟩
      obtain ⟨q', ho'⟩ := upd_lis ho (fun xs : Array Value => xs.eraseIdxIfInBounds ((Array.mk vl).size - 1))
      have e2 : (Array.mk vl).eraseIdxIfInBounds ((Array.mk vl).size - 1) = (vl.take l.length).toArray := by
        have := kl_erase (vl.take l.length) [] y
        rw [← e1] at this
        rw [List.length_take, List.append_nil, Nat.min_eq_left (by omega)] at this
        simp only [List.size_toArray, hvl, Nat.add_sub_cancel]
        exact this
      rw [e2] at ho'
      have hrr : RepAll H s.heap (vl.take l.length) l := by
        have := hr.take l.length
        simpa using this
      obtain ⟨S', cs⟩ := sb_set (m := m) S hk ho' (fun b o hb e => (Heap.SameBut.update ..).extBut b o hb e) (l' := l) (by simpa using hrr) hm
      exact ⟨v, _, H, _, s.toks, rfl, hp, S', cs, ry.ext cs.dk⟩
end
end Mine

-- part Gw28
namespace Mine
section
variable {prog : Program} {w : World} {A : Around} {E : Value → Shared → Prop} {s : Shared}

abbrev IsZipB (h : Heap) (z TI TO : Addr) (f0 : Value) (f : Bool) : Prop :=
  h.get? z = some { cls := .type "zip", dict := none, data := .fields #[f0, .bool f, .bool false, .ref TI, .ref TO], slots := #[] }

/-- the turn of a zip whose own tuple is in use -/
theorem zip_next_out {z TI TO i1 i2 l1 l2 T : Addr} {f : Bool} {oT : Obj} {k1 k2 : Nat} {xs ys : Array Value} {x y : Value} {Q : Option Value → Shared → Prop} (D : ZipApart z TI TO i1 i2 l1 l2)
    (hz : IsZipB s.heap z TI TO (rawInt T) f) (hT : s.heap.get? T = some oT) (hTI : IsPair s.heap TI (.ref i1) (.ref i2))
    (h1 : s.heap.IsListIter i1 l1 k1) (h2 : s.heap.IsListIter i2 l2 k2) (hl1 : s.heap.IsList l1 xs) (hl2 : s.heap.IsList l2 ys) (hx : xs[k1]? = some x) (hy : ys[k2]? = some y)
    (hQ : ∀ h', IsZipB h' z TI TO (rawInt T) true → h'.IsListIter i1 l1 (k1 + 1) → h'.IsListIter i2 l2 (k2 + 1) → IsPair h' s.heap.objs.size x y → h'.objs.size = s.heap.objs.size + 1 →
      (∀ c o, c ≠ z → c ≠ i1 → c ≠ i2 → s.heap.get? c = some o → h'.get? c = some o) → Q (some (.ref s.heap.objs.size)) { s with heap := h' }) :
    wpAny (model prog w) A (pyNext (.ref z)) Q E s := by
  have hTy : s.TypeIs (.ref z) "zip" := ⟨_, hz, rfl⟩
  unfold pyNext
  refine wpAny_bind (wpAny_attempt (wpAny_callSpecial?_slot (name := Str.ofString "__next__") hTy F.slot_zip_next
    (wpAny_call_entry F.slot_zip_next hTy F.entry_zip_next (b := Builtin.«zip.__next__») ?_ (F.args_zip_next_1 _))))
  show wpAny _ _ (field (.ref z) 2 >>= _) _ _ _
  refine wpAny_bind (wpAny_field hz rfl (x := .bool false) rfl ?_)
  show wpAny _ _ (field (.ref z) 3 >>= _) _ _ _
  refine wpAny_bind (wpAny_field hz rfl (x := .ref TI) rfl ?_)
  refine wpAny_bind (wpAny_seqItems hTI rfl ?_)
  show wpAny _ _ (Builtin.SmallTypes.ownedTupleIsFree (.ref z) >>= _) _ _ _
  refine wpAny_bind ?_
  unfold Builtin.SmallTypes.ownedTupleIsFree
  refine wpAny_bind (wpAny_field hz rfl (x := rawInt T) rfl ?_)
  refine wpAny_bind (kdx_alive (a := T) hT ?_)
  simp only [Option.isNone_some, Bool.false_eq_true, if_false]
  refine wpAny_bind (wpAny_field hz rfl (x := .bool f) rfl ?_)
  refine wpAny_mono (Q := fun a s' => a = false ∧ ∃ h₁, s' = { s with heap := h₁ } ∧ IsZipB h₁ z TI TO (rawInt T) true ∧ Heap.SameBut z s.heap h₁) ?_ (fun a s' q => ?_) fun _ _ e => e
  · cases f with
    | true =>
      rw [if_neg (by simp)]
      exact wpAny_pure ⟨rfl, s.heap, rfl, hz, .refl _ _⟩
    | false =>
      rw [if_pos (by rfl)]
      refine wpAny_bind (wpAny_setField_rec hz (by simp) fun h₁ hz₁ hs₁ => wpAny_pure ⟨rfl, h₁, rfl, hz₁, hs₁⟩)
  obtain ⟨rfl, h₁, rfl, hz₁, hs₁⟩ := q
  simp only [Bool.false_eq_true, if_false]
  refine wpAny_bind ?_
  rw [← Array.forIn_toList]
  simp only [List.forIn_cons, List.forIn_nil]
  refine wpAny_bind (wpAny_bind (wpAny_holding ?_))
  show wpAny _ _ (Builtin.SmallTypes.nextOf (.ref i1) >>= _) _ _ _
  refine wpAny_bind (wpAny_nextOf_list_item (h1.extBut hs₁.extBut D.i1z) (hl1.extBut hs₁.extBut D.l1z) hx fun h₂ h1₂ hs₂ => wpAny_pure ?_)
  refine wpAny_pure ?_
  refine wpAny_bind (wpAny_bind (wpAny_holding ?_))
  show wpAny _ _ (Builtin.SmallTypes.nextOf (.ref i2) >>= _) _ _ _
  refine wpAny_bind (wpAny_nextOf_list_item ((h2.extBut hs₁.extBut D.i2z).extBut hs₂.extBut D.i12.symm) ((hl2.extBut hs₁.extBut D.l2z).extBut hs₂.extBut D.l2i1) hy fun h₃ h2₃ hs₃ => wpAny_pure ?_)
  refine wpAny_pure (wpAny_pure ?_)
  refine wpAny_bind (wpAny_newTuple ?_ (by simp [sizeLine]))
  have hsz : h₃.objs.size = s.heap.objs.size := by rw [hs₃.1, hs₂.1, hs₁.1]
  refine wpAny_pure ⟨_, rfl, wpAny_pure ?_⟩
  show Q (some (.ref h₃.objs.size)) { s with heap := h₃.push { cls := .type "tuple", data := .seq #[x, y] } }
  have up : ∀ c o, h₃.get? c = some o → (h₃.push { cls := .type "tuple", data := .seq #[x, y] }).get? c = some o := fun c o e => Heap.get?_push_of_some _ e
  have hT' : IsPair (h₃.push { cls := .type "tuple", data := .seq #[x, y] }) h₃.objs.size x y := Heap.get?_push_size _ rfl
  rw [hsz] at hT' ⊢
  refine hQ _ (up _ _ (hs₃.extBut _ _ D.i2z.symm (hs₂.extBut _ _ D.i1z.symm hz₁))) ((h1₂.extBut hs₃.extBut D.i12).at fun o e => up _ o e) (h2₃.at fun o e => up _ o e) hT' (by rw [Heap.size_push, hsz]) fun c o c1 c2 c3 e => ?_
  exact up _ _ (hs₃.extBut _ _ c3 (hs₂.extBut _ _ c2 (hs₁.extBut _ _ c1 e)))

theorem zip_end_out {z TI TO i1 i2 l1 l2 T : Addr} {f : Bool} {oT : Obj} {k1 k2 : Nat} {xs ys : Array Value} {Q : Option Value → Shared → Prop} (hh : A.handled = none) (D : ZipApart z TI TO i1 i2 l1 l2)
    (hz : IsZipB s.heap z TI TO (rawInt T) f) (hT : s.heap.get? T = some oT) (hTI : IsPair s.heap TI (.ref i1) (.ref i2))
    (h1 : s.heap.IsListIter i1 l1 k1) (h2 : s.heap.IsListIter i2 l2 k2) (hl1 : s.heap.IsList l1 xs) (hl2 : s.heap.IsList l2 ys) (hend : xs[k1]? = none ∨ ys[k2]? = none)
    (hQ : ∀ h', (∀ c o, c ≠ z → c ≠ i1 → c ≠ i2 → s.heap.get? c = some o → h'.get? c = some o) → Q none { s with heap := h' }) :
    wpAny (model prog w) A (pyNext (.ref z)) Q E s := by
  have hTy : s.TypeIs (.ref z) "zip" := ⟨_, hz, rfl⟩
  have stop : ∀ h' e, (∃ o, h'.get? e = some o ∧ o.cls = .type "StopIteration") → (∀ c o, c ≠ z → c ≠ i1 → c ≠ i2 → s.heap.get? c = some o → h'.get? c = some o) →
      wpAny (model prog w) A (do if ← isInstance (.ref e) (.type "StopIteration") then pure none else throw (.ref e)) Q E { s with heap := h' } := fun h' e ⟨o, ho, hc⟩ hk => by
    refine wpAny_bind (wpAny_isInstance (T := "StopIteration") (b := true) ⟨o, ho, hc⟩ isSubtype_stop ?_)
    exact wpAny_pure (hQ _ hk)
  unfold pyNext
  refine wpAny_bind (wpAny_attempt (wpAny_callSpecial?_slot (name := Str.ofString "__next__") hTy F.slot_zip_next
    (wpAny_call_entry F.slot_zip_next hTy F.entry_zip_next (b := Builtin.«zip.__next__») ?_ (F.args_zip_next_1 _))))
  show wpAny _ _ (field (.ref z) 2 >>= _) _ _ _
  refine wpAny_bind (wpAny_field hz rfl (x := .bool false) rfl ?_)
  show wpAny _ _ (field (.ref z) 3 >>= _) _ _ _
  refine wpAny_bind (wpAny_field hz rfl (x := .ref TI) rfl ?_)
  refine wpAny_bind (wpAny_seqItems hTI rfl ?_)
  show wpAny _ _ (Builtin.SmallTypes.ownedTupleIsFree (.ref z) >>= _) _ _ _
  refine wpAny_bind ?_
  unfold Builtin.SmallTypes.ownedTupleIsFree
  refine wpAny_bind (wpAny_field hz rfl (x := rawInt T) rfl ?_)
  refine wpAny_bind (kdx_alive (a := T) hT ?_)
  simp only [Option.isNone_some, Bool.false_eq_true, if_false]
  refine wpAny_bind (wpAny_field hz rfl (x := .bool f) rfl ?_)
  refine wpAny_mono (Q := fun a s' => a = false ∧ ∃ h₁, s' = { s with heap := h₁ } ∧ IsZipB h₁ z TI TO (rawInt T) true ∧ Heap.SameBut z s.heap h₁) ?_ (fun a s' q => ?_) fun _ _ e => e
  · cases f with
    | true =>
      rw [if_neg (by simp)]
      exact wpAny_pure ⟨rfl, s.heap, rfl, hz, .refl _ _⟩
    | false =>
      rw [if_pos (by rfl)]
      refine wpAny_bind (wpAny_setField_rec hz (by simp) fun h₁ hz₁ hs₁ => wpAny_pure ⟨rfl, h₁, rfl, hz₁, hs₁⟩)
  obtain ⟨rfl, h₁, rfl, hz₁, hs₁⟩ := q
  simp only [Bool.false_eq_true, if_false]
  refine wpAny_bind ?_
  rw [← Array.forIn_toList]
  simp only [List.forIn_cons, List.forIn_nil]
  refine wpAny_bind (wpAny_bind (wpAny_holding ?_))
  show wpAny _ _ (Builtin.SmallTypes.nextOf (.ref i1) >>= _) _ _ _
  cases hx : xs[k1]? with
  | none =>
    refine wpAny_bind (wpAny_nextOf_list_end hh (h1.extBut hs₁.extBut D.i1z) (hl1.extBut hs₁.extBut D.l1z) hx fun h₂ e hs₂ he => ?_)
    exact stop h₂ e he fun c o c1 c2 c3 x => hs₂ _ _ c2 (hs₁.extBut _ _ c1 x)
  | some x =>
    have hy : ys[k2]? = none := by rcases hend with h | h; rw [hx] at h; cases h; exact h
    refine wpAny_bind (wpAny_nextOf_list_item (h1.extBut hs₁.extBut D.i1z) (hl1.extBut hs₁.extBut D.l1z) hx fun h₂ h1₂ hs₂ => wpAny_pure ?_)
    refine wpAny_pure ?_
    refine wpAny_bind (wpAny_bind (wpAny_holding ?_))
    show wpAny _ _ (Builtin.SmallTypes.nextOf (.ref i2) >>= _) _ _ _
    refine wpAny_bind (wpAny_nextOf_list_end hh ((h2.extBut hs₁.extBut D.i2z).extBut hs₂.extBut D.i12.symm) ((hl2.extBut hs₁.extBut D.l2z).extBut hs₂.extBut D.l2i1) hy fun h₃ e hs₃ he => ?_)
    exact stop h₃ e he fun c o c1 c2 c3 x => hs₃ _ _ c3 (hs₂.extBut _ _ c2 (hs₁.extBut _ _ c1 x))
end
end Mine

-- part Gw29
namespace Mine
section
variable {prog : Program} {w : World} {A : Around} {E : Value → Shared → Prop} {s : Shared}

theorem hint_zip {z TI TO : Addr} {f0 : Value} {f : Bool} {Q : Bool → Shared → Prop} (hz : IsZipB s.heap z TI TO f0 f) (h : Q true s) : wpAny (model prog w) A (Builtin.List.listLengthHint (.ref z)) Q E s := by
  unfold Builtin.List.listLengthHint
  refine wpAny_bind (wpAny_specialOf (T := "zip") (r := none) ⟨_, hz, rfl⟩ (by rw [typeLookup_type, builtinLookup_eq_fast]; kernel_rfl) ?_)
  refine wpAny_ite_split (fun hab => absurd hab (by decide +kernel)) (fun _ => ?_)
  refine wpAny_ite_split (fun hab => absurd hab (by decide)) (fun _ => ?_)
  refine wpAny_bind (wpAny_specialOf (T := "zip") (r := none) ⟨_, hz, rfl⟩ (by rw [typeLookup_type, builtinLookup_eq_fast]; kernel_rfl) ?_)
  exact wpAny_pure h

/-- the pairs made so far -/
def PairsAt (N : Nat) (h : Heap) (xs ys : Array Value) (out : List Addr) (acc : Array Value) (i : Nat) : Prop :=
  acc.size = i ∧ ∀ (j : Nat) v, acc[j]? = some v → ∃ (ad : Addr) (x y : Value), v = Value.ref ad ∧ xs[j]? = some x ∧ ys[j]? = some y ∧ IsPair h ad x y ∧ ad ∉ out ∧ N ≤ ad

/-- a zip on its way into a list -/
structure ZState (h : Heap) (z TI TO i1 i2 l1 l2 S : Addr) (xs ys : Array Value) (i : Nat) : Prop where
  ti : IsPair h TI (.ref i1) (.ref i2)
  to : ∃ a b, IsPair h TO a b
  a1 : h.IsListIter i1 l1 i
  a2 : h.IsListIter i2 l2 i
  b1 : h.IsList l1 xs
  b2 : h.IsList l2 ys
  zz : (IsZipB h z TI TO .none false) ∨ ∃ (T : Addr) (f : Bool) (oT : Obj), IsZipB h z TI TO (rawInt T) f ∧ h.get? T = some oT ∧ T ≠ S ∧ T ≠ z ∧ T ≠ i1 ∧ T ≠ i2

theorem extend_zip {R : Result → Shared → Prop} (hh : A.handled = none) {z TI TO i1 i2 l1 l2 S : Addr} {xs ys : Array Value} {res : Value} {N : Nat} (D : ZipApart z TI TO i1 i2 l1 l2) (hS : S ≠ z ∧ S ≠ TI ∧ S ≠ TO ∧ S ≠ i1 ∧ S ≠ i2 ∧ S ≠ l1 ∧ S ≠ l2) (hsz : min xs.size ys.size ≤ sizeLine) :
    ∀ (k i : Nat) (s : Shared) (acc : Array Value) (c : Nat), min xs.size ys.size - i = k → i ≤ min xs.size ys.size → N ≤ s.heap.objs.size → ZState s.heap z TI TO i1 i2 l1 l2 S xs ys i → s.heap.get? S = some { cls := .type "list", dict := none, data := .seq acc c, slots := #[] } → PairsAt N s.heap xs ys [z, TO, i1, i2, S] acc i →
    (∀ h' acc' c', (∀ b o, b ∉ [z, TO, i1, i2, S] → s.heap.get? b = some o → h'.get? b = some o) → h'.get? S = some { cls := .type "list", dict := none, data := .seq acc' c', slots := #[] } → PairsAt N h' xs ys [z, TO, i1, i2, S] acc' (min xs.size ys.size) → R (.ok (.ret res)) { s with heap := h' }) →
    codeAny (model prog w) A (.builtin "list.extend.loop" ⟨[.ref S, .ref z, res], []⟩) R s := by
  have keepP : ∀ {h h' : Heap} {acc : Array Value} {i : Nat}, (∀ b o, b ∉ [z, TO, i1, i2, S] → h.get? b = some o → h'.get? b = some o) → PairsAt N h xs ys [z, TO, i1, i2, S] acc i → PairsAt N h' xs ys [z, TO, i1, i2, S] acc i := fun {h h' acc i} kp ⟨p1, p2⟩ => ⟨p1, fun j v hj => by
    obtain ⟨ad, x, y, e1, e2, e3, e4, e5, e6⟩ := p2 j v hj
    exact ⟨ad, x, y, e1, e2, e3, kp _ _ e5 e4, e5, e6⟩⟩
  intro k
  induction k with
  | zero =>
    intro i s acc c hk hi hN Z hSl hacc hR
    have hin : i = min xs.size ys.size := by omega
    subst hin
    have hend : xs[min xs.size ys.size]? = none ∨ ys[min xs.size ys.size]? = none := by
      rcases Nat.le_total xs.size ys.size with h | h
      · left; rw [Nat.min_eq_left h]; simp
      · right; rw [Nat.min_eq_right h]; simp
    have fin : ∀ h' : Heap, (∀ c o, c ≠ z → c ≠ TO → c ≠ i1 → c ≠ i2 → s.heap.get? c = some o → h'.get? c = some o) → R (.ok (.ret res)) { s with heap := h' } := fun h' hk' => by
      have kp : ∀ b o, b ∉ [z, TO, i1, i2, S] → s.heap.get? b = some o → h'.get? b = some o := fun b o hb e => by
        simp only [List.mem_cons, List.not_mem_nil, or_false, not_or] at hb
        exact hk' b o hb.1 hb.2.1 hb.2.2.1 hb.2.2.2.1 e
      exact hR h' acc c kp (hk' S _ hS.1 hS.2.2.1 hS.2.2.2.1 hS.2.2.2.2.1 hSl) (keepP kp hacc)
    refine codeAny_builtin F.entry_extend_loop ?_
    rw [Around.under_plainId F.plain_extend_loop _]
    show wpAny _ A.in1 (pyNext (.ref z) >>= _) _ _ s
    rcases Z.zz with hz | ⟨T, f, oT, hz, hT, _⟩
    · obtain ⟨a, b, hTO⟩ := Z.to
      refine wpAny_bind (wpAny_pyNext_zip_end hh D hz Z.ti hTO Z.a1 Z.a2 Z.b1 Z.b2 hend fun h' hk' => ?_)
      exact wpAny_pure (fin h' hk')
    · refine wpAny_bind (zip_end_out hh D hz hT Z.ti Z.a1 Z.a2 Z.b1 Z.b2 hend fun h' hk' => ?_)
      exact wpAny_pure (fin h' fun c o c1 _ c3 c4 e => hk' c o c1 c3 c4 e)
  | succ k ih =>
    intro i s acc c hk hi hN Z hSl hacc hR
    have hlt : i < min xs.size ys.size := by omega
    have hix : i < xs.size := Nat.lt_of_lt_of_le hlt (Nat.min_le_left ..)
    have hiy : i < ys.size := Nat.lt_of_lt_of_le hlt (Nat.min_le_right ..)
    have hSlt : S < s.heap.objs.size := Heap.lt_size hSl
    -- after a turn
    have go : ∀ h' : Heap, h'.objs.size = s.heap.objs.size + 1 → (∀ c o, c ≠ z → c ≠ TO → c ≠ i1 → c ≠ i2 → s.heap.get? c = some o → h'.get? c = some o) → h'.IsListIter i1 l1 (i + 1) → h'.IsListIter i2 l2 (i + 1) → (∃ a b, IsPair h' TO a b) → IsPair h' s.heap.objs.size xs[i] ys[i] →
        (∃ (T : Addr) (f : Bool) (oT : Obj), IsZipB h' z TI TO (rawInt T) f ∧ h'.get? T = some oT ∧ T ≠ S ∧ T ≠ z ∧ T ≠ i1 ∧ T ≠ i2) → s.heap.objs.size ∉ [z, TO, i1, i2, S] →
        wpAny (model prog w) A.in1 (updateSeq S (·.push (.ref s.heap.objs.size)) >>= fun _ => again (.builtin "list.extend.loop" ⟨[.ref S, .ref z, res], []⟩)) (fun fin s' => match fin with | .done f => R (.ok f) s' | .again c' => c'.quiet = true ∧ codeAny (model prog w) A c' R s') (fun e s' => R (.error e) s') { s with heap := h' } := by
      intro h' hz' hk' h1 h2 hTO hP hZ hnew
      have hS' := hk' S _ hS.1 hS.2.2.1 hS.2.2.2.1 hS.2.2.2.2.1 hSl
      have kp : ∀ b o, b ∉ [z, TO, i1, i2, S] → s.heap.get? b = some o → h'.get? b = some o := fun b o hb e => by
        simp only [List.mem_cons, List.not_mem_nil, or_false, not_or] at hb
        exact hk' b o hb.1 hb.2.1 hb.2.2.1 hb.2.2.2.1 e
      have oth : ∀ b o, b ≠ S → h'.get? b = some o → (h'.update S (Obj.mapSeq (·.push (.ref s.heap.objs.size)))).get? b = some o := fun b o hb e => (Heap.get?_update_other _ _ (Ne.symm hb)).trans e
      refine wpAny_bind (wpAny_updateSeq hS' rfl (wpAny_pure ⟨plainId_quiet F.plain_extend_loop _, ih (i + 1) _ (acc.push (.ref s.heap.objs.size)) _ (by omega) hlt (by show N ≤ (h'.update S _).objs.size; rw [Heap.size_update]; omega) ?_ (Heap.get?_update_self _ hS' rfl) ?_ fun h'' acc' c' hk'' hS'' hacc' => ?_⟩) (by rw [hacc.1]; omega) (by show (acc.push _).size ≤ sizeLine + 1; rw [Array.size_push, hacc.1]; omega))
      · obtain ⟨a, b, hTO⟩ := hTO
        obtain ⟨T, f, oT, z1, z2, z3, z4⟩ := hZ
        refine ⟨oth _ _ hS.2.1.symm (hk' _ _ D.TIz D.TITO D.TIi1 D.TIi2 Z.ti), ⟨a, b, oth _ _ hS.2.2.1.symm hTO⟩, h1.at fun o e => oth _ o hS.2.2.2.1.symm e, h2.at fun o e => oth _ o hS.2.2.2.2.1.symm e, ?_, ?_, .inr ⟨T, f, oT, oth _ _ hS.1.symm z1, oth _ _ z3 z2, z3, z4⟩⟩
        · exact Z.b1.at fun o e => oth _ o hS.2.2.2.2.2.1.symm (hk' _ o D.l1z D.l1TO D.l1i1 D.l1i2 e)
        · exact Z.b2.at fun o e => oth _ o hS.2.2.2.2.2.2.symm (hk' _ o D.l2z D.l2TO D.l2i1 D.l2i2 e)
      · refine ⟨by rw [Array.size_push, hacc.1], fun j v hj => ?_⟩
        rw [Array.getElem?_push] at hj
        split at hj
        · rename_i e
          rw [hacc.1] at e; subst e; cases hj
          refine ⟨_, xs[j], ys[j], rfl, Array.getElem?_eq_getElem hix, Array.getElem?_eq_getElem hiy, oth _ _ (fun e => hnew (by simp [e])) hP, hnew, hN⟩
        · obtain ⟨ad, x, y, e1, e2, e3, e4, e5, e6⟩ := hacc.2 j v hj
          exact ⟨ad, x, y, e1, e2, e3, oth _ _ (fun e => e5 (by simp [e])) (kp _ _ e5 e4), e5, e6⟩
      · exact hR h'' acc' c' (fun b o hb e => hk'' b o hb (oth b o (fun e' => hb (by simp [e'])) (kp b o hb e))) hS'' hacc'
    refine codeAny_builtin F.entry_extend_loop ?_
    rw [Around.under_plainId F.plain_extend_loop _]
    show wpAny _ A.in1 (pyNext (.ref z) >>= _) _ _ s
    have lt : ∀ {c o}, s.heap.get? c = some o → s.heap.objs.size ≠ c := fun e => Nat.ne_of_gt (Heap.lt_size e)
    obtain ⟨a, b, hTO⟩ := Z.to
    have n1 : s.heap.objs.size ≠ i1 := by obtain ⟨_, e, _⟩ := Z.a1; exact lt e
    have n2 : s.heap.objs.size ≠ i2 := by obtain ⟨_, e, _⟩ := Z.a2; exact lt e
    have nz : s.heap.objs.size ≠ z := by rcases Z.zz with hz | ⟨T, f, oT, hz, _⟩ <;> exact lt hz
    have hnew : s.heap.objs.size ∉ [z, TO, i1, i2, S] := by
      simp only [List.mem_cons, List.not_mem_nil, or_false, not_or]
      exact ⟨nz, lt hTO, n1, n2, lt hSl⟩
    rcases Z.zz with hz | ⟨T, f, oT, hz, hT, t1, t2, t3, t4⟩
    · refine wpAny_bind (wpAny_pyNext_zip_item D hz Z.ti hTO Z.a1 Z.a2 Z.b1 Z.b2 (Array.getElem?_eq_getElem hix) (Array.getElem?_eq_getElem hiy) fun h' c1 c2 c3 c4 c5 c6 kp => ?_)
      exact go h' c6 kp c3 c4 ⟨_, _, c2⟩ c5 ⟨_, false, _, c1, c5, lt hSl, nz, n1, n2⟩ hnew
    · refine wpAny_bind (zip_next_out D hz hT Z.ti Z.a1 Z.a2 Z.b1 Z.b2 (Array.getElem?_eq_getElem hix) (Array.getElem?_eq_getElem hiy) fun h' c1 c3 c4 c5 c6 kp => ?_)
      exact go h' c6 (fun c o h1 _ h3 h4 e => kp c o h1 h3 h4 e) c3 c4 ⟨a, b, kp _ _ D.TOz D.TOi1 D.TOi2 hTO⟩ c5 ⟨T, true, oT, c1, kp _ _ t2 t3 t4 hT, t1, t2, t3, t4⟩ hnew
end
end Mine

-- part Gw30
namespace Mine
section
variable {prog : Program} {w : World} {A : Around} {E : Value → Shared → Prop} {s : Shared}

theorem list_init_zip {R : Result → Shared → Prop} (hh : A.handled = none) {z TI TO i1 i2 l1 l2 S : Addr} {xs ys : Array Value} {N : Nat} (hN : N ≤ s.heap.objs.size) (D : ZipApart z TI TO i1 i2 l1 l2) (hS : S ≠ z ∧ S ≠ TI ∧ S ≠ TO ∧ S ≠ i1 ∧ S ≠ i2 ∧ S ≠ l1 ∧ S ≠ l2) (hsz : min xs.size ys.size ≤ sizeLine)
    (hz : IsZipB s.heap z TI TO .none false) (hTI : IsPair s.heap TI (.ref i1) (.ref i2)) (hTO : ∃ a b, IsPair s.heap TO a b) (h1 : s.heap.IsListIter i1 l1 0) (h2 : s.heap.IsListIter i2 l2 0) (hl1 : s.heap.IsList l1 xs) (hl2 : s.heap.IsList l2 ys)
    (hSl : s.heap.get? S = some { cls := .type "list", data := .seq #[] })
    (hR : ∀ h' acc' c', (∀ b o, b ∉ [z, TO, i1, i2, S] → s.heap.get? b = some o → h'.get? b = some o) → h'.get? S = some { cls := .type "list", dict := none, data := .seq acc' c', slots := #[] } → PairsAt N h' xs ys [z, TO, i1, i2, S] acc' (min xs.size ys.size) → R (.ok (.ret .none)) { s with heap := h' }) :
    wpAny (model prog w) A.in1 (Builtin.«list.__init__» ⟨[.ref S, .ref z], []⟩)
      (fun fin s' => match fin with | .done f => R (.ok f) s' | .again c' => c'.quiet = true ∧ codeAny (model prog w) A c' R s') (fun e s' => R (.error e) s') s := by
  show wpAny _ _ (do let old ← Builtin.List.listItems (.ref S); Builtin.List.listUpdate (.ref S) (fun _ => #[]); letGo old.toList.reverse; Builtin.List.listExtendWith (.ref S) (.ref z) .none) _ _ s
  refine wpAny_bind ?_
  unfold Builtin.List.listItems
  refine wpAny_bind (wpAny_seqItems hSl rfl (wpAny_pure ?_))
  show wpAny _ _ (updateSeq S (fun _ => #[]) >>= fun _ => letGo (#[] : Array Value).toList.reverse >>= fun _ => Builtin.List.listExtendWith (.ref S) (.ref z) .none) _ _ s
  refine wpAny_bind (wpAny_updateSeq hSl rfl ?_)
  have hS₂ := Heap.get?_update_self (Obj.mapSeq (fun _ => (#[] : Array Value))) hSl rfl
  have oth : ∀ b o, b ≠ S → s.heap.get? b = some o → (s.heap.update S (Obj.mapSeq (fun _ => (#[] : Array Value)))).get? b = some o :=
    fun b o hb e => (Heap.get?_update_other _ _ (Ne.symm hb)).trans e
  refine wpAny_bind (wpAny_letGo ?_)
  unfold Builtin.List.listExtendWith
  have hz2 := oth _ _ hS.1.symm hz
  refine wpAny_bind (wpAny_typeOf (T := "zip") ⟨_, hz2, rfl⟩ ?_)
  have e1 : Builtin.List.listSameRef (.ref S) (.ref z) = false := by simp [Builtin.List.listSameRef, hS.1]
  have e2 : (Value.type "zip" == Value.type "list") = false := by decide
  have e3 : (Value.type "zip" == Value.type "tuple") = false := by decide
  simp only [e1, e2, e3, Bool.or_false, Bool.false_eq_true, if_false]
  refine wpAny_bind (wpAny_pyIter_zip hz2 ?_)
  refine wpAny_bind (wpAny_holding (hint_zip hz2 ?_))
  rw [if_pos (by rfl)]
  refine wpAny_bind (wpAny_rule ?_)
  refine wpAny_bind ?_
  show wpAny _ _ (updateSeq S (·.push .none) >>= fun _ => updateSeq S (·.pop)) _ _ _
  refine wpAny_bind (wpAny_updateSeq hS₂ rfl ?_)
  have hS₃ := Heap.get?_update_self (Obj.mapSeq (·.push Value.none)) hS₂ rfl
  refine wpAny_updateSeq (hz := by seq_fits) hS₃ rfl ?_
  have hS₄ := Heap.get?_update_self (Obj.mapSeq (·.pop)) hS₃ rfl
  have oth4 : ∀ b o, b ≠ S → s.heap.get? b = some o → (((s.heap.update S (Obj.mapSeq (fun _ => (#[] : Array Value)))).update S (Obj.mapSeq (·.push Value.none))).update S (Obj.mapSeq (·.pop))).get? b = some o := fun b o hb e =>
    (Heap.get?_update_other _ _ (Ne.symm hb)).trans ((Heap.get?_update_other _ _ (Ne.symm hb)).trans (oth b o hb e))
  refine wpAny_pure ⟨plainId_quiet F.plain_extend_loop _, ?_⟩
  obtain ⟨a, b, hTO⟩ := hTO
  refine extend_zip hh D hS hsz _ 0 _ #[] _ rfl (Nat.zero_le _) (by simp only [Heap.size_update]; exact hN) ⟨oth4 _ _ hS.2.1.symm hTI, ⟨a, b, oth4 _ _ hS.2.2.1.symm hTO⟩, h1.at fun o e => oth4 _ o hS.2.2.2.1.symm e, h2.at fun o e => oth4 _ o hS.2.2.2.2.1.symm e, hl1.at fun o e => oth4 _ o hS.2.2.2.2.2.1.symm e, hl2.at fun o e => oth4 _ o hS.2.2.2.2.2.2.symm e, .inl (oth4 _ _ hS.1.symm hz)⟩ hS₄ ⟨rfl, fun j v hj => by simp at hj⟩ fun h' acc' c' hk hS' hacc => ?_
  exact hR h' acc' c' (fun b o hb e => hk b o hb (oth4 b o (fun e' => hb (by simp [e'])) e)) hS' hacc

theorem call_list_zip {Q : Value → Shared → Prop} (hh : A.handled = none) {z TI TO i1 i2 l1 l2 : Addr} {xs ys : Array Value} {N : Nat} (hN : N ≤ s.heap.objs.size) (D : ZipApart z TI TO i1 i2 l1 l2) (hsz : min xs.size ys.size ≤ sizeLine)
    (hz : IsZipB s.heap z TI TO .none false) (hTI : IsPair s.heap TI (.ref i1) (.ref i2)) (hTO : ∃ a b, IsPair s.heap TO a b) (h1 : s.heap.IsListIter i1 l1 0) (h2 : s.heap.IsListIter i2 l2 0) (hl1 : s.heap.IsList l1 xs) (hl2 : s.heap.IsList l2 ys)
    (hQ : ∀ h' acc' c', (∀ b o, b ∉ [z, TO, i1, i2] → s.heap.get? b = some o → h'.get? b = some o) → h'.get? s.heap.objs.size = some { cls := .type "list", dict := none, data := .seq acc' c', slots := #[] } → PairsAt N h' xs ys [z, TO, i1, i2, s.heap.objs.size] acc' (min xs.size ys.size) → Q (.ref s.heap.objs.size) { s with heap := h' }) :
    wpAny (model prog w) A (call (.type "list") [.ref z]) Q E s := by
  refine callType_codes (Q₁ := fun obj s₁ => obj = .ref s.heap.objs.size ∧ s₁ = { s with heap := s.heap.push { cls := .type "list", data := .seq #[] } }) F.called_list (F.typeCall_list_1 _) F.entry_list_init
    (code_list_new _ ⟨rfl, rfl⟩) fun obj s₁ h₁ => ?_
  obtain ⟨rfl, rfl⟩ := h₁
  have hS : (s.heap.push { cls := .type "list", data := .seq #[] }).get? s.heap.objs.size = some { cls := .type "list", data := .seq #[] } := Heap.get?_push_size _ rfl
  have lt : ∀ {c o}, s.heap.get? c = some o → s.heap.objs.size ≠ c := fun e => Nat.ne_of_gt (Heap.lt_size e)
  obtain ⟨a, b, hTO⟩ := hTO
  have up : ∀ c o, s.heap.get? c = some o → (s.heap.push { cls := .type "list", data := .seq #[] }).get? c = some o := fun c o e => Heap.get?_push_of_some _ e
  refine ⟨⟨_, hS, rfl⟩, F.args_list_init_2 _ _, list_init_zip (A := A.in1) hh (by show N ≤ (s.heap.push _).objs.size; rw [Heap.size_push]; omega) D ⟨lt hz, lt hTI, lt hTO, ?_, ?_, ?_, ?_⟩ hsz (up _ _ hz) (up _ _ hTI) ⟨a, b, up _ _ hTO⟩ (h1.at fun o e => up _ o e) (h2.at fun o e => up _ o e) (hl1.at fun o e => up _ o e) (hl2.at fun o e => up _ o e) hS fun h' acc' c' hk hS' hacc => ?_⟩
  · obtain ⟨_, e, _⟩ := h1; exact lt e
  · obtain ⟨_, e, _⟩ := h2; exact lt e
  · obtain ⟨_, e, _⟩ := hl1; exact lt e
  · obtain ⟨_, e, _⟩ := hl2; exact lt e
  · refine ⟨rfl, hQ h' acc' c' (fun b o hb e => hk b o (fun hm => ?_) (up b o e)) hS' hacc⟩
    simp only [List.mem_cons, List.not_mem_nil, or_false, not_or] at hm hb
    rcases hm with h | h | h | h | h
    · exact hb.1 h
    · exact hb.2.1 h
    · exact hb.2.2.1 h
    · exact hb.2.2.2 h
    · exact lt e h.symm
end
end Mine

-- part Gw31
namespace Mine

theorem RepAll.of_get {H : Hd} {h : Heap} : ∀ {xs : List Value} {vs : List V}, xs.length = vs.length → (∀ (i : Nat) x v, xs[i]? = some x → vs[i]? = some v → Rep H h x v) → RepAll H h xs vs
  | [], [], _, _ => .nil
  | x :: xs, v :: vs, hl, hr => .cons (hr 0 x v rfl rfl) (RepAll.of_get (by simpa using hl) fun i y w hy hw => hr (i + 1) y w (by simpa using hy) (by simpa using hw))
  | [], _ :: _, hl, _ => by simp at hl
  | _ :: _, [], hl, _ => by simp at hl

theorem zipV_get {l m : List V} {i : Nat} {v : V} (hv : (zipV l m)[i]? = some v) : ∃ a b, l[i]? = some a ∧ m[i]? = some b ∧ v = .tup [a, b] := by
  rw [zipV, List.getElem?_zipWith] at hv
  cases hl : l[i]? with
  | none => rw [hl] at hv; simp at hv
  | some a =>
    cases hm : m[i]? with
    | none => rw [hl, hm] at hv; simp at hv
    | some b => rw [hl, hm] at hv; simp at hv; exact ⟨a, b, rfl, rfl, hv.symm⟩

section
variable {B : Bs} {n m : Nat} {env : Env} {ρ : Nm} {st : Store} {Φ : Fl → Nm → Store → Prop} {Ψ : V → Store → Prop}

/-- list(zip(a, b)) -/
theorem pe_listZip {np np2 p2 pos : Pos} {e f : Expr} {a b : V} {l q : List V} (h1 : PE B n env ρ st e a) (h2 : PE B n env ρ st f b) (hl : lis st a = some l) (hm : lis st b = some q) (hsz : min l.length q.length ≤ sizeLine)
    (hvL : (B.mg "list").or (B.mb "list") = some (.type "list")) (hkL : env.kindOf "list" = some .globalImplicit) (hv : (B.mg "zip").or (B.mb "zip") = some (.type "zip")) (hk : env.kindOf "zip" = some .globalImplicit)
    (heL : starEach [.Call (.Name "zip" np2) [e, f] [] p2] env = [(false, eval (.Call (.Name "zip" np2) [e, f] [] p2) env)] := by rfl)
    (he : starEach [e, f] env = [(false, eval e env), (false, eval f env)] := by rfl) (he' : starEach [f] env = [(false, eval f env)] := by rfl) :
    PE B n env ρ st (.Call (.Name "list" np) [.Call (.Name "zip" np2) [e, f] [] p2] [] pos) (.lst (zipV l q)) := fun A hA E s H S => by
  refine wpAny_Call_ofName (ld_glob S hkL hvL ?_ (by decide))
  refine callWith_type1 (args_cons ?_ (by rw [heL]; rfl)) (by rw [heL]; rfl) rfl
  refine callT hA S hv hk (pes_cons h1 (pes_cons h2 pes_nil he') (by rw [he, he'])) (fun xs s₁ k1 r1 => ?_) (by decide) (by rw [he, he']) (fun _ => by rw [he']; rfl)
  cases r1 with
  | cons r1 r =>
    cases r with
    | cons r2 r =>
      cases r
      have S1 := S.keeps (kp_get k1)
      obtain ⟨ad1, vs1, m1, rfl, ho1, hr1⟩ := lis_at (B := B) S1.sto r1 hl
      obtain ⟨ad2, vs2, m2, rfl, ho2, hr2⟩ := lis_at (B := B) S1.sto r2 hm
      have q1 := Nat.lt_of_lt_of_le (Heap.lt_size ho1) (Nat.le_refl _)
      have q2 := Nat.lt_of_lt_of_le (Heap.lt_size ho2) (Nat.le_refl _)
      refine call_zip_2 (isList_of ho1) (isList_of ho2) fun h' c1 c2 c3 c4 c5 c6 kp => ?_
      refine args_nil ?_
      have D : ZipApart (s₁.heap.objs.size + 4) (s₁.heap.objs.size + 2) (s₁.heap.objs.size + 3) s₁.heap.objs.size (s₁.heap.objs.size + 1) ad1 ad2 := by
        constructor <;> first | exact Nat.ne_of_lt (by omega) | exact Nat.ne_of_gt (by omega)
      refine call_list_zip hA.hd (N := s₁.heap.objs.size) (by show s₁.heap.objs.size ≤ h'.objs.size; omega) D (by rw [hr1.size, hr2.size]; exact hsz) c1 c2 ⟨_, _, c3⟩ c4 c5 (isList_of (kp _ _ ho1)) (isList_of (kp _ _ ho2)) fun h'' acc c hk hS hacc => ?_
      have kp2 : ∀ b o, s₁.heap.get? b = some o → h''.get? b = some o := fun b o e => hk b o (fun hm => by
        have hb : b < s₁.heap.objs.size := Heap.lt_size e
        simp only [List.mem_cons, List.not_mem_nil, or_false] at hm
        rcases hm with h | h | h | h <;> (rw [h] at hb; exact absurd hb (by first | exact Nat.lt_irrefl _ | exact Nat.not_lt.mpr (Nat.le_add_right ..)))) (kp b o e)
      have k2 : KT B s₁ { s₁ with heap := h'' } := kp_heap kp2
      refine ⟨kp_trans k1 k2, ?_⟩
      have dk : DKeep H s₁.heap H h'' := kp_dk k2 H
      have hnot : ∀ ad, s₁.heap.objs.size ≤ ad → ¬ H.has ad := fun ad hle hm => by
        obtain ⟨o, ho, _⟩ := S1.sto.live _ hm
        exact absurd (Heap.lt_size ho) (Nat.not_lt.mpr hle)
      refine .lst (hnot _ (by show s₁.heap.objs.size ≤ h'.objs.size; omega)) hS (RepAll.of_get ?_ fun i x v hx hv => ?_)
      · have := hacc.1
        simp [zipV, this, hr1.size, hr2.size]
      · obtain ⟨a', b', ha, hb, rfl⟩ := zipV_get hv
        obtain ⟨ad, x', y', rfl, hx', hy', hp, _, hle⟩ := hacc.2 i x (by simpa using hx)
        obtain ⟨xa, hxa, ra⟩ := hr1.get ha
        obtain ⟨xb, hxb, rb⟩ := hr2.get hb
        have e1 : xa = x' := by have : vs1[i]? = some xa := by simpa using hxa
                                rw [hx'] at this; cases this; rfl
        have e2 : xb = y' := by have : vs2[i]? = some xb := by simpa using hxb
                                rw [hy'] at this; cases this; rfl
        subst e1; subst e2
        exact .tup (vs := #[xa, xb]) (n := 0) (hnot _ hle) hp (.cons (ra.ext dk) (.cons (rb.ext dk) .nil))

/-- list(range(a, b)) -/
theorem pe_listRange2 {np np2 p2 pos : Pos} {e f : Expr} {a b : Int} (h1 : PE B n env ρ st e (.int a)) (h2 : PE B n env ρ st f (.int b)) (ha : -(2 ^ 62) ≤ a ∧ a < 2 ^ 62) (hb : -(2 ^ 62) ≤ b ∧ b < 2 ^ 62) (hsz : (b - a).toNat ≤ 2 ^ 24)
    (hvL : (B.mg "list").or (B.mb "list") = some (.type "list")) (hkL : env.kindOf "list" = some .globalImplicit) (hv : (B.mg "range").or (B.mb "range") = some (.type "range")) (hk : env.kindOf "range" = some .globalImplicit)
    (heL : starEach [.Call (.Name "range" np2) [e, f] [] p2] env = [(false, eval (.Call (.Name "range" np2) [e, f] [] p2) env)] := by rfl)
    (he : starEach [e, f] env = [(false, eval e env), (false, eval f env)] := by rfl) (he' : starEach [f] env = [(false, eval f env)] := by rfl) :
    PE B n env ρ st (.Call (.Name "list" np) [.Call (.Name "range" np2) [e, f] [] p2] [] pos) (.lst ((rng a 1 (b - a).toNat).map V.int)) := fun A hA E s H S => by
  refine wpAny_Call_ofName (ld_glob S hkL hvL ?_ (by decide))
  refine callWith_type1 (args_cons ?_ (by rw [heL]; rfl)) (by rw [heL]; rfl) rfl
  refine callT hA S hv hk (pes_cons h1 (pes_cons h2 pes_nil he') (by rw [he, he'])) (fun xs s₁ k1 r1 => ?_) (by decide) (by rw [he, he']) (fun _ => by rw [he']; rfl)
  cases r1 with
  | cons r1 r =>
    cases r with
    | cons r2 r =>
      cases r; cases r1; cases r2
      refine call_range_2 (args_nil ?_)
      refine call_list_range hA.hd (Heap.get?_push_size _ rfl) (small_one ha.1 ha.2 hb.1 hb.2) (by rw [rangeSize_one]) hsz fun h' tk acc c kp hS hacc => ?_
      have S1 := S.keeps (kp_get k1)
      have kp2 : ∀ b o, s₁.heap.get? b = some o → h'.get? b = some o := fun b o e => kp b o (Heap.get?_push_of_some _ e)
      refine ⟨kp_trans k1 ⟨_, _, rfl, .of kp2⟩, .lst (fun hm => ?_) hS (RepAll.of_get ?_ fun i x v hx hv => ?_)⟩
      · obtain ⟨o, ho, _⟩ := S1.sto.live _ hm
        have h1 := Heap.lt_size ho
        simp only [Heap.size_push] at h1
        exact absurd h1 (Nat.not_lt.mpr (Nat.le_succ _))
      · simp [hacc.1, rng]
      · obtain ⟨t, rfl⟩ := hacc.2 i x (by simpa using hx)
        have hlt : i < (b - a).toNat := by
          have := (List.getElem?_eq_some_iff.mp hv).1
          simpa [rng] using this
        simp [rng, hlt] at hv
        subst hv
        simp only [Int.mul_one]
        exact .int ..

/-- a range with a step -/
theorem pi_range3 {np pos : Pos} {e f g : Expr} {a b c : Int} {k : Nat} (h1 : PE B n env ρ st e (.int a)) (h2 : PE B n env ρ st f (.int b)) (h3 : PE B n env ρ st g (.int c)) (hc : c ≠ 0) (hsm : Builtin.Range.small a b c = true) (hk' : Builtin.Range.rangeSize a b c = k) 
    (hv : (B.mg "range").or (B.mb "range") = some (.type "range")) (hk : env.kindOf "range" = some .globalImplicit)
    (he : starEach [e, f, g] env = [(false, eval e env), (false, eval f env), (false, eval g env)] := by rfl) (he' : starEach [f, g] env = [(false, eval f env), (false, eval g env)] := by rfl) (he'' : starEach [g] env = [(false, eval g env)] := by rfl) :
    PI B n env ρ st (.Call (.Name "range" np) [e, f, g] [] pos) ((rng a c k).map V.int) (fun _ => True) AnyT true := fun A hA E s H S => by
  refine callT hA S hv hk (pes_cons h1 (pes_cons h2 (pes_cons h3 pes_nil he'') (by rw [he', he''])) (by rw [he, he'])) (fun xs s₁ k1 r1 => ?_) (by decide) (by rw [he, he']) (fun _ => by rw [he']; rfl)
  cases r1 with
  | cons r1 r => cases r with | cons r2 r => cases r with | cons r3 r => cases r; cases r1; cases r2; cases r3; exact call_range_3 hc ⟨kp_trans k1 (kp_pushT ..), range_iter hA (kp_trans k1 (kp_pushT ..)) (Heap.get?_push_size _ rfl) hsm hk'⟩ (.inr (pylongRoom (S.sb.keeps (kp_get k1)) hA))

/-- the place of an int in a list -/
theorem o_index {a : V} {ns : List Int} {x : Int} {j : Nat} (hl : lis st a = some (ns.map V.int)) (hj : ns[j]? = some x) (hno : ∀ i y, i < j → ns[i]? = some y → y ≠ x) (hsz : ns.length < 2 ^ 62) :
    PL B n st (fun xs => call (.builtin "list.index") xs) [a, .int x] (.int j) := PL.two fun A hA E s H y z S ry rz => by
  obtain ⟨ad, vs, q, rfl, ho, hr⟩ := lis_at (B := B) S.sto ry hl
  cases rz with
  | int _ t =>
    have hlen := hr.size
    simp only [List.length_map] at hlen
    have hjl : j < ns.length := (List.getElem?_eq_some_iff.mp hj).1
    have hat : ∀ (i : Nat) (v : Value), vs[i]? = some v → ∃ y t, ns[i]? = some y ∧ v = .int y t := fun i v hv => by
      obtain ⟨w, hw, rw'⟩ := hr.get' (i := i) (x := v) (by simpa using hv)
      simp only [List.getElem?_map] at hw
      cases hn : ns[i]? with
      | none => rw [hn] at hw; cases hw
      | some y => rw [hn] at hw; cases hw; cases rw'; exact ⟨y, _, rfl, rfl⟩
    refine call_meets F.slot_list_index (isList_of ho).typeIs F.entry_list_index (F.args_list_index_2 _ _)
      (MeetsSeq.list_index ad vs q (.int x t) (fun v => match v with | .int y _ => y == x | _ => false) (fun v hv => ?_) j (by omega) (by omega) ?_ ?_) ⟨ho, kp_tok .., .int ..⟩
    · obtain ⟨i, hi, rfl⟩ := Array.mem_iff_getElem.mp hv
      obtain ⟨y, u, _, e⟩ := hat i vs[i] (Array.getElem?_eq_getElem hi)
      rw [e]
      exact MeetsSeq.EqGives.int y x u t
    · obtain ⟨y, u, e1, e⟩ := hat j vs[j] (Array.getElem?_eq_getElem (by omega))
      rw [hj] at e1; cases e1
      rw [e]; simp
    · intro i hi hlt
      obtain ⟨y, u, e1, e⟩ := hat i vs[i] (Array.getElem?_eq_getElem hi)
      have := hno i y hlt e1
      rw [e]; simp [this]
end
end Mine

-- part Gw32
namespace Mine

theorem slc_plain (l : List V) (lo hi : Option Int) : slc l lo hi none = (l.drop (lo.elim 0 (clipAt l.length))).take (hi.elim l.length (clipAt l.length) - lo.elim 0 (clipAt l.length)) := by
  unfold slc
  rw [sliceBounds_plain]
  simp only [sliceRange_one]
  have := pick_run l.toArray (lo.elim 0 (clipAt l.length)) (hi.elim l.length (clipAt l.length) - lo.elim 0 (clipAt l.length))
  simpa using this
theorem slc_from (l : List V) {x : Int} (a : Nat) (hx : x = (a : Nat)) : slc l (some x) none none = l.drop a := by
  subst hx
  rw [slc_plain]
  simp only [Option.elim, clipAt_nat]
  rcases Nat.le_total a l.length with h | h
  · rw [Nat.min_eq_left h, List.take_of_length_le (by simp)]
  · rw [Nat.min_eq_right h, List.drop_of_length_le (Nat.le_refl _), List.drop_of_length_le h]; simp
theorem slc_upto (l : List V) {x : Int} (b : Nat) (hx : x = (b : Nat)) : slc l none (some x) none = l.take b := by
  subst hx
  rw [slc_plain]
  simp only [Option.elim, clipAt_nat, List.drop_zero, Nat.sub_zero]
  rcases Nat.le_total b l.length with h | h
  · rw [Nat.min_eq_left h]
  · rw [Nat.min_eq_right h, List.take_of_length_le (Nat.le_refl _), List.take_of_length_le h]
theorem slc_both (l : List V) {x y : Int} (a b : Nat) (hx : x = (a : Nat)) (hy : y = (b : Nat)) (hab : a ≤ b) : slc l (some x) (some y) none = (l.drop a).take (b - a) := by
  subst hx; subst hy
  rw [slc_plain]
  simp only [Option.elim, clipAt_nat]
  rcases Nat.le_total a l.length with h | h
  · rw [Nat.min_eq_left h]
    rcases Nat.le_total b l.length with h' | h'
    · rw [Nat.min_eq_left h']
    · rw [Nat.min_eq_right h', List.take_of_length_le (by simp), List.take_of_length_le (by simp; omega)]
  · rw [Nat.min_eq_right h, List.drop_of_length_le (Nat.le_refl _), List.drop_of_length_le h]; simp
theorem slc_all (l : List V) : slc l none none none = l := by
  rw [slc_plain]
  simp
theorem slc_rev (l : List V) : slc l none none (some (-1)) = l.reverse := by
  unfold slc
  rw [krv_bounds]
  show (sliceRange ((l.length : Int) - 1) (-1) (-1)).filterMap (l[·]?) = _
  rw [krv_sliceRange, krv_range, List.filterMap_reverse]
  have := krv_all l.toArray
  simp only [List.size_toArray] at this
  congr 1
  simpa using this

/-- every second one -/
def alt {α : Type} : List α → List α
  | a :: _ :: l => a :: alt l
  | [a] => [a]
  | [] => []
theorem alt_length {α : Type} : ∀ l : List α, (alt l).length = (l.length + 1) / 2
  | [] => by simp [alt]
  | [_] => by simp [alt]
  | _ :: _ :: l => by simp only [alt, List.length_cons, alt_length l]; omega
theorem alt_get {α : Type} : ∀ (l : List α) (k : Nat), (alt l)[k]? = l[2 * k]?
  | [], k => by simp [alt]
  | [a], k => by cases k <;> simp [alt]
  | a :: b :: l, k => by
    cases k with
    | zero => simp [alt]
    | succ k =>
      simp only [alt, List.getElem?_cons_succ]
      rw [alt_get l k, show 2 * (k + 1) = 2 * k + 1 + 1 by omega]
      rfl
theorem pick_ge {α : Type} (l : List α) : ∀ ix : List Nat, (∀ i ∈ ix, i < l.length) → (ix.filterMap (l[·]?)).length = ix.length ∧ ∀ k : Nat, (ix.filterMap (l[·]?))[k]? = ix[k]?.bind (l[·]?)
  | [], _ => by simp
  | i :: ix, h => by
    have ih := pick_ge l ix fun j hj => h j (List.mem_cons_of_mem _ hj)
    have hi : i < l.length := h i List.mem_cons_self
    simp only [List.filterMap_cons, List.getElem?_eq_getElem hi]
    refine ⟨by simp [ih.1], fun k => ?_⟩
    cases k with
    | zero => simp [hi]
    | succ k => simpa using ih.2 k
theorem slc_step (l : List V) (s : Nat) (lo : Option Int) (hlo : sliceBounds lo none (some 2) l.length = (((s : Nat) : Int), (l.length : Int), 2)) : slc l lo none (some 2) = alt (l.drop s) := by
  unfold slc
  rw [hlo]
  show (sliceRange ((s : Nat) : Int) (l.length : Int) 2).filterMap (l[·]?) = _
  have hr : sliceRange ((s : Nat) : Int) (l.length : Int) 2 = (List.range ((l.length - s + 1) / 2)).map fun k => s + 2 * k := by
    unfold sliceRange
    simp only [show (2 : Int) > 0 by decide, if_true]
    by_cases h : (s : Int) < l.length
    · have e : ((l.length : Int) - s + 2 - 1) / 2 = ((l.length - s + 1) / 2 : Nat) := by omega
      simp only [h, if_true, e, Int.toNat_natCast]
      refine List.map_congr_left fun k _ => ?_
      omega
    · have e : (l.length - s + 1) / 2 = 0 := by omega
      simp [h, e]
  rw [hr]
  have hp := pick_ge l ((List.range ((l.length - s + 1) / 2)).map fun k => s + 2 * k) (fun i hi => by
    obtain ⟨k, hk, rfl⟩ := List.mem_map.mp hi
    have := List.mem_range.mp hk
    omega)
  apply List.ext_getElem?
  intro k
  rw [hp.2 k, alt_get]
  simp only [List.getElem?_map, List.getElem?_drop]
  by_cases hk : k < (l.length - s + 1) / 2
  · simp [hk]
  · simp [hk]
    omega
theorem slc_evens (l : List V) : slc l none none (some 2) = alt l := slc_step l 0 none (by simp [sliceBounds])
theorem slc_odds (l : List V) : slc l (some 1) none (some 2) = alt (l.drop 1) := by
  cases l with
  | nil => rfl
  | cons a l =>
    refine slc_step (a :: l) 1 (some 1) ?_
    simp only [sliceBounds, List.length_cons, Option.getD_some, show (2 : Int) > 0 by decide, if_true, show ¬ ((1 : Int) < 0) by decide, if_false]
    refine Prod.ext ?_ rfl
    show max 0 (min 1 ((l.length + 1 : Nat) : Int)) = ((1 : Nat) : Int)
    omega
end Mine

-- part Gw33
namespace Mine

section
variable {B : Bs} {n m : Nat} {env : Env} {ρ : Nm} {st : Store} {Φ : Fl → Nm → Store → Prop} {Ψ : V → Store → Prop}

theorem o_abs {a : Int} : PL B n st (fun xs => call (.builtin "abs") xs) [.int a] (.int (if a < 0 then -a else a)) := PL.one fun A hA E s H x S rx => by
  cases rx
  exact call_abs_int fun u tk => ⟨kp_tok .., .int ..⟩

/-- x = [...] as a new mutable list, the store made ahead of the variables' end -/
theorem xuM {e : Expr} {out : List V} {y : Str} {py spos : Pos} (h : PC B n env ρ st e out) (hp : Φ .next (upd ρ y (.ref st.length)) (st ++ [out])) (hk : env.kindOf y = some .local := by kernel_rfl) (hsw : swapsWith e (some (.Name y py)) spos.line env = pure true := by kernel_rfl) : EX1 B n env m ρ st (.Assign [.Name y py] e spos) Φ := fun A hA O E s H S => by
  obtain ⟨elt, target, iter, ifs, gs, scope, pos, rfl, hs, ok, h⟩ := h
  obtain ⟨f1, f2, f3⟩ := okScope_facts ok
  rw [exec_Assign_Name_used _ _ _ _ hsw]
  refine wpAny_bind (wpAny_standAt (wpAny_bind ?_))
  show wpAny _ A (do let _ ← comprehension (.ListComp elt (⟨target, iter, ifs, 0⟩ :: gs) scope pos) scope env _ (newList []) false (eval iter env) (some (assign (.Name y py) env))) _ _ s
  refine wpAny_bind (wpAny_mono (wpAny_comprehension_free (use := some (assign (.Name y py) env)) (Q := fun _ s' => _) rfl hs (hclos_of S.en ok) f1 (hnames_of f2) (h A hA E s H (fun acc C => compPost (model B.prog B.w) A E (some (assign (.Name y py) env)) _ acc C) S ?_)) (fun _ s' hq => wpAny_pure (wpAny_pure hq)) fun _ _ e => e)
  intro D C h' tk q hD hC hDC hn acc kp
  show wpAny _ A (assign (.Name y py) env (.ref D)) _ _ _
  obtain ⟨⟨vs', q', ho, hr⟩, hDH⟩ := accAt_end S.sto hD hDC hn acc (h'' := h') (Heap.SameBut.refl _ _)
  obtain ⟨S', cs, r⟩ := sim_new (m := m) S kp hD ho (l := out) hr.move
  have hlive : ∀ b, wrt env [y] b → b ≠ C := fun b hb e => by
    subst e
    obtain ⟨o, ho⟩ := S.en.live _ (wrt_own hb)
    rw [hC] at ho; cases ho
  have hC0 : B.free C := S.base.free hC
  refine wpAny_assign_Name (st_name (xs := [y]) (v := .ref st.length) S' (O.own _) (by simp) (.inl hk) r fun h₂ tk₂ S₂ kp₂ => ?_)
  have hn₂ : h₂.Ns C q := hn.at' fun o e => kp₂ C o (fun hw => hlive C hw rfl) e
  refine ⟨q, hn₂, fun h₃ hs₃ => ?_⟩
  obtain ⟨S₃, dk₃⟩ := S₂.but hn₂ hC0 (hlive _ (.inl rfl)) hs₃
  refine ⟨.next, _, _, _, h₃, tk₂, rfl, hp, .next, S₃, ?_⟩
  refine ⟨⟨[D], rfl⟩, rfl, cs.new, fun b o hb _ hx e => ?_⟩
  exact hs₃.extBut b o (fun e' => by subst e'; rw [hC] at e; cases e) (kp₂ b o (fun hw => hb (wrt_own hw)) (kp.keep b o hx e))

/-- del o[i] -/
theorem x_delitem {o i : Expr} {sp pos : Pos} {k : Nat} {l : List V} {j : Int} (h1 : PE B n env ρ st o (.ref k)) (h2 : st[k]? = some l) (h3 : PE B n env ρ st i (.int j)) (h4 : 0 ≤ j) (h5 : j < l.length) (h6 : l.length ≤ sizeLine) (h7 : m ≤ k) (h8 : Φ .next ρ (st.set k (l.eraseIdx j.toNat))) :
    EX1 B n env m ρ st (.Delete [.Subscript o i sp] pos) Φ := fun A hA O E s H S => by
  refine wpAny_Delete (wpAny_deleteEach_cons ?_)
  rw [arm_delete_Subscript]
  refine wpAny_bind (wpAny_mono (h1 A hA E _ H S) (fun ov s₁ ⟨k1, r1⟩ => ?_) fun _ _ e => e)
  refine wpAny_bind (wpAny_holding (wpAny_mono (h3 A hA E s₁ H (S.keeps (kp_get k1))) (fun iv s₂ ⟨k2, r2⟩ => ?_) fun _ _ e => e))
  refine wpAny_bind (wpAny_standAt ?_)
  have kk := kp_trans k1 k2
  have S₂ := S.keeps (kp_get kk)
  obtain ⟨h₂, tk₂, rfl, kp⟩ := kk
  cases r2
  cases r1 with
  | ref hk =>
    obtain ⟨vs, q, ho, hr⟩ := S₂.sto.at_ _ _ _ hk h2
    have hsize := hr.size
    have hidx : seqIndex? j vs.size = some j.toNat := by
      unfold seqIndex?
      rw [hsize]
      have : ¬ j < 0 := by omega
      simp only [this, if_false]
      simp [h4, h5]
    refine wpAny_bind (wpAny_holding (delItem_at ho ?_ hidx (fun h₃ hs₃ ho₃ => ?_) (by rw [hsize]; exact h6)))
    · simp only [sizeLine] at h6
      simp [Builtin.List.listFitsIndex]; omega
    · refine wpAny_release (wpAny_deleteEach_nil ?_)
      have hrr : RepAll H h₂ (vs.toList.eraseIdx j.toNat) (l.eraseIdx j.toNat) := by
        rw [List.eraseIdx_eq_take_drop_succ, List.eraseIdx_eq_take_drop_succ]
        exact (hr.take _).append (hr.drop _)
      obtain ⟨S₃, cs₃⟩ := sb_set (m := m) S₂.sb hk ho₃ (fun b o hb e => hs₃.extBut b o hb e) (l' := l.eraseIdx j.toNat) (by simpa using hrr) h7
      have en₃ := S₂.en.cs S₂.sto cs₃
      exact ⟨.next, ρ, _, H, h₃, tk₂, rfl, h8, .next, ⟨S₃.base, S₃.sto, en₃⟩, ((CS.of_keeps kp).trans cs₃ S₂.sb).es⟩

/-- a def called with key=name -/
theorem pe_callKw {x : Str} {np pos kp kp2 : Pos} {y : Str} {e : Expr} {es : List Expr} {a f : Addr} {fd : FuncData} {body : List Stmt} {vs : List V} {c : V} (F : FnOk B a fd body) (hk : env.kindOf x = some .globalImplicit) (hv : B.mg x = some (.ref a)) (hn : PE B n env ρ st (.Name y kp2) (.val (.ref f)))
    (ha : PEs B n env ρ st (e :: es) vs) (h2 : PL B n st (fun xs => call (.ref a) xs [("key", .ref f)]) vs c) (hd : (x == ("__debug__" : Str)) = false := by kernel_rfl)
    (he : starEach (e :: es) env = (false, eval e env) :: starEach es env := by rfl) : PE B n env ρ st (.Call (.Name x np) (e :: es) [⟨some "key", .Name y kp2, kp⟩] pos) c := fun A hA E s H S => by
  obtain ⟨o, ho, hdat⟩ := F.at_
  refine wpAny_Call_ofName (ld_fn F S hk hv ?_ hd)
  refine callWith_def_kw (o := o) (fd := fd) hdat (evalArgs_kw2 rfl (wpAny_mono (ha A hA E s H pos S) (fun xs s₁ ⟨k1, r1⟩ => ?_) fun _ _ e => e) he)
  have S' := S.keeps (kp_get k1)
  refine kwAll_cons (wpAny_mono (hn A hA E s₁ H S') (fun y s₂ ⟨k2, r2⟩ => kwAll_nil ?_) fun _ _ e => e)
  cases r2
  have S'' := S'.keeps (kp_get k2)
  refine ⟨B.KX.keeps S''.base.keep _ _ ho, ?_⟩
  refine wpAny_mono (h2 A hA E s₂ H xs S''.sb (r1.ext (kp_dk k2 H))) (fun z s₃ ⟨k3, r3⟩ => ?_) fun _ _ e => e
  exact ⟨kp_trans (kp_trans k1 k2) k3, r3⟩
end
end Mine

-- part Gw34
namespace Mine
open PySem.AutoSeq1 (wpAny_loadPart')
open PySem.MeetsSeq PySem.MeetsSeq2 PySem.MeetsSeq3 PySem.SeqAt

/-- remove, by what each item's comparison says -/
theorem removeLoop (l : Addr) (items : Array Value) (n : Nat) (x : Value) (e : Nat → Bool) (j : Nat) (hj : j < items.size) (hit : e j = true) (hs1 : items.size ≤ sizeLine) (k : Nat) :
    ∀ i : Nat, j - i = k → i ≤ j → (∀ m, i ≤ m → m < j → e m = false) → Meets (Builtin.«list.remove.loop» ⟨[.ref l, x, rawInt i], []⟩)
      (fun A R s => s.heap.get? l = some (lisObj items n) ∧ (∀ m (hm : m < items.size), EqAt A.in1 s items[m] x (e m)) ∧ R (.ok (.ret .none)) { s with heap := s.heap.update l (Obj.mapSeq fun xs => xs.eraseIdxIfInBounds j) }) := by
  induction k with
  | zero =>
    intro i hk hij hno prog w A R s h
    obtain ⟨hp, g, d, tk, os⟩ := s; obtain ⟨hl, he, h⟩ := h
    have hl : hp.get? l = some { cls := .type "list", dict := none, data := .seq items n, slots := #[] } := hl
    have hij' : i = j := by omega
    subst hij'
    wp_walk using wpAny_loadPart' hl
    have hi : items[((i : Nat) : Int).toNat]? = some items[i] := by simp [hj]
    rw [hi]
    refine wpAny_bind (he i hj prog w _ _ ?_)
    rw [hit]
    have hz' : (items.eraseIdxIfInBounds i).size ≤ sizeLine + 1 := Nat.le_trans (size_erased items _) (Nat.le_succ_of_le hs1)
    wp_walk using (wpAny_updateSeq hl rfl (hz := hs1) (_hz' := hz')), wpAny_loadPart' hl
    simpa using h
  | succ k ih =>
    intro i hk hij hno prog w A R s h
    obtain ⟨hp, g, d, tk, os⟩ := s; obtain ⟨hl, he, h⟩ := h
    have hl : hp.get? l = some { cls := .type "list", dict := none, data := .seq items n, slots := #[] } := hl
    have hlt : i < items.size := by omega
    wp_walk using wpAny_loadPart' hl
    have hi : items[((i : Nat) : Int).toNat]? = some items[i] := by simp [hlt]
    have hc : ((i : Int) + 1) = ((i + 1 : Nat) : Int) := by push_cast; rfl
    rw [hi]
    refine wpAny_bind (he i hlt prog w _ _ ?_)
    rw [hno i (Nat.le_refl _) (by omega)]
    wp_walk
    rw [hc]
    exact ⟨plainId_quiet plain_remove_loop _, codeAny_builtin entry_remove_loop (by
      rw [Around.under_plainId plain_remove_loop _]
      exact ih (i + 1) (by omega) (by omega) (fun m h1 h2 => hno m (by omega) h2) prog w A R _ ⟨hl, he, h⟩)⟩

theorem listRemove (l : Addr) (items : Array Value) (n : Nat) (x : Value) (e : Nat → Bool) (j : Nat) (hj : j < items.size) (hit : e j = true) (hno : ∀ m, m < j → e m = false) (hs1 : items.size ≤ sizeLine) :
    Meets (Builtin.«list.remove» ⟨[.ref l, x], []⟩)
      (fun A R s => s.heap.get? l = some (lisObj items n) ∧ (∀ m (hm : m < items.size), EqAt A.in1 s items[m] x (e m)) ∧ R (.ok (.ret .none)) { s with heap := s.heap.update l (Obj.mapSeq fun xs => xs.eraseIdxIfInBounds j) }) := by
  intro prog w A R s h
  obtain ⟨hp, g, d, tk, os⟩ := s; obtain ⟨hl, he, h⟩ := h
  have hl : hp.get? l = some { cls := .type "list", dict := none, data := .seq items n, slots := #[] } := hl
  wp_walk using wpAny_loadPart' hl
  exact ⟨plainId_quiet plain_remove_loop _, codeAny_builtin entry_remove_loop (by
    rw [Around.under_plainId plain_remove_loop _]
    exact removeLoop l items n x e j hj hit hs1 _ 0 rfl (Nat.zero_le _) (fun m _ h2 => hno m h2) prog w A R _ ⟨hl, he, h⟩)⟩

/-- less, of values -/
def RcLt (A : Around) (s : Shared) (y x : Value) (b : Bool) : Prop :=
  ∀ (prog : Program) (w : World) (E : Value → Shared → Prop) (Q : Value → Shared → Prop), Q (.bool b) s → wpAny (model prog w) A (richCompare .Lt y x) Q E s

/-- lists that part at place d -/
theorem ltLoop (l b : Addr) (items items2 : Array Value) (n n2 : Nat) (d : Nat) (c : Bool) (h1 : d < items.size) (h2 : d < items2.size) (k : Nat) :
    ∀ i : Nat, d - i = k → i ≤ d → Meets (Builtin.«list.__eq__.loop» ⟨[.ref l, .ref b, rawInt i, rawInt 0], []⟩)
      (fun A R s => s.heap.get? l = some (lisObj items n) ∧ s.heap.get? b = some (lisObj items2 n2) ∧
        (∀ j (h1 : j < items.size) (h2 : j < items2.size), j ≤ d → EqAt A.in1 s items[j] items2[j] (decide (j < d))) ∧ RcLt A.in1 s items[d] items2[d] c ∧ R (.ok (.ret (.bool c))) s) := by
  induction k with
  | zero =>
    intro i hk hid prog w A R s h
    obtain ⟨hp, g, dd, tk, os⟩ := s; obtain ⟨hl, hb, he, hc, h⟩ := h
    have hl : hp.get? l = some { cls := .type "list", dict := none, data := .seq items n, slots := #[] } := hl
    have hb : hp.get? b = some { cls := .type "list", dict := none, data := .seq items2 n2, slots := #[] } := hb
    have hi : i = d := by omega
    subst hi
    wp_walk using wpAny_loadPart' hl, wpAny_loadPart' hb
    have hi1 : items[((i : Nat) : Int).toNat]? = some items[i] := by simp [h1]
    have hi2 : items2[((i : Nat) : Int).toNat]? = some items2[i] := by simp [h2]
    rw [hi1, hi2]
    refine wpAny_bind (he i h1 h2 (Nat.le_refl _) prog w _ _ ?_)
    rw [show decide (i < i) = false from decide_eq_false (Nat.lt_irrefl _)]
    wp_walk using wpAny_loadPart' hl, wpAny_loadPart' hb
    rw [hi1, hi2]
    refine wpAny_bind (hc prog w _ _ ?_)
    exact wpAny_pure h
  | succ k ih =>
    intro i hk hid prog w A R s h
    obtain ⟨hp, g, dd, tk, os⟩ := s; obtain ⟨hl, hb, he, hc, h⟩ := h
    have hl : hp.get? l = some { cls := .type "list", dict := none, data := .seq items n, slots := #[] } := hl
    have hb : hp.get? b = some { cls := .type "list", dict := none, data := .seq items2 n2, slots := #[] } := hb
    wp_walk using wpAny_loadPart' hl, wpAny_loadPart' hb
    have hlt : i < items.size := by omega
    have hlt2 : i < items2.size := by omega
    have hi1 : items[((i : Nat) : Int).toNat]? = some items[i] := by simp [hlt]
    have hi2 : items2[((i : Nat) : Int).toNat]? = some items2[i] := by simp [hlt2]
    have hcc : ((i : Int) + 1) = ((i + 1 : Nat) : Int) := by push_cast; rfl
    rw [hi1, hi2]
    refine wpAny_bind (he i hlt hlt2 (by omega) prog w _ _ ?_)
    rw [show decide (i < d) = true from decide_eq_true (by omega)]
    wp_walk
    rw [hcc]
    exact ⟨plainId_quiet plain_eq_loop _, codeAny_builtin entry_eq_loop (by
      rw [Around.under_plainId plain_eq_loop _]
      exact ih (i + 1) (by omega) (by omega) prog w A R _ ⟨hl, hb, he, hc, h⟩)⟩

theorem listLt (l b : Addr) (items items2 : Array Value) (n n2 : Nat) (d : Nat) (c : Bool) (h1 : d < items.size) (h2 : d < items2.size) :
    Meets (Builtin.«list.__lt__» ⟨[.ref l, .ref b], []⟩)
      (fun A R s => s.heap.get? l = some (lisObj items n) ∧ s.heap.get? b = some (lisObj items2 n2) ∧
        (∀ j (h1 : j < items.size) (h2 : j < items2.size), j ≤ d → EqAt A.in1 s items[j] items2[j] (decide (j < d))) ∧ RcLt A.in1 s items[d] items2[d] c ∧ R (.ok (.ret (.bool c))) s) := by
  intro prog w A R s h
  obtain ⟨hp, g, dd, tk, os⟩ := s; obtain ⟨hl, hb, he, hc, h⟩ := h
  have hl : hp.get? l = some { cls := .type "list", dict := none, data := .seq items n, slots := #[] } := hl
  have hb : hp.get? b = some { cls := .type "list", dict := none, data := .seq items2 n2, slots := #[] } := hb
  have f3 := AutoSeq1.sub_list_list
  wp_walk using wpAny_loadPart' hl, wpAny_loadPart' hb
  exact ⟨plainId_quiet plain_eq_loop _, codeAny_builtin entry_eq_loop (by
    rw [Around.under_plainId plain_eq_loop _]
    exact ltLoop l b items items2 n n2 d c h1 h2 _ 0 rfl (Nat.zero_le _) prog w A R _ ⟨hl, hb, he, hc, h⟩)⟩

theorem RcLt.lists {A : Around} {s : Shared} {l b : Addr} {items items2 : Array Value} {n n2 : Nat} {d : Nat} {c : Bool} (hl : s.heap.get? l = some (lisObj items n)) (hb : s.heap.get? b = some (lisObj items2 n2)) (h1 : d < items.size) (h2 : d < items2.size) (hu : A.units < cLine)
    (he : ∀ j (h1 : j < items.size) (h2 : j < items2.size), j ≤ d → EqAt A.in1 s items[j] items2[j] (decide (j < d))) (hc : RcLt A.in1 s items[d] items2[d] c) : RcLt A s (.ref l) (.ref b) c := fun prog w E Q h => by
  exact richCompare_meets_room (op := .Lt) ⟨_, hl, rfl⟩ ⟨_, hb, rfl⟩ F.slot_list_lt F.entry_list_lt (F.args_list_lt_2 _ _) (listLt l b items items2 n n2 d c h1 h2)
    ⟨hl, hb, he, hc, show Value.bool c ≠ Value.notImplemented ∧ Q (.bool c) s from ⟨(fun x => nomatch x), h⟩⟩ hu
theorem RcLt.int {A : Around} {s : Shared} {a b : Int} {t u : Tok} : RcLt A s (.int a t) (.int b u) (decide (a < b)) := fun prog w E Q h => lt_int h
end Mine

-- part Gw35
namespace Mine
theorem argBest_le (bt : Nat → Nat → Bool) : ∀ j, argBest bt j ≤ j
  | 0 => Nat.le_refl _
  | j + 1 => by
    have := argBest_le bt j
    unfold argBest
    split <;> omega

section
variable {prog : Program} {w : World} {A : Around} {E : Value → Shared → Prop} {s : Shared} {R : Result → Shared → Prop}

/-- the loop of min over a list whose items' comparisons stand in every heap that keeps the first -/
theorem minLoop (hh : A.handled = none) {s₀ : Shared} {l I S : Addr} {items : Array Value} (hl : s₀.heap.IsList l items) (hI : s₀.heap.get? I = none) (hS : s₀.heap.get? S = none) (hIS : I ≠ S) (bt : Nat → Nat → Bool)
    (hcmp : ∀ h' i j (hi : i < items.size) (hj : j < items.size), i ≠ j → (∀ b o, s₀.heap.get? b = some o → h'.get? b = some o) → RcLt A.in1 { s₀ with heap := h' } items[i] items[j] (bt i j)) :
    ∀ (k j : Nat) (h : Heap) (vb : Value) (c : Nat), items.size - (j + 1) = k → j + 1 ≤ items.size → (∀ b o, s₀.heap.get? b = some o → h.get? b = some o) → h.IsListIter I l (j + 1) → items[argBest bt j]? = some vb →
    h.get? S = some { cls := .type "list", dict := none, data := .seq #[vb, vb] c, slots := #[] } →
    (∀ v h', items[argBest bt (items.size - 1)]? = some v → (∀ b o, s₀.heap.get? b = some o → h'.get? b = some o) → R (.ok (.ret v)) { s₀ with heap := h' }) →
    codeAny (model prog w) A (.builtin "min.loop" ⟨[.ref I, .none, .ref S], []⟩) R { s₀ with heap := h } := by
  have hname : (toString "min" ++ toString ".loop" : String) = "min.loop" := by decide
  have nI : ∀ {b : Addr} {o : Obj}, s₀.heap.get? b = some o → b ≠ I := fun e e' => by rw [e', hI] at e; cases e
  have nS : ∀ {b : Addr} {o : Obj}, s₀.heap.get? b = some o → b ≠ S := fun e e' => by rw [e', hS] at e; cases e
  intro k
  induction k with
  | zero =>
    intro j h vb c hk hj kp hit hb hSl hR
    have hin : j + 1 = items.size := by omega
    refine codeAny_builtin F.entry_min_loop ?_
    rw [Around.under_plainId F.plain_min_loop _]
    show wpAny _ A.in1 (seqItems? (.ref S) >>= _) _ _ _
    refine wpAny_bind (wpAny_seqItems hSl rfl ?_)
    show wpAny _ A.in1 (tryCatch (pyNext (.ref I)) _ >>= _) _ _ _
    refine wpAny_bind (wpAny_tryCatch (wpAny_pyNext_list_end hh hit (hl.at fun o e => kp _ o e) (by rw [hin]; simp) fun h' hs => ?_))
    have hS' := hs S _ (fun e => hIS e.symm) hSl
    show wpAny _ A.in1 (updateSeq S (fun _ => #[]) >>= _) _ _ _
    refine wpAny_bind ?_
    refine wpAny_updateSeq hS' rfl (wpAny_bind (wpAny_letGo (wpAny_pure ?_)))
    refine hR vb _ (by rw [← hin]; exact hb) fun b o e => ?_
    exact (Heap.get?_update_other _ _ (Ne.symm (nS e))).trans (hs b o (nI e) (kp b o e))
  | succ k ih =>
    intro j h vb c hk hj kp hit hb hSl hR
    have hlt : j + 1 < items.size := by omega
    refine codeAny_builtin F.entry_min_loop ?_
    rw [Around.under_plainId F.plain_min_loop _]
    show wpAny _ A.in1 (seqItems? (.ref S) >>= _) _ _ _
    refine wpAny_bind (wpAny_seqItems hSl rfl ?_)
    show wpAny _ A.in1 (tryCatch (pyNext (.ref I)) _ >>= _) _ _ _
    refine wpAny_bind (wpAny_tryCatch (wpAny_pyNext_list_item hit (hl.at fun o e => kp _ o e) (Array.getElem?_eq_getElem hlt) fun h' hit' hs => ?_))
    have hS' := hs.extBut S _ (fun e => hIS e.symm) hSl
    have kp' : ∀ b o, s₀.heap.get? b = some o → h'.get? b = some o := fun b o e => hs.extBut b o (nI e) (kp b o e)
    show wpAny _ A.in1 (tryCatch (holding [items[j + 1], items[j + 1]] (richCompare .Lt items[j + 1] vb >>= _)) _ >>= _) _ _ _
    have hbl : argBest bt j < items.size := (Array.getElem?_eq_some_iff.mp hb).1
    have hvb : items[argBest bt j] = vb := (Array.getElem?_eq_some_iff.mp hb).2
    refine wpAny_bind (wpAny_tryCatch (wpAny_holding (wpAny_bind ?_)))
    rw [← hvb]
    refine hcmp h' (j + 1) (argBest bt j) hlt hbl (fun e => by have := argBest_le bt j; omega) kp' prog w _ _ ?_
    refine wpAny_bind (wpAny_holding (wpAny_truthy_bool ?_))
    refine wpAny_bind (wpAny_letGo (wpAny_pure ?_))
    cases hbt : bt (j + 1) (argBest bt j) with
    | true =>
      simp only [if_true]
      refine wpAny_bind ?_
      refine wpAny_updateSeq hS' rfl (wpAny_bind (wpAny_letGo ?_))
      rw [hname]
      have oth : ∀ b o, b ≠ S → h'.get? b = some o → (h'.update S (Obj.mapSeq (fun _ => #[items[j + 1], items[j + 1]]))).get? b = some o := fun b o hb e => (Heap.get?_update_other _ _ (Ne.symm hb)).trans e
      refine wpAny_pure ⟨plainId_quiet F.plain_min_loop _, ih (j + 1) _ items[j + 1] _ (by omega) hlt (fun b o e => oth b o (nS e) (kp' b o e)) (hit'.at fun o e => oth _ o hIS e) (by simp only [argBest, hbt, if_true]; exact Array.getElem?_eq_getElem hlt) (Heap.get?_update_self _ hS' rfl) hR⟩
    | false =>
      simp only [Bool.false_eq_true, if_false]
      refine wpAny_bind (wpAny_letGo ?_)
      rw [hname]
      exact wpAny_pure ⟨plainId_quiet F.plain_min_loop _, ih (j + 1) _ vb c (by omega) hlt kp' hit' (by simp only [argBest, hbt, Bool.false_eq_true, if_false]; exact hb) hS' hR⟩

theorem callMin {Q : Value → Shared → Prop} (hh : A.handled = none) {l : Addr} {items : Array Value} (hl : s.heap.IsList l items) (hne : 0 < items.size) (bt : Nat → Nat → Bool)
    (hcmp : ∀ h' i j (hi : i < items.size) (hj : j < items.size), i ≠ j → (∀ b o, s.heap.get? b = some o → h'.get? b = some o) → RcLt A.in1 { s with heap := h' } items[i] items[j] (bt i j))
    (hQ : ∀ v h', items[argBest bt (items.size - 1)]? = some v → (∀ b o, s.heap.get? b = some o → h'.get? b = some o) → Q v { s with heap := h' }) :
    wpAny (model prog w) A (call (.builtin "min") [.ref l]) Q E s := by
  have hname : (toString "min" ++ toString ".loop" : String) = "min.loop" := by decide
  refine call_function_tree F.kind_min F.plain_min F.entry_min (F.args_min1 _) ?_
  show wpAny _ A.in1 (Builtin.Builtins.bindParams "min" ["key", "default"] 0 ⟨[], []⟩ >>= _) _ _ s
  refine wpAny_bind (wpAny_of_eq (show Builtin.Builtins.bindParams "min" ["key", "default"] 0 ⟨[], []⟩ = pure [none, none] from rfl) ?_)
  refine wpAny_bind (wpAny_pure ?_)
  refine wpAny_bind (wpAny_pyIter_list hl ?_)
  refine wpAny_bind (wpAny_newObj_type ?_)
  rw [hname]
  refine wpAny_pure ⟨plainId_quiet F.plain_min_loop _, ?_⟩
  refine codeAny_builtin F.entry_min_loop ?_
  rw [Around.under_plainId F.plain_min_loop _]
  have noneAt : ∀ a, s.heap.objs.size ≤ a → s.heap.get? a = none := fun a ha => by
    cases e : s.heap.get? a with
    | none => rfl
    | some o => exact absurd (Heap.lt_size e) (Nat.not_lt.mpr ha)
  obtain ⟨hI, hIe⟩ : ∃ hI, hI = s.heap.push { cls := .type "list_iterator", data := .fields #[.ref l, .int 0 0] } := ⟨_, rfl⟩
  have hsz1 : hI.objs.size = s.heap.objs.size + 1 := by rw [hIe]; exact Heap.size_push ..
  have hIg : hI.get? s.heap.objs.size = some { cls := .type "list_iterator", data := .fields #[.ref l, .int 0 0] } := by rw [hIe]; exact Heap.get?_push_size _ rfl
  have kI : ∀ b o, s.heap.get? b = some o → hI.get? b = some o := fun b o e => by rw [hIe]; exact Heap.get?_push_of_some _ e
  rw [← hIe]
  obtain ⟨hS, hSe⟩ : ∃ hS, hS = hI.push { cls := .type "list", data := .seq #[] } := ⟨_, rfl⟩
  have hSg : hS.get? hI.objs.size = some { cls := .type "list", dict := none, data := .seq #[] 0, slots := #[] } := by rw [hSe]; exact Heap.get?_push_size _ rfl
  have kS : ∀ b o, hI.get? b = some o → hS.get? b = some o := fun b o e => by rw [hSe]; exact Heap.get?_push_of_some _ e
  rw [← hSe]
  have hIS : s.heap.objs.size ≠ hI.objs.size := by rw [hsz1]; exact Nat.ne_of_lt (Nat.lt_succ_self _)
  generalize hI.objs.size = S at *
  have hSnone : s.heap.get? S = none := noneAt _ (by rw [hsz1]; exact Nat.le_succ _)
  have hInone : s.heap.get? s.heap.objs.size = none := noneAt _ (Nat.le_refl _)
  have nI : ∀ {b : Addr} {o : Obj}, s.heap.get? b = some o → b ≠ s.heap.objs.size := fun e e' => by rw [e', hInone] at e; cases e
  have nS : ∀ {b : Addr} {o : Obj}, s.heap.get? b = some o → b ≠ S := fun e e' => by rw [e', hSnone] at e; cases e
  show wpAny _ A.in1 (seqItems? (.ref S) >>= _) _ _ _
  refine wpAny_bind (wpAny_seqItems hSg rfl ?_)
  show wpAny _ A.in1 (tryCatch (pyNext (.ref s.heap.objs.size)) _ >>= _) _ _ _
  refine wpAny_bind (wpAny_tryCatch (wpAny_pyNext_list_item (i := 0) (s := { s with heap := hS }) ⟨_, kS _ _ hIg, rfl, rfl⟩ (hl.at fun o e => kS _ o (kI _ o e)) (Array.getElem?_eq_getElem hne) fun h' hit' hs => ?_))
  have hS' := hs.extBut S _ (fun e => hIS e.symm) hSg
  have kp' : ∀ b o, s.heap.get? b = some o → h'.get? b = some o := fun b o e => hs.extBut b o (nI e) (kS _ _ (kI b o e))
  show wpAny _ A.in1 (updateSeq S (fun _ => #[items[0], items[0]]) >>= _) _ _ _
  refine wpAny_bind ?_
  refine wpAny_updateSeq hS' rfl ?_
  rw [hname]
  have oth : ∀ b o, b ≠ S → h'.get? b = some o → (h'.update S (Obj.mapSeq (fun _ => #[items[0], items[0]]))).get? b = some o := fun b o hb e => (Heap.get?_update_other _ _ (Ne.symm hb)).trans e
  exact wpAny_pure ⟨plainId_quiet F.plain_min_loop _, minLoop hh hl hInone hSnone hIS bt hcmp _ 0 _ items[0] _ rfl hne (fun b o e => oth b o (nS e) (kp' b o e)) (hit'.at fun o e => oth _ o hIS e) (Array.getElem?_eq_getElem hne) (Heap.get?_update_self _ hS' rfl) fun v h'' hv hk => hQ v h'' hv hk⟩
end

section
variable {B : Bs} {n m : Nat} {st : Store} {Ψ : V → Store → Prop}

theorem trip_of_rep {H : Hd} {h : Heap} {x : Value} {a b : Int} {w : V} (r : Rep H h x (.lst [.int a, .int b, w])) : ∃ ad q t u z, x = .ref ad ∧ h.get? ad = some (lisObj #[.int a t, .int b u, z] q) := by
  cases r with
  | @lst ad vs q l ha ho hr =>
    obtain ⟨vl⟩ := vs
    cases hr with
    | cons r1 hr =>
      cases hr with
      | cons r2 hr =>
        cases hr with
        | @cons z _ _ _ r3 hr =>
          cases hr; cases r1; cases r2
          exact ⟨ad, q, _, _, z, rfl, ho⟩

theorem lt_trips {A : Around} {s : Shared} {ax ay : Addr} {qx qy : Nat} {x y : Int × Int} {t u t' u' : Tok} {z z' : Value} (hx : s.heap.get? ax = some (lisObj #[.int x.1 t, .int x.2 u, z] qx)) (hy : s.heap.get? ay = some (lisObj #[.int y.1 t', .int y.2 u', z'] qy)) (hne : x ≠ y) (hu : A.units < cLine) :
    RcLt A s (.ref ax) (.ref ay) (lexlt x y) := by
  by_cases e1 : x.1 = y.1
  · have e2 : x.2 ≠ y.2 := fun e2 => hne (Prod.ext e1 e2)
    have : lexlt x y = decide (x.2 < y.2) := by simp [lexlt, e1]
    rw [this]
    refine RcLt.lists (d := 1) hx hy (by simp) (by simp) hu (fun j h1 h2 hj => ?_) RcLt.int
    match j, hj with
    | 0, _ => have := SeqAt.EqAt.int_int (A := A.in1) (s := s) x.1 t y.1 t'
              rw [show (x.1 == y.1) = true from by simp [e1]] at this
              exact this
    | 1, _ => have := SeqAt.EqAt.int_int (A := A.in1) (s := s) x.2 u y.2 u'
              rw [show (x.2 == y.2) = false from by simp [e2]] at this
              exact this
  · have : lexlt x y = decide (x.1 < y.1) := by simp [lexlt, e1]
    rw [this]
    refine RcLt.lists (d := 0) hx hy (by simp) (by simp) hu (fun j h1 h2 hj => ?_) RcLt.int
    match j, hj with
    | 0, _ => have := SeqAt.EqAt.int_int (A := A.in1) (s := s) x.1 t y.1 t'
              rw [show (x.1 == y.1) = false from by simp [e1]] at this
              exact this

/-- the least of lists that begin with two numbers, no two of them alike there -/
theorem o_minTrips {α : Type} {a : V} (as : List α) (c w : α → V) (key : α → Int × Int) (hc : ∀ x ∈ as, c x = .lst [.int (key x).1, .int (key x).2, w x]) (hl : lis st a = some (as.map c))
    (hinj : ∀ (i j : Nat) x y, as[i]? = some x → as[j]? = some y → i ≠ j → key x ≠ key y) {best : α} (hb : best ∈ as) (hmin : ∀ y ∈ as, lexlt (key y) (key best) = false) :
    PL B n st (fun xs => call (.builtin "min") xs) [a] (c best) := PL.one fun A hA E s H x S rx => by
  obtain ⟨ad, vs, q, rfl, ho, hr⟩ := lis_at (B := B) S.sto rx hl
  have hsize := hr.size
  simp only [List.length_map] at hsize
  have hpos : 0 < as.length := List.length_pos_of_mem hb
  have hat : ∀ (i : Nat) (hi : i < vs.size), ∃ x, as[i]? = some x ∧ Rep H s.heap vs[i] (c x) := fun i hi => by
    obtain ⟨v, hv, rv⟩ := hr.get' (i := i) (x := vs[i]) (by simp [hi])
    simp only [List.getElem?_map] at hv
    cases hx : as[i]? with
    | none => rw [hx] at hv; cases hv
    | some x => rw [hx] at hv; cases hv; exact ⟨x, rfl, rv⟩
  let r : Nat → Int := fun i => rank (as.map key) (key (as.getD i best))
  refine callMin hA.hd (isList_of ho) (by omega) (fun i j => decide (r i < r j)) (fun h' i j hi hj hij kp => ?_) fun v h' hv kp => ?_
  · obtain ⟨x, hx, rx⟩ := hat i hi
    obtain ⟨y, hy, ry⟩ := hat j hj
    have hxm := List.mem_of_getElem? hx
    have hym := List.mem_of_getElem? hy
    rw [hc x hxm] at rx
    rw [hc y hym] at ry
    obtain ⟨ax, qx, tx, ux, zx, ex, hox⟩ := trip_of_rep rx
    obtain ⟨ay, qy, ty, uy, zy, ey, hoy⟩ := trip_of_rep ry
    rw [ex, ey]
    have er : decide (r i < r j) = lexlt (key x) (key y) := by
      show decide (rank (as.map key) (key (as.getD i best)) < rank (as.map key) (key (as.getD j best))) = _
      rw [List.getD_eq_getElem?_getD, List.getD_eq_getElem?_getD, hx, hy]
      exact rank_lt (List.mem_map_of_mem hxm)
    rw [er]
    exact lt_trips (kp _ _ hox) (kp _ _ hoy) (hinj i j x y hx hy hij) (by have := hA.un; simp only [cLine]; omega)
  · have hbest := argBest_lt r (vs.size - 1)
    have hlt : argBest (fun i j => decide (r i < r j)) (vs.size - 1) < vs.size := (Array.getElem?_eq_some_iff.mp hv).1
    have hvv := (Array.getElem?_eq_some_iff.mp hv).2
    generalize argBest (fun i j => decide (r i < r j)) (vs.size - 1) = bi at *
    obtain ⟨x, hx, rx⟩ := hat bi hlt
    rw [hvv] at rx
    obtain ⟨j, hj⟩ := List.mem_iff_getElem?.mp hb
    have hjl := (List.getElem?_eq_some_iff.mp hj).1
    have hle := hbest.2 j (by omega)
    have e1 : r j = rank (as.map key) (key best) := by
      show rank (as.map key) (key (as.getD j best)) = _
      rw [List.getD_eq_getElem?_getD, hj]; rfl
    have e2 : r bi = rank (as.map key) (key x) := by
      show rank (as.map key) (key (as.getD bi best)) = _
      rw [List.getD_eq_getElem?_getD, hx]; rfl
    have hxm := List.mem_of_getElem? hx
    have n1 := hmin x hxm
    have n2 : lexlt (key best) (key x) = false := by
      rw [← rank_lt (ks := as.map key) (List.mem_map_of_mem hb)]
      exact decide_eq_false (by omega)
    have hk : key best = key x := by
      have a1 : ¬ ((key x).1 < (key best).1 ∨ ((key x).1 = (key best).1 ∧ (key x).2 < (key best).2)) := fun e => by rw [lexlt_iff.mpr e] at n1; cases n1
      have a2 : ¬ ((key best).1 < (key x).1 ∨ ((key best).1 = (key x).1 ∧ (key best).2 < (key x).2)) := fun e => by rw [lexlt_iff.mpr e] at n2; cases n2
      exact Prod.ext (by omega) (by omega)
    have hji : j = bi := Classical.byContradiction fun hne => hinj j bi best x hj hx hne hk
    subst hji
    rw [hj] at hx; cases hx
    exact ⟨kp_heap kp, rx.ext (.of_full kp)⟩

/-- the first item that is alike leaves -/
theorem om_remove {k j : Nat} {l : List V} {v : V} (f : Nat) (dd : Nat → PyData) {d : PyData} (hl : st[k]? = some l) (hm : m ≤ k) (hsz : l.length ≤ sizeLine) (hd : py st f v = some d) (sd : SeqAt.shaped d = true) (hdd : ∀ (i : Nat) w, l[i]? = some w → py st f w = some (dd i) ∧ SeqAt.shaped (dd i) = true)
    (hj : j < l.length) (hit : PyData.eqv (dd j) d = true) (hno : ∀ i, i < j → PyData.eqv (dd i) d = false) (hp : Ψ .none (st.set k (l.eraseIdx j))) : OM B n m st (fun xs => call (.builtin "list.remove") xs) [.ref k, v] Ψ := fun A hA E s H xs S r => by
  cases r with
  | cons r1 r =>
    cases r with
    | @cons y2 _ _ _ r2 r =>
      cases r
      cases r1 with
      | ref hk =>
        obtain ⟨vs, q, ho, hr⟩ := S.sto.at_ _ _ _ hk hl
        have hsize := hr.size
        obtain ⟨bs, rb⟩ := reads_of S.sto f r2 hd
        refine call_meets F.slot_list_remove (isList_of ho).typeIs F.entry_list_remove (F.args_list_remove_2 _ _) (listRemove _ vs q y2 (fun i => PyData.eqv (dd i) d) j (by omega) hit hno (by omega)) ⟨ho, fun i hi => ?_, ?_⟩
        · obtain ⟨w, hw, rw'⟩ := hr.get' (i := i) (x := vs[i]) (by simp [hi])
          obtain ⟨as, ra⟩ := reads_of S.sto f rw' (hdd i w hw).1
          exact keq_at (A := A) ra rb (hdd i w hw).2 sd (by have := hA.un; simp only [cLine]; omega)
        · obtain ⟨q', ho'⟩ := upd_lis ho (fun xs : Array Value => xs.eraseIdxIfInBounds j)
          have hrr : RepAll H s.heap (vs.eraseIdxIfInBounds j).toList (l.eraseIdx j) := by
            have e : (vs.eraseIdxIfInBounds j).toList = vs.toList.eraseIdx j := by
              cases vs with | mk vl => simp
            rw [e, List.eraseIdx_eq_take_drop_succ, List.eraseIdx_eq_take_drop_succ]
            exact (hr.take _).append (hr.drop _)
          obtain ⟨S', cs⟩ := sb_set (m := m) S hk ho' (fun b o hb e => (Heap.SameBut.update ..).extBut b o hb e) hrr hm
          exact ⟨.none, _, H, _, s.toks, rfl, hp, S', cs, .none⟩
end
end Mine

-- part L1a
open_top hd for PySem.Challenge.rw_dm0011_01

-- part B1
namespace Mine

structure L1 (B : Bs) : Prop where
  hK : B.K = hd.heap_39 B.w.params
  hT : B.tabs = [⟨38, 34, "_law_keeper.<locals>.<lambda>"⟩, ⟨43, 41, "law.<locals>.<lambda>"⟩]

section
variable {B : Bs} {n m : Nat} {st : Store}

theorem L1.top (h : L1 B) : hasTop B.K = true := by rw [h.hK]; kernel_rfl
theorem L1.like {B' : Bs} (h : L1 B) (l : Like B B') : L1 B' := ⟨by rw [l.K, l.w]; exact h.hK, by rw [l.tabs]; exact h.hT⟩
theorem g_b {x : Str} {v : Value} (h : L1 B) (hg : gname (hd.heap_39 B.w.params) x = none) (hb : bootBuiltins x = some v) (hx : x ≠ "__name__") : (B.mg x).or (B.mb x) = some v := glob_b h.top (by rw [h.hK]; exact hg) hb hx
theorem g_g {x : Str} {v : Value} (h : L1 B) (hg : gname (hd.heap_39 B.w.params) x = some v) : B.mg x = some v := glob_g h.top (by rw [h.hK]; exact hg)
theorem f_ok (h : L1 B) (a : Addr) (hb : fnOkB (hd.heap_39 B.w.params) a = true) : FnOk B a (fdOf (hd.heap_39 B.w.params) a) (bodyOf (fdOf (hd.heap_39 B.w.params) a)) := by
  have := fnOk_of (B := B) (a := a) (by rw [h.hK]; exact hb)
  rw [h.hK] at this; exact this
theorem g_len (h : L1 B) : (B.mg "len").or (B.mb "len") = some (.builtin "len") := g_b h (by kernel_rfl) (by decide +kernel) (by decide)

/-- the measure of a search -/
def gap (ρ : Nm) (_ : Store) : Nat := match ρ "lo", ρ "hi" with
  | some (.int lo), some (.int hi) => (hi - lo).toNat
  | _, _ => 0
theorem gap_eq {ρ : Nm} {st : Store} {lo hi : Int} (h1 : ρ "lo" = some (.int lo)) (h2 : ρ "hi" = some (.int hi)) : gap ρ st = (hi - lo).toNat := by unfold gap; rw [h1, h2]

/-- the first default of a def -/
def dfl (K : Frag) (a : Addr) : Value := match (fdOf K a).defaults with
  | .ref t => (match K.lookup t with | some ⟨_, _, .seq vs _, _⟩ => vs.getD 0 .none | _ => .none)
  | _ => .none

theorem left_ex (h : L1 B) {L : Addr} {a x : V} {l : List V} {r : Nat} (hl : lis st a = some l) (hfit : l.length < 2 ^ 60) (hr : r ≤ l.length)
    (hc : ∀ (i : Nat) v, l[i]? = some v → P2 B (n + 1) st (compareOp .Lt) v x (.bool (decide (i < r)))) :
    EX B (n + 1) (callEnvC (fdOf (hd.heap_39 B.w.params) 32) L 32) m (fun y => ((["a", "x", "lo", "hi", "key"] : List Str).zip [a, x, .int 0, .none, .none]).lookup y) st (bodyOf (fdOf (hd.heap_39 B.w.params) 32)) (fun fl _ st' => retOf fl = .int r ∧ st' = st) := by
  refine ex_cons (x_if (c := false) (pt_cmp (pn rfl) pe_int o_lt) (fun h => by cases h) fun _ => ex_nil ?_)
  refine ex_cons (x_if (c := true) (pt_cmp (pn rfl) pe_none o_isNone) (fun _ => ?_) (fun h => by cases h))
  refine ex_cons (xa ((pe_callB (g_len h) (by kernel_rfl) (pes_cons (pn rfl) pes_nil) (o_len hl (by omega))).pm (ex_nil ?_)))
  refine ex_cons (x_if (c := true) (pt_cmp (pn rfl) pe_none o_isNone) (fun _ => ex_cons ?_) (fun h => by cases h))
  refine x_while (fun ρ st' => ∃ lo hi : Int, ρ "lo" = some (.int lo) ∧ ρ "hi" = some (.int hi) ∧ ρ "a" = some a ∧ ρ "x" = some x ∧ st' = st ∧ 0 ≤ lo ∧ lo ≤ r ∧ r ≤ hi ∧ hi ≤ l.length) gap ⟨0, l.length, rfl, rfl, rfl, rfl, rfl, by omega, by omega, by omega, by omega⟩ ?_
  rintro ρ st' ⟨lo, hi, n1, n2, n3, n4, rfl, b1, b2, b3, b4⟩
  refine ⟨decide (lo < hi), pt_cmp (pn n1) (pn n2) o_lt, fun hlt => ?_, fun hge => ex_nil (ex_cons (x_return ((pn n1).pm ?_)))⟩
  · have hlt : lo < hi := by simpa using hlt
    have hmid : (lo + hi).fdiv 2 = (lo + hi) / 2 := by rw [Int.fdiv_eq_ediv_of_nonneg _ (by decide)]
    have hv : l[((lo + hi).fdiv 2).toNat]? = some (l[((lo + hi).fdiv 2).toNat]'(by rw [hmid]; omega)) := List.getElem?_eq_getElem _
    generalize l[((lo + hi).fdiv 2).toNat]'(by rw [hmid]; omega) = v at hv
    refine ex_cons (xa ((pe_bin (pe_bin (pn n1) (pn n2) o_add) pe_int (o_fdiv (by decide))).pm ?_))
    refine ex_cons (x_if (pt_cmp (pe_sub (pn (nm_ne n3)) (pn nm_eq) (o_item hl (by rw [hmid]; omega) hv (by omega))) (pn (nm_ne n4)) (hc _ _ hv)) (fun ht => ?_) (fun hf => ?_))
    · refine ex_cons (xa ((pe_bin (pn nm_eq) pe_int o_add).pm (ex_nil (ex_nil ?_))))
      have ht : ((lo + hi).fdiv 2).toNat < r := by simpa using ht
      refine ⟨⟨_, _, nm_eq, nm_ne (nm_ne n2), nm_ne (nm_ne n3), nm_ne (nm_ne n4), rfl, by omega, by omega, by omega, by omega⟩, ?_⟩
      rw [gap_eq nm_eq (nm_ne (nm_ne n2)), gap_eq n1 n2]
      omega
    · refine ex_cons (xa ((pn nm_eq).pm (ex_nil (ex_nil ?_))))
      have hf : ¬ ((lo + hi).fdiv 2).toNat < r := by simpa using hf
      refine ⟨⟨_, _, nm_ne (nm_ne n1), nm_eq, nm_ne (nm_ne n3), nm_ne (nm_ne n4), rfl, by omega, by omega, by omega, by omega⟩, ?_⟩
      rw [gap_eq (nm_ne (nm_ne n1)) nm_eq, gap_eq n1 n2]
      omega
  · have hge : ¬ lo < hi := by simpa using hge
    exact ⟨by show V.int lo = V.int r; congr 1; omega, rfl⟩

theorem left_pl (h : L1 B) {a x : V} {l : List V} {r : Nat} (hl : lis st a = some l) (hfit : l.length < 2 ^ 60) (hr : r ≤ l.length)
    (hc : ∀ (i : Nat) v, l[i]? = some v → P2 B (n + 1) st (compareOp .Lt) v x (.bool (decide (i < r)))) : PL B (n + 2) st (fun xs => call (.ref 32) xs) [a, x] (.int r) := by
  refine OM.plFlat rfl (fn_om (names := ["a", "x", "lo", "hi", "key"]) (ws := [a, x, .int 0, .none, .none]) (pos := fun xs => xs) (kw := fun _ => []) (f_ok h 32 (by kernel_rfl)) (by kernel_rfl) rfl (fun H hp xs S rr => ?_) fun L => (left_ex (m := st.length) h hl hfit hr hc).mono fun f ρ' st' q => ⟨q.1, [], by simp [q.2]⟩)
  cases rr with
  | @cons y1 _ _ _ r1 rr =>
    cases rr with
    | @cons y2 _ _ _ r2 rr =>
      cases rr
      refine ⟨[y1, y2, dfl (hd.heap_39 B.w.params) 32, .none, .none], fun S => ?_, .cons r1 (.cons r2 (.cons (by show Rep H hp (.int 0 _) _; exact .int ..) (.cons .none (.cons .none .nil))))⟩
      rw [h.hK]
      kernel_rfl

/-- with a key -/
theorem leftK_ex (h : L1 B) {L f : Addr} {fd : FuncData} {lb : Expr} (F : LamOk B f fd lb) {a x : V} {l ks : List V} {r : Nat} (hl : lis st a = some l) (hfit : l.length < 2 ^ 60) (hr : r ≤ l.length) (hks : ks.length = l.length)
    (hk : ∀ (i : Nat) v k, l[i]? = some v → ks[i]? = some k → PL B (n + 1) st (fun xs => call (.ref f) xs) [v] k)
    (hc : ∀ (i : Nat) v, ks[i]? = some v → P2 B (n + 1) st (compareOp .Lt) v x (.bool (decide (i < r)))) :
    EX B (n + 1) (callEnvC (fdOf (hd.heap_39 B.w.params) 32) L 32) m (fun y => ((["a", "x", "lo", "hi", "key"] : List Str).zip [a, x, .int 0, .none, .val (.ref f)]).lookup y) st (bodyOf (fdOf (hd.heap_39 B.w.params) 32)) (fun fl _ st' => retOf fl = .int r ∧ st' = st) := by
  refine ex_cons (x_if (c := false) (pt_cmp (pn rfl) pe_int o_lt) (fun h => by cases h) fun _ => ex_nil ?_)
  refine ex_cons (x_if (c := true) (pt_cmp (pn rfl) pe_none o_isNone) (fun _ => ?_) (fun h => by cases h))
  refine ex_cons (xa ((pe_callB (g_len h) (by kernel_rfl) (pes_cons (pn rfl) pes_nil) (o_len hl (by omega))).pm (ex_nil ?_)))
  refine ex_cons (x_if (c := false) (pt_cmp (pn rfl) pe_none (o_isNotNone rfl)) (fun h => by cases h) (fun _ => ex_cons ?_))
  refine x_while (fun ρ st' => ∃ lo hi : Int, ρ "lo" = some (.int lo) ∧ ρ "hi" = some (.int hi) ∧ ρ "a" = some a ∧ ρ "x" = some x ∧ ρ "key" = some (.val (.ref f)) ∧ st' = st ∧ 0 ≤ lo ∧ lo ≤ r ∧ r ≤ hi ∧ hi ≤ l.length) gap ⟨0, l.length, rfl, rfl, rfl, rfl, rfl, rfl, by omega, by omega, by omega, by omega⟩ ?_
  rintro ρ st' ⟨lo, hi, n1, n2, n3, n4, n5, rfl, b1, b2, b3, b4⟩
  refine ⟨decide (lo < hi), pt_cmp (pn n1) (pn n2) o_lt, fun hlt => ?_, fun hge => ex_nil (ex_cons (x_return ((pn n1).pm ?_)))⟩
  · have hlt : lo < hi := by simpa using hlt
    have hmid : (lo + hi).fdiv 2 = (lo + hi) / 2 := by rw [Int.fdiv_eq_ediv_of_nonneg _ (by decide)]
    have hv : l[((lo + hi).fdiv 2).toNat]? = some (l[((lo + hi).fdiv 2).toNat]'(by rw [hmid]; omega)) := List.getElem?_eq_getElem _
    have hkv : ks[((lo + hi).fdiv 2).toNat]? = some (ks[((lo + hi).fdiv 2).toNat]'(by rw [hmid, hks]; omega)) := List.getElem?_eq_getElem _
    generalize l[((lo + hi).fdiv 2).toNat]'(by rw [hmid]; omega) = v at hv
    generalize ks[((lo + hi).fdiv 2).toNat]'(by rw [hmid, hks]; omega) = kv at hkv
    refine ex_cons (xa ((pe_bin (pe_bin (pn n1) (pn n2) o_add) pe_int (o_fdiv (by decide))).pm ?_))
    refine ex_cons (x_if (pt_cmp (pe_callVal F (pn (nm_ne n5)) (pes_cons (pe_sub (pn (nm_ne n3)) (pn nm_eq) (o_item hl (by rw [hmid]; omega) hv (by omega))) pes_nil) (hk _ _ _ hv hkv)) (pn (nm_ne n4)) (hc _ _ hkv)) (fun ht => ?_) (fun hf => ?_))
    · refine ex_cons (xa ((pe_bin (pn nm_eq) pe_int o_add).pm (ex_nil (ex_nil ?_))))
      have ht : ((lo + hi).fdiv 2).toNat < r := by simpa using ht
      refine ⟨⟨_, _, nm_eq, nm_ne (nm_ne n2), nm_ne (nm_ne n3), nm_ne (nm_ne n4), nm_ne (nm_ne n5), rfl, by omega, by omega, by omega, by omega⟩, ?_⟩
      rw [gap_eq nm_eq (nm_ne (nm_ne n2)), gap_eq n1 n2]
      omega
    · refine ex_cons (xa ((pn nm_eq).pm (ex_nil (ex_nil ?_))))
      have hf : ¬ ((lo + hi).fdiv 2).toNat < r := by simpa using hf
      refine ⟨⟨_, _, nm_ne (nm_ne n1), nm_eq, nm_ne (nm_ne n3), nm_ne (nm_ne n4), nm_ne (nm_ne n5), rfl, by omega, by omega, by omega, by omega⟩, ?_⟩
      rw [gap_eq (nm_ne (nm_ne n1)) nm_eq, gap_eq n1 n2]
      omega
  · have hge : ¬ lo < hi := by simpa using hge
    exact ⟨by show V.int lo = V.int r; congr 1; omega, rfl⟩

theorem leftK_pl (h : L1 B) {f : Addr} {fd : FuncData} {lb : Expr} (F : LamOk B f fd lb) {a x : V} {l ks : List V} {r : Nat} (hl : lis st a = some l) (hfit : l.length < 2 ^ 60) (hr : r ≤ l.length) (hks : ks.length = l.length)
    (hk : ∀ (i : Nat) v k, l[i]? = some v → ks[i]? = some k → PL B (n + 1) st (fun xs => call (.ref f) xs) [v] k)
    (hc : ∀ (i : Nat) v, ks[i]? = some v → P2 B (n + 1) st (compareOp .Lt) v x (.bool (decide (i < r)))) : PL B (n + 2) st (fun xs => call (.ref 32) xs [("key", .ref f)]) [a, x] (.int r) := by
  refine OM.plFlat rfl (fn_om (names := ["a", "x", "lo", "hi", "key"]) (ws := [a, x, .int 0, .none, .val (.ref f)]) (pos := fun xs => xs) (kw := fun _ => [("key", .ref f)]) (f_ok h 32 (by kernel_rfl)) (by kernel_rfl) rfl (fun H hp xs S rr => ?_) fun L => (leftK_ex (m := st.length) h F hl hfit hr hks hk hc).mono fun f ρ' st' q => ⟨q.1, [], by simp [q.2]⟩)
  cases rr with
  | @cons y1 _ _ _ r1 rr =>
    cases rr with
    | @cons y2 _ _ _ r2 rr =>
      cases rr
      refine ⟨[y1, y2, dfl (hd.heap_39 B.w.params) 32, .none, .ref f], fun S => ?_, .cons r1 (.cons r2 (.cons (by show Rep H hp (.int 0 _) _; exact .int ..) (.cons .none (.cons (.val _) .nil))))⟩
      rw [h.hK]
      kernel_rfl

/-- as insort calls it -/
theorem leftK4_pl (h : L1 B) {f : Addr} {fd : FuncData} {lb : Expr} (F : LamOk B f fd lb) {a x : V} {l ks : List V} {r : Nat} (hl : lis st a = some l) (hfit : l.length < 2 ^ 60) (hr : r ≤ l.length) (hks : ks.length = l.length)
    (hk : ∀ (i : Nat) v k, l[i]? = some v → ks[i]? = some k → PL B (n + 1) st (fun xs => call (.ref f) xs) [v] k)
    (hc : ∀ (i : Nat) v, ks[i]? = some v → P2 B (n + 1) st (compareOp .Lt) v x (.bool (decide (i < r)))) : PL B (n + 2) st (fun xs => call (.ref 32) xs [("key", .ref f)]) [a, x, .int 0, .none] (.int r) := by
  refine OM.plFlat rfl (fn_om (names := ["a", "x", "lo", "hi", "key"]) (ws := [a, x, .int 0, .none, .val (.ref f)]) (pos := fun xs => xs) (kw := fun _ => [("key", .ref f)]) (f_ok h 32 (by kernel_rfl)) (by kernel_rfl) rfl (fun H hp xs S rr => ?_) fun L => (leftK_ex (m := st.length) h F hl hfit hr hks hk hc).mono fun f ρ' st' q => ⟨q.1, [], by simp [q.2]⟩)
  cases rr with
  | @cons y1 _ _ _ r1 rr =>
    cases rr with
    | @cons y2 _ _ _ r2 rr =>
      cases rr with
      | @cons y3 _ _ _ r3 rr =>
        cases rr with
        | @cons y4 _ _ _ r4 rr =>
          cases rr
          refine ⟨[y1, y2, y3, y4, .ref f], fun S => ?_, .cons r1 (.cons r2 (.cons r3 (.cons r4 (.cons (.val _) .nil))))⟩
          rw [h.hK]
          kernel_rfl

theorem insort_ex (h : L1 B) {L f : Addr} {fd : FuncData} {lb : Expr} (F : LamOk B f fd lb) {k : Nat} {x kx : V} {l ks : List V} {r : Nat} (hl : st[k]? = some l) (hm : m ≤ k) (hfit : l.length ≤ sizeLine) (hr : r ≤ l.length) (hks : ks.length = l.length)
    (hx : PL B (n + 2) st (fun xs => call (.ref f) xs) [x] kx)
    (hk : ∀ (i : Nat) v k, l[i]? = some v → ks[i]? = some k → PL B (n + 1) st (fun xs => call (.ref f) xs) [v] k)
    (hc : ∀ (i : Nat) v, ks[i]? = some v → P2 B (n + 1) st (compareOp .Lt) v kx (.bool (decide (i < r)))) :
    EX B (n + 2) (callEnvC (fdOf (hd.heap_39 B.w.params) 23) L 23) m (fun y => ((["a", "x", "lo", "hi", "key"] : List Str).zip [.ref k, x, .int 0, .none, .val (.ref f)]).lookup y) st (bodyOf (fdOf (hd.heap_39 B.w.params) 23)) (fun fl _ st' => retOf fl = .none ∧ st' = st.set k (l.take r ++ x :: l.drop r)) := by
  have hfit' : l.length < 2 ^ 60 := by simp only [sizeLine] at hfit; omega
  refine ex_cons ?_
  refine x_if (c := false) (pt_cmp (pn rfl) pe_none (o_isNotNone rfl)) (fun h => by cases h) (fun _ => ?_)
  refine ex_cons ?_
  refine xa (PE.pm (pe_callKw (f_ok h 32 (by kernel_rfl)) (by kernel_rfl) (g_g h (by kernel_rfl)) (pn rfl) (pes_cons (pn rfl) (pes_cons (pe_callVal F (pn rfl) (pes_cons (pn rfl) pes_nil) hx) (pes_cons (pn rfl) (pes_cons (pn rfl) pes_nil)))) (leftK4_pl (n := n) h F (a := .ref k) hl hfit' hr hks hk hc)) ?_)
  refine ex_nil ?_
  refine ex_cons ?_
  refine x_expr ?_
  refine pm_meth (v₀ := .ref k) (pn (nm_ne rfl)) hl ?_ PySem.F.slot_list_insert rfl
  refine PEs.pms (pes_cons (pn nm_eq) (pes_cons (pn (nm_ne rfl)) pes_nil)) ?_
  refine om_insert hl hm hfit (by omega) (by omega) ?_
  refine ex_nil ⟨rfl, ?_⟩
  simp

theorem insort_om (h : L1 B) {f : Addr} {fd : FuncData} {lb : Expr} (F : LamOk B f fd lb) {k : Nat} {x kx : V} {l ks : List V} {r : Nat} (hl : st[k]? = some l) (hm : m ≤ k) (hfit : l.length ≤ sizeLine) (hr : r ≤ l.length) (hks : ks.length = l.length)
    (hx : PL B (n + 2) st (fun xs => call (.ref f) xs) [x] kx)
    (hk : ∀ (i : Nat) v k, l[i]? = some v → ks[i]? = some k → PL B (n + 1) st (fun xs => call (.ref f) xs) [v] k)
    (hc : ∀ (i : Nat) v, ks[i]? = some v → P2 B (n + 1) st (compareOp .Lt) v kx (.bool (decide (i < r)))) {Ψ : V → Store → Prop} (hp : Ψ .none (st.set k (l.take r ++ x :: l.drop r))) :
    OM B (n + 3) m st (fun xs => call (.ref 23) xs [("key", .ref f)]) [.ref k, x] Ψ := by
  refine fn_om (names := ["a", "x", "lo", "hi", "key"]) (ws := [.ref k, x, .int 0, .none, .val (.ref f)]) (pos := fun xs => xs) (kw := fun _ => [("key", .ref f)]) (f_ok h 23 (by kernel_rfl)) (by kernel_rfl) rfl (fun H hp xs S rr => ?_) fun L => (insort_ex h F hl hm hfit hr hks hx hk hc).mono fun f ρ' st' q => by rw [q.1, q.2]; exact hp
  cases rr with
  | @cons y1 _ _ _ r1 rr =>
    cases rr with
    | @cons y2 _ _ _ r2 rr =>
      cases rr
      refine ⟨[y1, y2, dfl (hd.heap_39 B.w.params) 23, .none, .ref f], fun S => ?_, .cons r1 (.cons r2 (.cons (by show Rep H hp (.int 0 _) _; exact .int ..) (.cons .none (.cons (.val _) .nil))))⟩
      rw [h.hK]
      kernel_rfl
end
end Mine

-- part M1
open PySem
namespace Mine

/-- a keeper: its place and its turn -/
abbrev Kp := Int × Nat
def rk (K : List Kp) (p : Int) : Nat := (K.filter fun k => decide (k.1 < p)).length
def ins (K : List Kp) (k : Kp) : List Kp := K.take (rk K k.1) ++ k :: K.drop (rk K k.1)
def bef (a b : Kp) : Prop := a.1 < b.1 ∨ (a.1 = b.1 ∧ b.2 < a.2)
def Srt (K : List Kp) : Prop := K.Pairwise bef

theorem bef_trans {a b c : Kp} (h1 : bef a b) (h2 : bef b c) : bef a c := by unfold bef at *; omega
theorem rk_le (K : List Kp) (p : Int) : rk K p ≤ K.length := List.length_filter_le ..
/-- in a sorted list those with lesser places stand first -/
theorem rk_cut : ∀ {K : List Kp}, Srt K → ∀ (p : Int) (i : Nat) (k : Kp), K[i]? = some k → (k.1 < p ↔ i < rk K p)
  | [], _, p, i, k, h => by simp at h
  | c :: K, hs, p, i, k, h => by
    have hc := List.pairwise_cons.mp hs
    have ih := rk_cut hc.2 p
    by_cases hlt : c.1 < p
    · have e : rk (c :: K) p = rk K p + 1 := by simp [rk, hlt]
      rw [e]
      cases i with
      | zero => simp at h; subst h; simp [hlt]
      | succ i => rw [ih i k (by simpa using h)]; omega
    · have e : rk (c :: K) p = 0 := by
        unfold rk
        rw [List.length_eq_zero_iff, List.filter_eq_nil_iff]
        intro y hy
        rcases List.mem_cons.mp hy with rfl | hy
        · simpa using hlt
        · have := hc.1 y hy
          unfold bef at this
          simp; omega
      rw [e]
      cases i with
      | zero => simp at h; subst h; simp [hlt]
      | succ i =>
        have := hc.1 k (List.mem_of_getElem? (by simpa using h))
        unfold bef at this
        simp; omega

theorem ins_mem {K : List Kp} {k y : Kp} : y ∈ ins K k ↔ y = k ∨ y ∈ K := by
  unfold ins
  rw [List.mem_append, List.mem_cons]
  constructor
  · rintro (h | h | h)
    · exact .inr (List.mem_of_mem_take h)
    · exact .inl h
    · exact .inr (List.mem_of_mem_drop h)
  · rintro (h | h)
    · exact .inr (.inl h)
    · rw [← List.take_append_drop (rk K k.1) K] at h
      rcases List.mem_append.mp h with h | h
      · exact .inl h
      · exact .inr (.inr h)
theorem ins_length (K : List Kp) (k : Kp) : (ins K k).length = K.length + 1 := by
  have := rk_le K k.1
  unfold ins; simp; omega
theorem ins_srt {K : List Kp} {k : Kp} (hs : Srt K) (ht : ∀ y ∈ K, y.2 < k.2) : Srt (ins K k) := by
  have hcut := rk_cut hs k.1
  unfold ins Srt
  have h1 : ∀ y ∈ K.take (rk K k.1), y.1 < k.1 := fun y hy => by
    obtain ⟨i, hi⟩ := List.mem_iff_getElem?.mp hy
    have hlt : i < rk K k.1 := by have := (List.getElem?_eq_some_iff.mp hi).1; simp at this; omega
    rw [List.getElem?_take_of_lt hlt] at hi
    exact (hcut i y hi).mpr hlt
  have h2 : ∀ y ∈ K.drop (rk K k.1), k.1 ≤ y.1 := fun y hy => by
    obtain ⟨i, hi⟩ := List.mem_iff_getElem?.mp hy
    rw [List.getElem?_drop] at hi
    have := (hcut _ y hi)
    omega
  refine List.pairwise_append.mpr ⟨hs.sublist (List.take_sublist ..), List.pairwise_cons.mpr ⟨fun y hy => ?_, hs.sublist (List.drop_sublist ..)⟩, fun y hy z hz => ?_⟩
  · have := h2 y hy
    have := ht y (List.mem_of_mem_drop hy)
    unfold bef; omega
  · have a := h1 y hy
    rcases List.mem_cons.mp hz with rfl | hz
    · exact .inl a
    · exact .inl (by have := h2 z hz; omega)

/-- who keeps a thing -/
def kat (K : List Kp) (x : Int) : Nat := if rk K x = K.length then 0 else rk K x
def keep (K : List Kp) (x : Int) : Kp := K.getD (kat K x) (0, 0)
theorem kat_lt {K : List Kp} (hne : K ≠ []) (x : Int) : kat K x < K.length := by
  have := rk_le K x
  have : K.length ≠ 0 := fun e => hne (List.length_eq_zero_iff.mp e)
  unfold kat; split <;> omega
theorem keep_at {K : List Kp} (hne : K ≠ []) (x : Int) : K[kat K x]? = some (keep K x) := by
  unfold keep
  rw [List.getD_eq_getElem?_getD, List.getElem?_eq_getElem (kat_lt hne x)]; rfl

/-- round the ring from x to the keeper, then the newest -/
def dkey (s x : Int) (k : Kp) : Int × Int := ((k.1 - x).fmod s, -(k.2 : Int))
def Best (s : Int) (K : List Kp) (x : Int) (b : Kp) : Prop := b ∈ K ∧ ∀ y ∈ K, lexlt (dkey s x y) (dkey s x b) = false
def Dis (K : List Kp) : Prop := ∀ y ∈ K, ∀ z ∈ K, y.2 = z.2 → y = z

theorem lexlt_false {x y : Int × Int} : lexlt x y = false ↔ y.1 < x.1 ∨ (y.1 = x.1 ∧ y.2 ≤ x.2) := by
  have := lexlt_iff (x := x) (y := y)
  cases h : lexlt x y with
  | true => have := this.mp h; simp; omega
  | false =>
    have h' : ¬ (x.1 < y.1 ∨ (x.1 = y.1 ∧ x.2 < y.2)) := fun e => by rw [this.mpr e] at h; cases h
    simp; omega
theorem Best.uniq {s x : Int} {K : List Kp} {b c : Kp} (hd : Dis K) (hb : Best s K x b) (hc : Best s K x c) : b = c := by
  have h1 := lexlt_false.mp (hb.2 c hc.1)
  have h2 := lexlt_false.mp (hc.2 b hb.1)
  refine hd b hb.1 c hc.1 ?_
  simp only [dkey] at h1 h2
  omega

/-- distances within a window of s places -/
theorem dist_ge {s a b : Int} (h0 : b ≤ a) (h1 : a < b + s) : (a - b).fmod s = a - b := by
  rw [Int.fmod_eq_emod_of_nonneg _ (by omega)]
  exact Int.emod_eq_of_lt (by omega) (by omega)
theorem dist_lt {s a b : Int} (h0 : a < b) (h1 : b < a + s) : (a - b).fmod s = a - b + s := by
  rw [Int.fmod_eq_emod_of_nonneg _ (by omega), ← Int.add_emod_right]
  exact Int.emod_eq_of_lt (by omega) (by omega)

/-- all lie within the window -/
def Win (lo s : Int) (K : List Kp) : Prop := ∀ y ∈ K, lo ≤ y.1 ∧ y.1 < lo + s

theorem keep_best {lo s : Int} {K : List Kp} (hs : Srt K) (hw : Win lo s K) (hne : K ≠ []) {x : Int} (hx : lo ≤ x ∧ x < lo + s) : Best s K x (keep K x) := by
  have hat := keep_at hne x
  have hcut := rk_cut hs x
  refine ⟨List.mem_of_getElem? hat, fun y hy => ?_⟩
  obtain ⟨i, hi⟩ := List.mem_iff_getElem?.mp hy
  have hyw := hw y hy
  have hbw := hw _ (List.mem_of_getElem? hat)
  have ord : ∀ {i j : Nat} {a b : Kp}, K[i]? = some a → K[j]? = some b → i < j → bef a b := fun {i j a b} h1 h2 hij => by
    have := List.pairwise_iff_getElem.mp hs i j (List.getElem?_eq_some_iff.mp h1).1 (List.getElem?_eq_some_iff.mp h2).1 hij
    rwa [(List.getElem?_eq_some_iff.mp h1).2, (List.getElem?_eq_some_iff.mp h2).2] at this
  have hyi := hcut i y hi
  have hbi := hcut _ _ hat
  generalize hb : keep K x = b at *
  rw [lexlt_false]
  simp only [dkey]
  have hil := (List.getElem?_eq_some_iff.mp hi).1
  unfold kat at hat hbi
  by_cases hr : rk K x = K.length
  · rw [if_pos hr] at hat hbi
    have hyx : y.1 < x := hyi.mpr (by omega)
    have hbx : b.1 < x := hbi.mpr (by omega)
    rw [dist_lt hyx (by omega), dist_lt hbx (by omega)]
    by_cases h0 : i = 0
    · subst h0; rw [hi] at hat; cases hat; omega
    · have := ord hat hi (by omega)
      unfold bef at this
      omega
  · rw [if_neg hr] at hat hbi
    have hbx : x ≤ b.1 := by omega
    rw [dist_ge (a := b.1) hbx (by omega)]
    by_cases hlt : i < rk K x
    · have hyx : y.1 < x := hyi.mpr hlt
      rw [dist_lt hyx (by omega)]
      omega
    · have hyx : x ≤ y.1 := by omega
      rw [dist_ge hyx (by omega)]
      by_cases h0 : i = rk K x
      · subst h0; rw [hi] at hat; cases hat; omega
      · have := ord hat hi (by omega)
        unfold bef at this
        omega

/-- the way from the keeper of another place ahead -/
def ahead1 (s : Int) (K : List Kp) (p : Int) : Int := (((K.filter fun k => k.1 != p).map fun k => (p - k.1).fmod s)).foldl min s
theorem foldl_min_le : ∀ (l : List Int) (a : Int), l.foldl min a ≤ a ∧ ∀ x ∈ l, l.foldl min a ≤ x
  | [], a => ⟨Int.le_refl _, by simp⟩
  | b :: l, a => by
    have ih := foldl_min_le l (min a b)
    simp only [List.foldl_cons]
    refine ⟨by omega, fun x hx => ?_⟩
    rcases List.mem_cons.mp hx with rfl | hx
    · omega
    · exact ih.2 x hx
theorem foldl_min_mem : ∀ (l : List Int) (a : Int), l.foldl min a = a ∨ l.foldl min a ∈ l
  | [], a => .inl rfl
  | b :: l, a => by
    simp only [List.foldl_cons]
    rcases foldl_min_mem l (min a b) with h | h
    · rw [h]
      rcases Int.le_total a b with h' | h'
      · left; omega
      · right; rw [show min a b = b by omega]; simp
    · exact .inr (List.mem_cons_of_mem _ h)
theorem ahead_lt {s : Int} {K : List Kp} {p d : Int} (hd : d < s) : d < ahead1 s K p ↔ ∀ k ∈ K, k.1 ≠ p → d < (p - k.1).fmod s := by
  unfold ahead1
  have h1 := foldl_min_le (((K.filter fun k => k.1 != p).map fun k => (p - k.1).fmod s)) s
  have h2 := foldl_min_mem (((K.filter fun k => k.1 != p).map fun k => (p - k.1).fmod s)) s
  constructor
  · intro h k hk hne
    have := h1.2 ((p - k.1).fmod s) (List.mem_map.mpr ⟨k, List.mem_filter.mpr ⟨hk, by simpa using hne⟩, rfl⟩)
    omega
  · intro h
    rcases h2 with e | e
    · rw [e]; exact hd
    · obtain ⟨k, hk, e'⟩ := List.mem_map.mp e
      rw [← e']
      have := List.mem_filter.mp hk
      exact h k this.1 (by simpa using this.2)

/-- the new one is nearer just where no other place is passed -/
theorem nearer {lo s p q x : Int} (hp : lo ≤ p ∧ p < lo + s) (hq : lo ≤ q ∧ q < lo + s) (hx : lo ≤ x ∧ x < lo + s) (hne : q ≠ p) : (p - x).fmod s < (p - q).fmod s ↔ (p - x).fmod s < (q - x).fmod s := by
  have d : ∀ a b, (lo ≤ a ∧ a < lo + s) → (lo ≤ b ∧ b < lo + s) → (b ≤ a ∧ (a - b).fmod s = a - b) ∨ (a < b ∧ (a - b).fmod s = a - b + s) := fun a b ha hb => by
    rcases Int.lt_or_le a b with h | h
    · exact .inr ⟨h, dist_lt h (by omega)⟩
    · exact .inl ⟨h, dist_ge h (by omega)⟩
  have h1 := d p x hp hx
  have h2 := d p q hp hq
  have h3 := d q x hq hx
  omega
theorem same_place {lo s p q x : Int} (hp : lo ≤ p ∧ p < lo + s) (hq : lo ≤ q ∧ q < lo + s) (hx : lo ≤ x ∧ x < lo + s) (h : (p - x).fmod s = (q - x).fmod s) : p = q := by
  have d : ∀ a b, (lo ≤ a ∧ a < lo + s) → (lo ≤ b ∧ b < lo + s) → (b ≤ a ∧ (a - b).fmod s = a - b) ∨ (a < b ∧ (a - b).fmod s = a - b + s) := fun a b ha hb => by
    rcases Int.lt_or_le a b with h | h
    · exact .inr ⟨h, dist_lt h (by omega)⟩
    · exact .inl ⟨h, dist_ge h (by omega)⟩
  have h1 := d p x hp hx
  have h3 := d q x hq hx
  omega
theorem dist_range {lo s p x : Int} (hp : lo ≤ p ∧ p < lo + s) (hx : lo ≤ x ∧ x < lo + s) : 0 ≤ (p - x).fmod s ∧ (p - x).fmod s < s := by
  rcases Int.lt_or_le p x with h | h
  · rw [dist_lt h (by omega)]; omega
  · rw [dist_ge h (by omega)]; omega

theorem dis_ins {K : List Kp} {k : Kp} (hd : Dis K) (ht : ∀ y ∈ K, y.2 < k.2) : Dis (ins K k) := fun y hy z hz e => by
  rcases ins_mem.mp hy with e1 | h1 <;> rcases ins_mem.mp hz with e2 | h2
  · rw [e1, e2]
  · have := ht z h2; rw [e1] at e; omega
  · have := ht y h1; rw [e2] at e; omega
  · exact hd y h1 z h2 e
theorem win_ins {lo s : Int} {K : List Kp} {k : Kp} (hw : Win lo s K) (hk : lo ≤ k.1 ∧ k.1 < lo + s) : Win lo s (ins K k) := fun y hy => by
  rcases ins_mem.mp hy with rfl | hy
  · exact hk
  · exact hw y hy
theorem ins_ne {K : List Kp} {k : Kp} : ins K k ≠ [] := fun e => by have := ins_length K k; rw [e] at this; simp at this

/-- a comer takes just those -/
theorem comes {lo s : Int} {K : List Kp} {k : Kp} (hs : Srt K) (hd : Dis K) (hw : Win lo s K) (hk : lo ≤ k.1 ∧ k.1 < lo + s) (ht : ∀ y ∈ K, y.2 < k.2) {x : Int} (hx : lo ≤ x ∧ x < lo + s) :
    keep (ins K k) x = if (k.1 - x).fmod s < ahead1 s K k.1 then k else keep K x := by
  have hb := keep_best (ins_srt hs ht) (win_ins hw hk) ins_ne hx
  refine hb.uniq (dis_ins hd ht) ?_
  have hr := dist_range hk hx
  have ha := ahead_lt (K := K) (p := k.1) hr.2
  split
  · rename_i h
    have h := ha.mp h
    refine ⟨ins_mem.mpr (.inl rfl), fun y hy => ?_⟩
    rw [lexlt_false]
    simp only [dkey]
    rcases ins_mem.mp hy with rfl | hy
    · omega
    · have hty := ht y hy
      by_cases e : y.1 = k.1
      · rw [e]; omega
      · have := (nearer hk (hw y hy) hx e).mp (h y hy e)
        omega
  · rename_i h
    have h : ¬ ∀ y ∈ K, y.1 ≠ k.1 → (k.1 - x).fmod s < (k.1 - y.1).fmod s := fun h' => h (ha.mpr h')
    have hne : K ≠ [] := fun e => h (by rw [e]; simp)
    have hbK := keep_best hs hw hne hx
    refine ⟨ins_mem.mpr (.inr hbK.1), fun y hy => ?_⟩
    rcases ins_mem.mp hy with rfl | hy
    · obtain ⟨z, hz⟩ := Classical.not_forall.mp h
      obtain ⟨hz, h2⟩ := Classical.not_imp.mp hz
      obtain ⟨hzne, h3⟩ := Classical.not_imp.mp h2
      have h4 : ¬ (y.1 - x).fmod s < (z.1 - x).fmod s := fun h5 => h3 ((nearer hk (hw z hz) hx hzne).mpr h5)
      have h5 : (y.1 - x).fmod s ≠ (z.1 - x).fmod s := fun e => hzne (same_place hk (hw z hz) hx e).symm
      have h6 := lexlt_false.mp (hbK.2 z hz)
      rw [lexlt_false]
      simp only [dkey] at h6 ⊢
      omega
    · exact hbK.2 y hy

/-- the oldest of all is the last of its place -/
theorem oldest {K : List Kp} {k : Kp} (hs : Srt K) (hk : k ∈ K) (ho : ∀ y ∈ K, k.2 ≤ y.2) : 1 ≤ rk K (k.1 + 1) ∧ K[rk K (k.1 + 1) - 1]? = some k := by
  obtain ⟨i, hi⟩ := List.mem_iff_getElem?.mp hk
  have hcut := rk_cut hs (k.1 + 1)
  have h1 := (hcut i k hi).mp (by omega)
  refine ⟨by omega, ?_⟩
  have hle := rk_le K (k.1 + 1)
  have hq : K[rk K (k.1 + 1) - 1]? = some (K[rk K (k.1 + 1) - 1]'(by omega)) := List.getElem?_eq_getElem _
  generalize K[rk K (k.1 + 1) - 1]'(by omega) = z at hq
  by_cases e : i = rk K (k.1 + 1) - 1
  · rw [← e]; exact hi
  · have hb : bef k z := by
      have := List.pairwise_iff_getElem.mp hs i (rk K (k.1 + 1) - 1) (List.getElem?_eq_some_iff.mp hi).1 (by omega) (by omega)
      rwa [(List.getElem?_eq_some_iff.mp hi).2, (List.getElem?_eq_some_iff.mp hq).2] at this
    have hz := (hcut _ z hq).mpr (by omega)
    have hoz := ho z (List.mem_of_getElem? hq)
    unfold bef at hb
    omega

theorem srt_nodup {K : List Kp} (hs : Srt K) : K.Nodup := hs.imp fun {a b} h e => by subst e; unfold bef at h; omega
theorem erase_mem {K : List Kp} {i : Nat} {k y : Kp} (hn : K.Nodup) (hi : K[i]? = some k) : y ∈ K.eraseIdx i ↔ y ∈ K ∧ y ≠ k := by
  rw [List.mem_eraseIdx_iff_getElem?]
  constructor
  · rintro ⟨j, hj, e⟩
    refine ⟨List.mem_of_getElem? e, fun h => hj ?_⟩
    subst h
    exact (List.getElem?_inj (List.getElem?_eq_some_iff.mp e).1 hn).mp (e.trans hi.symm)
  · rintro ⟨h, hne⟩
    obtain ⟨j, hj⟩ := List.mem_iff_getElem?.mp h
    exact ⟨j, fun e => hne (by subst e; rw [hi] at hj; cases hj; rfl), hj⟩
/-- if one leaves, the things of the others stay -/
theorem stays {lo s : Int} {K : List Kp} {i : Nat} {k : Kp} (hs : Srt K) (hd : Dis K) (hw : Win lo s K) (hi : K[i]? = some k) (hne : K.eraseIdx i ≠ []) {x : Int} (hx : lo ≤ x ∧ x < lo + s) (hk : keep K x ≠ k) : keep (K.eraseIdx i) x = keep K x := by
  have hm := fun y => erase_mem (y := y) (srt_nodup hs) hi
  have hK : K ≠ [] := fun e => by rw [e] at hi; simp at hi
  have hb := keep_best hs hw hK hx
  have hb' := keep_best (hs.sublist (List.eraseIdx_sublist ..)) (fun y hy => hw y ((hm y).mp hy).1) hne hx
  refine hb'.uniq (fun y hy z hz e => hd y ((hm y).mp hy).1 z ((hm z).mp hz).1 e) ⟨(hm _).mpr ⟨hb.1, hk⟩, fun y hy => hb.2 y ((hm y).mp hy).1⟩
end Mine

-- part W1
namespace Mine

def kpV (k : Kp) : V := .lst [.int k.1, .int (k.2 : Nat)]

theorem kpV_rep {H H' : Hd} {h : Heap} {x : Value} {k : Kp} (e1 : H'.hs.take H.hs.length = H.hs) (e2 : H'.xs = H.xs) (r : Rep H' h x (kpV k)) : Rep H h x (kpV k) := by
  have hsub : ∀ a, H.has a → H'.has a := fun a ha => by
    rcases ha with ha | ha
    · rw [← e1] at ha; exact .inl (List.mem_of_mem_take ha)
    · exact .inr (e2 ▸ ha)
  cases r with
  | @lst ad vs q l ha ho hr =>
    refine .lst (fun h' => ha (hsub _ h')) ho ?_
    obtain ⟨vl⟩ := vs
    have hr : RepAll H' h vl [.int k.1, .int (k.2 : Nat)] := hr
    show RepAll H h vl [.int k.1, .int (k.2 : Nat)]
    cases hr with
    | cons r1 hr =>
      cases hr with
      | cons r2 hr => cases hr; cases r1; cases r2; exact .cons (.int ..) (.cons (.int ..) .nil)

section
variable {B : Bs} {n m : Nat} {st : Store}

/-- lambda one: one[0] -/
theorem one_lam {B' : Bs} {p1 p2 p3 p4 : Pos} {q : Str} {pm cv ctv : Value} {f : Addr} (F : LamOk B' f (kla_fn "<lambda>" q { posonlyargs := [], args := [{ arg := "one", annotation := none, pos := p1 }], vararg := none, kwonlyargs := [], kw_defaults := [], kwarg := none, defaults := [] } (.Subscript (.Name "one" p2) (.Constant (.int 0) 0 p3) p4) { kind := .function, names := [(Str.ofString "one", .local)], isGenerator := false, isCoroutine := false, more := [] } [] pm cv ctv) (.Subscript (.Name "one" p2) (.Constant (.int 0) 0 p3) p4)) (k : Kp) :
    PL B' (n + 1) st (fun xs => call (.ref f) xs) [kpV k] (.int k.1) := by
  refine lam_pl F (names := ["one"]) (by kernel_rfl) rfl (fun xs hxs => ?_) fun L => ?_
  · match xs, hxs with
    | [y], _ => rfl
  · exact pe_sub (pn (v := kpV k) rfl) pe_int (o_item (l := [.int k.1, .int (k.2 : Nat)]) rfl (by decide) rfl (by simp))

theorem keys1 {K : List Kp} {i : Nat} {v k : V} {Pp : V → V → Prop} (hv : (K.map kpV)[i]? = some v) (hk : (K.map fun k => V.int k.1)[i]? = some k) (hP : ∀ y, K[i]? = some y → Pp (kpV y) (.int y.1)) : Pp v k := by
  simp only [List.getElem?_map] at hv hk
  cases hx : K[i]? with
  | none => rw [hx] at hv; cases hv
  | some y => rw [hx] at hv hk; cases hv; cases hk; exact hP y hx

theorem cmp1 {K : List Kp} (hs : Srt K) {x : Int} {B' : Bs} {n : Nat} {st : Store} (i : Nat) (v : V) (hv : (K.map fun k => V.int k.1)[i]? = some v) : P2 B' n st (compareOp .Lt) v (.int x) (.bool (decide (i < rk K x))) := by
  simp only [List.getElem?_map] at hv
  cases hx : K[i]? with
  | none => rw [hx] at hv; cases hv
  | some y =>
    rw [hx] at hv; cases hv
    exact o_ltD (by simp [rk_cut hs x i y hx])

theorem keeper_pl (h : L1 B) {K : List Kp} {a : V} (hl : lis st a = some (K.map kpV)) (hs : Srt K) (hne : K ≠ []) (hfit : K.length ≤ 100) (x : Int) : PL B (n + 4) st (fun xs => call (.ref 39) xs) [a, .int x] (kpV (keep K x)) := by
  refine OM.pl (fn_om (n := n + 3) (names := ["keepers", "thing"]) (ws := [a, .int x]) (pos := fun xs => xs) (kw := fun _ => []) (f_ok h 39 (by kernel_rfl)) (by kernel_rfl) rfl (fun H hp xs S rr => ?_) fun L => ?_) (fun H H' h x e1 e2 r => kpV_rep e1 e2 r)
  · cases rr with
    | @cons y1 _ _ _ r1 rr =>
      cases rr with
      | @cons y2 _ _ _ r2 rr =>
        cases rr
        refine ⟨[y1, y2], fun S => ?_, .cons r1 (.cons r2 .nil)⟩
        rw [h.hK]
        kernel_rfl
  · refine ex_cons ?_
    refine xa (PE.pm (pe_callKey (c := .int (rk K x)) (t := ⟨38, 34, "_law_keeper.<locals>.<lambda>"⟩) (f_ok h 32 (by kernel_rfl)) (by kernel_rfl) (g_g h (by kernel_rfl)) ⟨by rw [h.hT]; simp, by kernel_rfl, by kernel_rfl, by kernel_rfl, by rfl, by kernel_rfl⟩ (pes_cons (pn rfl) (pes_cons (pn rfl) pes_nil)) ?_) ?_)
    · intro B' hB' f pm cv ctv F
      have h' := h.like hB'
      exact leftK_pl (n := n + 1) h' F (l := K.map kpV) (ks := K.map fun k => V.int k.1) hl (by simp; omega) (by simpa using rk_le K x) (by simp) (fun i v k hv hk => keys1 (Pp := fun v k => PL B' (n + 2) st (fun xs => call (.ref f) xs) [v] k) hv hk fun y _ => one_lam F y) (cmp1 hs)
    refine ex_cons (x_return (PE.pm (pe_sub (k := .int (kat K x)) (pn (nm_ne rfl)) (pe_ifexp (c := (rk K x : Int) == K.length) (pt_cmp (pn nm_eq) (pe_callB (g_len h) (by kernel_rfl) (pes_cons (pn (nm_ne rfl)) pes_nil) (o_lenN hl (k := K.length) (by simp) (by omega))) o_eq) (fun ht => ?_) (fun hf => ?_)) (o_item hl (by omega) (c := kpV (keep K x)) ?_ (by simp; omega))) ⟨rfl, [], by simp⟩))
    · have : kat K x = 0 := by unfold kat; rw [if_pos (by have := eq_of_beq ht; omega)]
      rw [this]; exact pe_int
    · have : kat K x = rk K x := by unfold kat; rw [if_neg (fun e => by rw [e] at hf; simp at hf)]
      rw [this]; exact pn nm_eq
    · have := keep_at hne x
      simp [this]
end
end Mine

-- part X1
namespace Mine

def kpD (k : Kp) : PyData := .list [.int k.1, .int (k.2 : Nat)]
theorem kp_py (k : Kp) (st : Store) (f : Nat) : py st (f + 1) (kpV k) = some (kpD k) := by simp [kpV, kpD, py, pys]
theorem kps_py (l : List Kp) (st : Store) (f : Nat) : pys st (f + 1) (l.map kpV) = some (l.map kpD) := by
  induction l with
  | nil => simp [pys]
  | cons e l ih => simp only [List.map_cons, pys, kp_py, ih]
theorem layAll {n : Nat} : ∀ (ds : List PyData), (∀ d ∈ ds, d.canLay0 = true ∧ d.depth ≤ n) → PyData.canLayAll0 ds = true ∧ PyData.depthAll ds ≤ n
  | [], _ => by simp [PyData.canLayAll0, PyData.depthAll]
  | d :: ds, h => by
    have h1 := h d (by simp)
    have h2 := layAll ds fun d hd => h d (by simp [hd])
    simp only [PyData.canLayAll0, PyData.depthAll, h1.1, h2.1, true_and, Bool.and_self]
    omega
theorem kpD_shaped (k : Kp) : SeqAt.shaped (kpD k) = true := by
  simp [SeqAt.shaped, kpD, PyData.canLay0, PyData.canLayAll0, PyData.depth, PyData.depthAll]
theorem kps_shaped (l : List Kp) : SeqAt.shaped (.list (l.map kpD)) = true := by
  have := layAll (n := 5) (l.map kpD) (fun d hd => by
    obtain ⟨e, _, rfl⟩ := List.mem_map.mp hd
    simp [kpD, PyData.canLay0, PyData.canLayAll0, PyData.depth, PyData.depthAll])
  simp only [SeqAt.shaped, PyData.canLay0, this.1, PyData.depth, Bool.true_and, decide_eq_true_eq, Nat.reduceLeDiff]
  have := this.2
  omega
theorem kpD_eqv (a b : Kp) : PyData.eqv (kpD a) (kpD b) = decide (a = b) := by
  simp only [kpD, PyData.eqv, PyData.eqvAll, Bool.and_true]
  rw [Bool.eq_iff_iff]
  simp only [Bool.and_eq_true, beq_iff_eq, decide_eq_true_eq]
  constructor
  · rintro ⟨h1, h2⟩; exact Prod.ext h1 (by omega)
  · rintro rfl; simp

/-- the keepers from turn i to turn j -/
structure KI (K : List Kp) (cs : List Int) (i j : Nat) : Prop where
  srt : Srt K
  mem : ∀ k, k ∈ K ↔ (i ≤ k.2 ∧ k.2 < j ∧ cs[k.2]? = some k.1)
  len : K.length = j - i

theorem KI.dis {K : List Kp} {cs : List Int} {i j : Nat} (h : KI K cs i j) : Dis K := fun y hy z hz e => by
  have h1 := ((h.mem y).mp hy).2.2
  have h2 := ((h.mem z).mp hz).2.2
  rw [e, h2] at h1
  exact Prod.ext (by simpa using h1.symm) e
theorem KI.win {K : List Kp} {cs : List Int} {i j : Nat} {lo s : Int} (h : KI K cs i j) (hc : ∀ c ∈ cs, lo ≤ c ∧ c < lo + s) : Win lo s K := fun y hy => hc _ (List.mem_of_getElem? ((h.mem y).mp hy).2.2)
theorem KI.nil (cs : List Int) : KI [] cs 0 0 := ⟨List.Pairwise.nil, fun k => by simp, by simp⟩
theorem KI.new {K : List Kp} {cs : List Int} {j : Nat} {p : Int} (h : KI K cs 0 j) (hp : cs[j]? = some p) : KI (ins K (p, j)) cs 0 (j + 1) := by
  refine ⟨ins_srt h.srt fun y hy => ((h.mem y).mp hy).2.1, fun k => ?_, by rw [ins_length, h.len]; omega⟩
  rw [ins_mem, h.mem]
  constructor
  · rintro (rfl | ⟨h1, h2, h3⟩)
    · exact ⟨Nat.zero_le _, Nat.lt_succ_self _, hp⟩
    · exact ⟨h1, by omega, h3⟩
  · rintro ⟨h1, h2, h3⟩
    by_cases e : k.2 = j
    · left
      rw [e, hp] at h3
      exact Prod.ext (by simpa using h3.symm) e
    · exact .inr ⟨h1, by omega, h3⟩
theorem KI.old {K : List Kp} {cs : List Int} {i j : Nat} {p : Int} (h : KI K cs i j) (hij : i < j) (hp : cs[i]? = some p) : (p, i) ∈ K ∧ ∀ y ∈ K, i ≤ y.2 := ⟨(h.mem _).mpr ⟨Nat.le_refl _, hij, hp⟩, fun y hy => ((h.mem y).mp hy).1⟩
theorem KI.gone {K : List Kp} {cs : List Int} {i j q : Nat} {p : Int} (h : KI K cs i j) (hij : i < j) (hp : cs[i]? = some p) (hq : K[q]? = some (p, i)) : KI (K.eraseIdx q) cs (i + 1) j := by
  have hql := (List.getElem?_eq_some_iff.mp hq).1
  refine ⟨h.srt.sublist (List.eraseIdx_sublist ..), fun k => ?_, by rw [List.length_eraseIdx_of_lt hql, h.len]; omega⟩
  rw [erase_mem (srt_nodup h.srt) hq, h.mem]
  constructor
  · rintro ⟨⟨h1, h2, h3⟩, h4⟩
    refine ⟨?_, h2, h3⟩
    rcases Nat.lt_or_eq_of_le h1 with h | h
    · exact h
    · rw [← h, hp] at h3
      exact absurd (Prod.ext (by simpa using h3.symm) h.symm) h4
  · rintro ⟨h1, h2, h3⟩
    exact ⟨⟨by omega, h2, h3⟩, fun e => by rw [e] at h1; simp at h1; omega⟩

/-- the frame -/
structure R1 (ρ : Nm) (sz : Int) (cs th : List Int) (kv : V) : Prop where
  size : ρ "size" = some (.int sz)
  comers : ρ "comers" = some (.lst (cs.map V.int))
  things : ρ "things" = some (.lst (th.map V.int))
  keepers : ρ "keepers" = some (.ref 0)
  plain : ρ "plain" = some (.ref 1)
  kept : ρ "kept" = some kv

theorem R1.up {ρ : Nm} {sz : Int} {cs th : List Int} {kv : V} {x : Str} {v : V} (h : R1 ρ sz cs th kv) (h1 : "size" ≠ x := by decide) (h2 : "comers" ≠ x := by decide) (h3 : "things" ≠ x := by decide) (h4 : "keepers" ≠ x := by decide) (h5 : "plain" ≠ x := by decide) (h6 : "kept" ≠ x := by decide) : R1 (upd ρ x v) sz cs th kv :=
  ⟨nm_ne h.size h1, nm_ne h.comers h2, nm_ne h.things h3, nm_ne h.keepers h4, nm_ne h.plain h5, nm_ne h.kept h6⟩

def inFor (cs : List Stmt) (i : Nat) : List Stmt := match cs[i]? with
  | some (Stmt.For _ _ b _ _) => b
  | _ => []
theorem ftrue {α : Type} (l : List α) : (l.filter fun _ => true) = l := List.filter_eq_self.mpr fun _ _ => rfl

section
variable {B : Bs} {n m : Nat}

theorem turn_one (h : L1 B) {L : Addr} {ρ : Nm} {st : Store} {sz lo : Int} {cs th : List Int} {kv : V} {K : List Kp} {olds : List V} {i : Nat} {p : Int} (hsz : 0 < sz) (R : R1 ρ sz cs th kv) (I : KI K cs 0 i) (hp : cs[i]? = some p) (hcs : ∀ c ∈ cs, lo ≤ c ∧ c < lo + sz) (hth : ∀ c ∈ th, lo ≤ c ∧ c < lo + sz) (hcl : cs.length ≤ 60) (htl : th.length ≤ 60)
    (s0 : st[0]? = some (K.map kpV)) (s1 : st[1]? = some (K.map kpV)) (s2 : lis st kv = some olds) (hol : olds.length = th.length) (hok : K ≠ [] → olds = th.map fun x => kpV (keep K x)) (hk2 : ∀ k, kv = .ref k → 2 ≤ k) :
    EX B (n + 6) (callEnvC (fdOf (hd.heap_39 B.w.params) 44) L 44) 0 (upd ρ "turn" (.int i)) st (inFor (bodyOf (fdOf (hd.heap_39 B.w.params) 44)) 4) (fun f ρ' st' => match f with
      | .next | .cont => ∃ k, R1 ρ' sz cs th (.ref k) ∧ 2 ≤ k ∧ st'[0]? = some ((ins K (p, i)).map kpV) ∧ st'[1]? = some ((ins K (p, i)).map kpV) ∧ st'[k]? = some (th.map fun x => kpV (keep (ins K (p, i)) x))
      | .brk => False | .ret v => False) := by
  have R := R.up (x := "turn") (v := .int i)
  have hcl' : i < cs.length := (List.getElem?_eq_some_iff.mp hp).1
  have hKl : K.length ≤ 60 := by rw [I.len]; omega
  have hturn : (upd ρ "turn" (.int i)) "turn" = some (.int i) := nm_eq
  generalize upd ρ "turn" (.int i) = ρ at *
  refine ex_cons ?_
  refine xc (PE.pm (pe_sub (pn R.comers) (pc hturn) (o_item (c := .int p) (l := cs.map V.int) rfl (by omega) (by simp [hp]) (by simp; omega))) ?_)
  have R := R.up (x := "new") (v := .int p)
  have hturn : (upd ρ "new" (.int p)) "turn" = some (.int i) := nm_ne hturn
  have hnew : (upd ρ "new" (.int p)) "new" = some (.int p) := nm_eq
  generalize upd ρ "new" (.int p) = ρ at *
  have hpl : lis st (.ref 1) = some (K.map kpV) := s1
  refine ex_cons ?_
  refine xc (PE.pm (pe_callB (g_b h (by kernel_rfl) (v := .builtin "min") (by decide +kernel) (by decide +kernel)) (by kernel_rfl) (pes_cons (pe_bin (pe_list (pes_cons (pc R.size) pes_nil)) (PC.pe (out := (K.filter fun k => k.1 != p).map fun k => V.int ((p - k.1).fmod sz)) (pc_name K kpV (fun k => k.1 != p) (fun k => .int ((p - k.1).fmod sz)) rfl (pi_list (l := K.map kpV) (pn R.plain) hpl) rfl trivial (fun k _ C => ?_) (fun k _ _ C => ?_) (by simp [sizeLine]; omega))) (o_addL rfl rfl ?_)) pes_nil) (o_minL (ns := sz :: (K.filter fun k => k.1 != p).map fun k => (p - k.1).fmod sz) (M := ahead1 sz K p) ?_ ?_ ?_)) ?_)
  · exact pts_one (pt_cmp (pe_sub (pn nm_eq) pe_int (o_item (c := .int k.1) (l := [.int k.1, .int (k.2 : Nat)]) rfl (by decide) rfl (by simp))) (pc (nm_ne (rs hnew))) o_ne)
  · exact pe_bin (pe_bin (pc (nm_ne (rs hnew))) (pe_sub (pn nm_eq) pe_int (o_item (c := .int k.1) (l := [.int k.1, .int (k.2 : Nat)]) rfl (by decide) rfl (by simp))) o_sub) (pc (nm_ne (rs R.size))) (o_mod (by omega))
  · have := List.length_filter_le (fun k : Kp => k.1 != p) K
    simp [sizeLine]; omega
  · simp [lis]
  · rcases foldl_min_mem ((K.filter fun k => k.1 != p).map fun k => (p - k.1).fmod sz) sz with e | e
    · unfold ahead1; rw [e]; simp
    · exact List.mem_cons_of_mem _ e
  · intro x hx
    have := foldl_min_le ((K.filter fun k => k.1 != p).map fun k => (p - k.1).fmod sz) sz
    rcases List.mem_cons.mp hx with rfl | hx
    · exact this.1
    · exact this.2 x hx
  have R := R.up (x := "ahead") (v := .int (ahead1 sz K p))
  have hturn : (upd ρ "ahead" (.int (ahead1 sz K p))) "turn" = some (.int i) := nm_ne hturn
  have hnew : (upd ρ "ahead" (.int (ahead1 sz K p))) "new" = some (.int p) := nm_ne hnew
  have hahead : (upd ρ "ahead" (.int (ahead1 sz K p))) "ahead" = some (.int (ahead1 sz K p)) := nm_eq
  generalize upd ρ "ahead" (.int (ahead1 sz K p)) = ρ at *
  -- insort
  refine ex_cons ?_
  refine x_expr ?_
  refine pm_callKey (t := ⟨43, 41, "law.<locals>.<lambda>"⟩) (f_ok h 23 (by kernel_rfl)) (by kernel_rfl) (g_g h (by kernel_rfl)) ⟨by rw [h.hT]; simp, by kernel_rfl, by kernel_rfl, by kernel_rfl, by rfl, by kernel_rfl⟩ (PEs.pms (vs := [.ref 0, kpV (p, i)]) (pes_cons (pc R.keepers) (pes_cons (pe_list (pes_cons (pc hnew) (pes_cons (pc hturn) pes_nil))) pes_nil)) ?_)
  intro B' hB' f pm cv ctv F
  have h' := h.like hB'
  refine insort_om (n := n + 3) h' F (kx := .int p) (l := K.map kpV) (ks := K.map fun k => V.int k.1) (r := rk K p) s0 (Nat.zero_le _) (by simp [sizeLine]; omega) (by simpa using rk_le K p) (by simp) (one_lam F (p, i)) (fun j v k hv hk => keys1 (Pp := fun v k => PL B' (n + 4) st (fun xs => call (.ref f) xs) [v] k) hv hk fun y _ => one_lam F y) (cmp1 I.srt) ?_
  have ei : (K.map kpV).take (rk K p) ++ kpV (p, i) :: (K.map kpV).drop (rk K p) = (ins K (p, i)).map kpV := by simp [ins]
  rw [ei]
  have t0 : (st.set 0 ((ins K (p, i)).map kpV))[0]? = some ((ins K (p, i)).map kpV) := List.getElem?_set_self (List.getElem?_eq_some_iff.mp s0).1
  have t1 : (st.set 0 ((ins K (p, i)).map kpV))[1]? = some (K.map kpV) := by rw [List.getElem?_set_ne (by decide)]; exact s1
  have t2 : lis (st.set 0 ((ins K (p, i)).map kpV)) kv = some olds := by
    cases kv with
    | ref k => have := hk2 k rfl; show (st.set 0 _)[k]? = _; rw [List.getElem?_set_ne (by omega)]; exact s2
    | _ => exact s2
  generalize st.set 0 ((ins K (p, i)).map kpV) = st at *
  clear B' hB' f pm cv ctv F h' s0 s1 s2
  -- plain
  refine ex_cons ?_
  refine x_expr ?_
  refine pm_meth (v₀ := .ref 1) (l := K.map kpV) (pn R.plain) t1 ?_ F.slot_list_insert rfl
  refine PEs.pms (pes_cons (pe_callB (c := .int (rk K p)) (g_len h) (by kernel_rfl) (pes_cons (PC.pe (out := (K.filter fun k => decide (k.1 < p)).map kpV) (pc_name K kpV (fun k => decide (k.1 < p)) kpV rfl (pi_list (l := K.map kpV) (pn R.plain) t1) rfl trivial (fun k _ C => ?_) (fun k _ _ C => ?_) (by simp [sizeLine]; omega))) pes_nil) (o_lenN rfl (by simp [rk]) (by have := rk_le K p; omega))) (pes_cons (v := kpV (p, i)) (pe_list (pes_cons (pc hnew) (pes_cons (pc hturn) pes_nil))) pes_nil)) ?_
  · exact pts_one (pt_cmp (pe_sub (pn nm_eq) pe_int (o_item (c := .int k.1) (l := [.int k.1, .int (k.2 : Nat)]) rfl (by decide) rfl (by simp))) (pc (nm_ne (rs hnew))) o_lt)
  · exact pn nm_eq
  refine om_insert t1 (Nat.zero_le _) (by simp [sizeLine]; omega) (by omega) (by simpa using rk_le K p) ?_
  have ei' : (K.map kpV).take ((rk K p : Int)).toNat ++ kpV (p, i) :: (K.map kpV).drop ((rk K p : Int)).toNat = (ins K (p, i)).map kpV := by simp [ins]
  rw [ei']
  have u0 : (st.set 1 ((ins K (p, i)).map kpV))[0]? = some ((ins K (p, i)).map kpV) := by rw [List.getElem?_set_ne (by decide)]; exact t0
  have u1 : (st.set 1 ((ins K (p, i)).map kpV))[1]? = some ((ins K (p, i)).map kpV) := List.getElem?_set_self (List.getElem?_eq_some_iff.mp t1).1
  have u2 : lis (st.set 1 ((ins K (p, i)).map kpV)) kv = some olds := by
    cases kv with
    | ref k => have := hk2 k rfl; show (st.set 1 _)[k]? = _; rw [List.getElem?_set_ne (by omega)]; exact t2
    | _ => exact t2
  generalize st.set 1 ((ins K (p, i)).map kpV) = st at *
  clear t0 t1 t2
  -- alike
  have hK'l : (ins K (p, i)).length ≤ 61 := by rw [ins_length]; omega
  have hsrt' := (I.new hp).srt
  have hcomes : ∀ x ∈ th, keep (ins K (p, i)) x = if (p - x).fmod sz < ahead1 sz K p then (p, i) else keep K x := fun x hx =>
    comes I.srt I.dis (I.win hcs) (hcs p (List.mem_of_getElem? hp)) (fun y hy => ((I.mem y).mp hy).2.1) (hth x hx)
  generalize hK' : ins K (p, i) = K' at *
  have hK'ne : K' ≠ [] := by rw [← hK']; exact ins_ne
  refine ex_cons ?_
  refine x_if (c := false) (pt_cmp (pc R.keepers) (pn R.plain) (o_neSame 3 3 (d := .list (K'.map kpD)) ?_ ?_ (kps_shaped _))) (fun h => by cases h) fun _ => ?_
  · simp only [py, u0, kps_py]; rfl
  · simp only [py, u1, kps_py]; rfl
  refine ex_nil ?_
  -- kept
  have hst2 : 2 ≤ st.length := by have := (List.getElem?_eq_some_iff.mp u1).1; omega
  refine ex_cons ?_
  refine xuM (out := th.map fun x => kpV (keep K' x)) (pc_two (List.zip th olds) (fun a => .int a.1) (fun a => a.2) (fun _ => true) (fun a => if (p - a.1).fmod sz < ahead1 sz K p then kpV (p, i) else a.2) ?_ (pi_zip (l := th.map V.int) (m := olds) (pc R.things) (pn R.kept) rfl u2 (g_b h (by kernel_rfl) (by decide +kernel) (by decide +kernel)) (by kernel_rfl)) ?_ ⟨_, _, _, rfl⟩ (fun a _ C => pts_nil) (fun a _ _ C => ?_) (by simp [sizeLine]; omega)) ?_
  · rw [ftrue]
    apply List.ext_getElem?
    intro j
    rw [List.getElem?_map, List.getElem?_map]
    by_cases hj : j < th.length
    · have e1 : th[j]? = some th[j] := List.getElem?_eq_getElem hj
      have e2 : olds[j]? = some (olds[j]'(by omega)) := List.getElem?_eq_getElem _
      have e3 : (List.zip th olds)[j]? = some (th[j], olds[j]'(by omega)) := List.getElem?_zip_eq_some.mpr ⟨e1, e2⟩
      rw [e1, e3]
      simp only [Option.map_some]
      congr 1
      rw [hcomes _ (List.getElem_mem hj)]
      by_cases hc : (p - th[j]).fmod sz < ahead1 sz K p
      · rw [if_pos hc, if_pos hc]
      · rw [if_neg hc, if_neg hc]
        have hKne : K ≠ [] := fun e => by
          subst e
          exact hc (by have := dist_range (hcs p (List.mem_of_getElem? hp)) (hth _ (List.getElem_mem hj)); simpa [ahead1] using this.2)
        have := hok hKne
        subst this
        simp
    · have e1 : th[j]? = none := List.getElem?_eq_none (by omega)
      have e3 : (List.zip th olds)[j]? = none := List.getElem?_eq_none (by simp; omega)
      rw [e1, e3]
      rfl
  · unfold zipV
    rw [List.zip, List.map_zipWith, List.zipWith_map_left]
  · refine pe_ifexp (c := decide ((p - a.1).fmod sz < ahead1 sz K p)) (pt_cmp (pe_bin (pe_bin (pc (nm_ne (nm_ne (rs hnew)))) (pn (nm_ne nm_eq)) o_sub) (pc (nm_ne (nm_ne (rs R.size)))) (o_mod (by omega))) (pc (nm_ne (nm_ne (rs hahead)))) o_lt) (fun ht => ?_) (fun hf => ?_)
    · rw [if_pos (by simpa using ht)]
      exact pe_list (pes_cons (pc (nm_ne (nm_ne (rs hnew)))) (pes_cons (pc (nm_ne (nm_ne (rs hturn)))) pes_nil))
    · rw [if_neg (by simpa using hf)]
      exact pn nm_eq
  have R' : R1 (upd ρ "kept" (.ref st.length)) sz cs th (.ref st.length) := ⟨nm_ne R.size, nm_ne R.comers, nm_ne R.things, nm_ne R.keepers, nm_ne R.plain, nm_eq⟩
  generalize upd ρ "kept" (.ref st.length) = ρ at *
  have v0 : (st ++ [th.map fun x => kpV (keep K' x)])[0]? = some (K'.map kpV) := by rw [List.getElem?_append_left (by omega)]; exact u0
  have v1 : (st ++ [th.map fun x => kpV (keep K' x)])[1]? = some (K'.map kpV) := by rw [List.getElem?_append_left (by omega)]; exact u1
  have v2 : (st ++ [th.map fun x => kpV (keep K' x)])[st.length]? = some (th.map fun x => kpV (keep K' x)) := by simp
  generalize hst' : st ++ [th.map fun x => kpV (keep K' x)] = st' at *
  have em : (th.map fun x => kpV (keep K' x)) = (th.map fun x => keep K' x).map kpV := by simp
  refine ex_cons ?_
  refine x_if (c := false) (pt_cmp (PC.pe (out := th.map fun x => kpV (keep K' x)) (pc_name th V.int (fun _ => true) (fun x => kpV (keep K' x)) (by rw [ftrue]) (pi_list (l := th.map V.int) (pc R'.things) rfl) rfl trivial (fun a _ C => pts_nil) (fun x _ _ C => ?_) (by simp [sizeLine]; omega))) (pn R'.kept) (o_neSame 3 3 (d := .list ((th.map fun x => keep K' x).map kpD)) ?_ ?_ (kps_shaped _))) (fun h => by cases h) fun _ => ?_
  · exact pe_callFn (f_ok h 39 (by kernel_rfl)) (by kernel_rfl) (g_g h (by kernel_rfl)) (pes_cons (pc (nm_ne (rs R'.keepers))) (pes_cons (pn nm_eq) pes_nil)) (keeper_pl (n := n + 2) h (a := .ref 0) v0 hsrt' hK'ne (by omega) x)
  · rw [em]; simp only [py, kps_py]; rfl
  · simp only [py, v2, em, kps_py]; rfl
  refine ex_nil (ex_nil ⟨st.length, R', hst2, v0, v1, v2⟩)
end
end Mine

-- part Y1
namespace Mine
section
variable {B : Bs} {n m : Nat}

/-- what the inner loop needs -/
structure R2 (ρ : Nm) (sz : Int) (cs th : List Int) (kk : Nat) (g : Kp) : Prop where
  r : R1 ρ sz cs th (.ref kk)
  gone : ρ "gone" = some (kpV g)

theorem inner (h : L1 B) {L : Addr} {ρ : Nm} {st : Store} {sz lo : Int} {cs th : List Int} {kk q j : Nat} {K : List Kp} {i n' : Nat} {p x : Int} (hsz : 0 < sz) (R : R2 ρ sz cs th kk (p, i)) (I : KI K cs i n') (hij : i + 1 < n') (hp : cs[i]? = some p) (hq : K[q]? = some (p, i)) (hcs : ∀ c ∈ cs, lo ≤ c ∧ c < lo + sz) (hth : ∀ c ∈ th, lo ≤ c ∧ c < lo + sz) (hn' : n' ≤ 60) (htl : th.length ≤ 60)
    (hj : th[j]? = some x) (s0 : st[0]? = some ((K.eraseIdx q).map kpV)) (s1 : st[1]? = some ((K.eraseIdx q).map kpV)) (hkk : 2 ≤ kk) (s2 : st[kk]? = some (((th.take j).map fun x => kpV (keep (K.eraseIdx q) x)) ++ (th.drop j).map fun x => kpV (keep K x))) :
    EX B (n + 6) (callEnvC (fdOf (hd.heap_39 B.w.params) 44) L 44) 0 (upd ρ "k" (.int j)) st (inFor (inFor (bodyOf (fdOf (hd.heap_39 B.w.params) 44)) 5) 5) (fun f ρ' st' => match f with
      | .next | .cont => R2 ρ' sz cs th kk (p, i) ∧ st'[0]? = some ((K.eraseIdx q).map kpV) ∧ st'[1]? = some ((K.eraseIdx q).map kpV) ∧ st'[kk]? = some (((th.take (j + 1)).map fun x => kpV (keep (K.eraseIdx q) x)) ++ (th.drop (j + 1)).map fun x => kpV (keep K x))
      | .brk => False | .ret v => False) := by
  have hjl : j < th.length := (List.getElem?_eq_some_iff.mp hj).1
  have hR : R2 (upd ρ "k" (.int j)) sz cs th kk (p, i) := ⟨R.r.up, nm_ne R.gone⟩
  have hk : (upd ρ "k" (.int j)) "k" = some (.int j) := nm_eq
  generalize upd ρ "k" (.int j) = ρ at *
  clear R
  have I' := I.gone (by omega) hp hq
  have hK'l : (K.eraseIdx q).length ≤ 60 := by rw [I'.len]; omega
  have hK'ne : K.eraseIdx q ≠ [] := fun e => by have := I'.len; rw [e] at this; simp at this; omega
  have hxw := hth x (List.mem_of_getElem? hj)
  have hstay := stays I.srt I.dis (I.win hcs) hq hK'ne hxw
  have hbest := keep_best I'.srt (I'.win hcs) hK'ne hxw
  have hdis := I'.dis
  have hnd := srt_nodup I'.srt
  generalize K.eraseIdx q = K' at *
  have hlen : (((th.take j).map fun x => kpV (keep K' x)) ++ (th.drop j).map fun x => kpV (keep K x)).length = th.length := by simp; omega
  have hat : (((th.take j).map fun x => kpV (keep K' x)) ++ (th.drop j).map fun x => kpV (keep K x))[((j : Int)).toNat]? = some (kpV (keep K x)) := by
    rw [Int.toNat_natCast, List.getElem?_append_right (by simp; omega), List.getElem?_map, List.getElem?_drop]
    have : j + (j - ((th.take j).map fun x => kpV (keep K' x)).length) = j := by simp; omega
    rw [this, hj]; rfl
  have hnext : ((th.take j).map fun x => kpV (keep K' x)) ++ kpV (keep K' x) :: ((th.drop (j + 1)).map fun x => kpV (keep K x)) = ((th.take (j + 1)).map fun x => kpV (keep K' x)) ++ (th.drop (j + 1)).map fun x => kpV (keep K x) := by
    rw [List.take_add_one, hj]; simp
  have hdrop : (th.drop j).map (fun x => kpV (keep K x)) = kpV (keep K x) :: (th.drop (j + 1)).map fun x => kpV (keep K x) := by
    rw [List.drop_eq_getElem_cons hjl]
    have : th[j] = x := by have := List.getElem?_eq_getElem hjl; rw [hj] at this; cases this; rfl
    rw [this]; rfl
  refine ex_cons ?_
  refine x_if (c := PyData.eqv (kpD (keep K x)) (kpD (p, i))) ?_ ?_ ?_
  · exact pt_cmp (pe_sub (pn hR.r.kept) (pc hk) (o_item (a := .ref kk) (c := kpV (keep K x)) s2 (by omega) hat (by rw [hlen]; omega))) (pn hR.gone) (o_eqD 2 2 (kp_py _ _ _) (kp_py _ _ _) (kpD_shaped _) (kpD_shaped _))
  · intro ht
    refine ex_cons ?_
    refine x_setitem (PE.pm (v := kpV (keep K' x)) ?_ ?_)
    · refine pe_sub (a := .lst [.int ((keep K' x).1 - x |>.fmod sz), .int (-((keep K' x).2 : Nat)), kpV (keep K' x)]) (pe_callB (g_b h (by kernel_rfl) (v := .builtin "min") (by decide +kernel) (by decide +kernel)) (by kernel_rfl) (pes_cons (PC.pe (out := K'.map fun y => V.lst [.int ((y.1 - x).fmod sz), .int (-(y.2 : Nat)), kpV y]) (pc_name K' kpV (fun _ => true) (fun y => V.lst [.int ((y.1 - x).fmod sz), .int (-(y.2 : Nat)), kpV y]) (by rw [ftrue]) (pi_list (l := K'.map kpV) (pn hR.r.plain) s1) rfl trivial (fun a _ C => pts_nil) (fun y _ _ C => ?_) (by simp [sizeLine]; omega))) pes_nil) (o_minTrips K' (fun y => V.lst [.int ((y.1 - x).fmod sz), .int (-(y.2 : Nat)), kpV y]) kpV (dkey sz x) (fun _ _ => rfl) rfl ?_ hbest.1 hbest.2)) pe_int (o_item rfl (by decide) rfl (by simp))
      · refine pe_list (pes_cons (pe_bin (pe_bin (pe_sub (pn nm_eq) pe_int (o_item (c := .int y.1) (l := [.int y.1, .int (y.2 : Nat)]) rfl (by decide) rfl (by simp))) (pe_sub (pc (nm_ne (rs hR.r.things))) (pc (nm_ne (rs hk))) (o_item (c := .int x) (l := th.map V.int) rfl (by omega) (by simp [hj]) (by simp; omega))) o_sub) (pc (nm_ne (rs hR.r.size))) (o_mod (by omega))) (pes_cons (pe_un (pe_sub (pn nm_eq) pe_int (o_item (c := .int (y.2 : Nat)) (l := [.int y.1, .int (y.2 : Nat)]) rfl (by decide) rfl (by simp))) o_neg) (pes_cons (pn nm_eq) pes_nil)))
      · intro a b y z hy hz hab e
        have e2 : y.2 = z.2 := by have := congrArg Prod.snd e; simp only [dkey] at this; omega
        have := hdis y (List.mem_of_getElem? hy) z (List.mem_of_getElem? hz) e2
        subst this
        exact hab ((List.getElem?_inj (List.getElem?_eq_some_iff.mp hy).1 hnd).mp (hy.trans hz.symm))
    · refine ⟨kk, _, j, pn hR.r.kept, s2, pc hk, by omega, by rw [hlen]; omega, by rw [hlen]; omega, Nat.zero_le _, ?_⟩
      refine ex_nil (ex_nil ⟨hR, ?_, ?_, ?_⟩)
      · rw [List.getElem?_set_ne (by omega)]; exact s0
      · rw [List.getElem?_set_ne (by omega)]; exact s1
      · rw [List.getElem?_set_self (List.getElem?_eq_some_iff.mp s2).1, hdrop, ← hnext]
        congr 1
        rw [Int.toNat_natCast, List.set_append_right _ _ (by simp; omega)]
        have : j - ((th.take j).map fun x => kpV (keep K' x)).length = 0 := by simp; omega
        rw [this]; rfl
  · intro hf
    rw [kpD_eqv] at hf
    have := hstay (by simpa using hf)
    refine ex_nil (ex_nil ⟨hR, s0, s1, ?_⟩)
    rw [s2, ← hnext, hdrop, this]
end
end Mine

-- part Z1
namespace Mine
section
variable {B : Bs} {n m : Nat}

theorem erase_map {α β : Type} (f : α → β) (l : List α) (i : Nat) : (l.map f).eraseIdx i = (l.eraseIdx i).map f := by
  rw [List.eraseIdx_eq_take_drop_succ, List.eraseIdx_eq_take_drop_succ]; simp

theorem turn_two (h : L1 B) {L : Addr} {ρ : Nm} {st : Store} {sz lo : Int} {cs th : List Int} {kk : Nat} {K : List Kp} {i : Nat} {p : Int} (hsz : 0 < sz) (R : R1 ρ sz cs th (.ref kk)) (I : KI K cs i cs.length) (hij : i + 1 < cs.length) (hp : cs[i]? = some p) (hcs : ∀ c ∈ cs, lo ≤ c ∧ c < lo + sz) (hth : ∀ c ∈ th, lo ≤ c ∧ c < lo + sz) (hcl : cs.length ≤ 60) (htl : th.length ≤ 60)
    (s0 : st[0]? = some (K.map kpV)) (s1 : st[1]? = some (K.map kpV)) (hkk : 2 ≤ kk) (s2 : st[kk]? = some (th.map fun x => kpV (keep K x))) :
    EX B (n + 6) (callEnvC (fdOf (hd.heap_39 B.w.params) 44) L 44) 0 (upd ρ "turn" (.int i)) st (inFor (bodyOf (fdOf (hd.heap_39 B.w.params) 44)) 5) (fun f ρ' st' => match f with
      | .next | .cont => R1 ρ' sz cs th (.ref kk) ∧ ∃ K', KI K' cs (i + 1) cs.length ∧ st'[0]? = some (K'.map kpV) ∧ st'[1]? = some (K'.map kpV) ∧ st'[kk]? = some (th.map fun x => kpV (keep K' x))
      | .brk => False | .ret v => False) := by
  have R := R.up (x := "turn") (v := .int i)
  have hKl : K.length ≤ 60 := by rw [I.len]; omega
  have hturn : (upd ρ "turn" (.int i)) "turn" = some (.int i) := nm_eq
  generalize upd ρ "turn" (.int i) = ρ at *
  have hold := I.old (by omega) hp
  obtain ⟨hr1, hq⟩ := oldest I.srt hold.1 hold.2
  have hrl := rk_le K (p + 1)
  have hr1 : 1 ≤ rk K (p + 1) := hr1
  have hcut : ∀ {B' : Bs} {n : Nat} {st : Store} (i : Nat) (v : V), (K.map fun k => V.int k.1)[i]? = some v → P2 B' n st (compareOp .Lt) v (.int (p + 1)) (.bool (decide (i < rk K (p + 1)))) := cmp1 I.srt
  have hq' : K[rk K (p + 1) - 1]? = some (p, i) := hq
  obtain ⟨q, hqe⟩ : ∃ q, q = rk K (p + 1) - 1 := ⟨_, rfl⟩
  have hrq : (rk K (p + 1) : Int) - 1 = (q : Nat) := by omega
  rw [← hqe] at hq'
  refine ex_cons ?_
  refine xa (PE.pm (v := kpV (p, i)) (pe_list (pes_cons (pe_sub (pn R.comers) (pc hturn) (o_item (c := .int p) (l := cs.map V.int) rfl (by omega) (by simp [hp]) (by simp; omega))) (pes_cons (pc hturn) pes_nil))) ?_)
  have R := R.up (x := "gone") (v := kpV (p, i))
  have hturn : (upd ρ "gone" (kpV (p, i))) "turn" = some (.int i) := nm_ne hturn
  have hgone : (upd ρ "gone" (kpV (p, i))) "gone" = some (kpV (p, i)) := nm_eq
  generalize upd ρ "gone" (kpV (p, i)) = ρ at *
  refine ex_cons ?_
  refine xa (PE.pm (v := .int (q : Nat)) (hrq ▸ pe_bin (pe_callKey (c := .int (rk K (p + 1))) (t := ⟨43, 41, "law.<locals>.<lambda>"⟩) (f_ok h 32 (by kernel_rfl)) (by kernel_rfl) (g_g h (by kernel_rfl)) ⟨by rw [h.hT]; simp, by kernel_rfl, by kernel_rfl, by kernel_rfl, by rfl, by kernel_rfl⟩ (pes_cons (pc R.keepers) (pes_cons (pe_bin (pe_sub (pn R.comers) (pc hturn) (o_item (c := .int p) (l := cs.map V.int) rfl (by omega) (by simp [hp]) (by simp; omega))) pe_int o_add) pes_nil)) ?_) pe_int o_sub) ?_)
  · intro B' hB' f pm cv ctv F
    have h' := h.like hB'
    exact leftK_pl (n := n + 4) h' F (a := .ref 0) (l := K.map kpV) (ks := K.map fun k => V.int k.1) s0 (by simp; omega) (by simpa using hrl) (by simp) (fun i v k hv hk => keys1 (Pp := fun v k => PL B' (n + 5) st (fun xs => call (.ref f) xs) [v] k) hv hk fun y _ => one_lam F y) hcut
  have R := R.up (x := "at") (v := .int (q : Nat))
  have hgone : (upd ρ "at" (.int (q : Nat))) "gone" = some (kpV (p, i)) := nm_ne hgone
  have hAt : (upd ρ "at" (.int (q : Nat))) "at" = some (.int (q : Nat)) := nm_eq
  generalize upd ρ "at" (.int (q : Nat)) = ρ at *
  have hql : q < K.length := (List.getElem?_eq_some_iff.mp hq').1
  refine ex_cons ?_
  refine x_if (c := false) (pt_cmp (pe_slice (a := .ref 0) (l := K.map kpV) (pc R.keepers) s0 (pp_some (pn hAt)) (pp_some (pe_bin (pn hAt) pe_int o_add)) pp_none (by simp) (by simp [sizeLine]; omega)) (pe_list (pes_cons (pn hgone) pes_nil)) (o_neSame 3 3 (d := .list [kpD (p, i)]) ?_ ?_ (kps_shaped [(p, i)]))) (fun h => by cases h) fun _ => ?_
  · rw [slc_both (x := (q : Nat)) (y := ((q : Nat) : Int) + 1) _ q (q + 1) rfl (by omega) (by omega)]
    have e : ((K.map kpV).drop q).take (q + 1 - q) = [kpV (p, i)] := by
      rw [List.drop_eq_getElem_cons (by simpa using hql), show q + 1 - q = 1 by omega]
      simp only [List.take_succ_cons, List.take_zero, List.getElem_map]
      congr 2
      exact (List.getElem?_eq_some_iff.mp hq').2
    rw [e]
    simp only [py, pys, kp_py]; rfl
  · simp only [py, pys, kp_py]; rfl
  refine ex_nil ?_
  refine ex_cons ?_
  refine x_delitem (pc R.keepers) s0 (pn hAt) (by omega) (by simp; omega) (by simp [sizeLine]; omega) (Nat.zero_le _) ?_
  have ee : (K.map kpV).eraseIdx ((q : Nat) : Int).toNat = (K.eraseIdx q).map kpV := by rw [Int.toNat_natCast, erase_map]
  rw [ee]
  have t0 : (st.set 0 ((K.eraseIdx q).map kpV))[0]? = some ((K.eraseIdx q).map kpV) := List.getElem?_set_self (List.getElem?_eq_some_iff.mp s0).1
  have t1 : (st.set 0 ((K.eraseIdx q).map kpV))[1]? = some (K.map kpV) := by rw [List.getElem?_set_ne (by decide)]; exact s1
  have t2 : (st.set 0 ((K.eraseIdx q).map kpV))[kk]? = some (th.map fun x => kpV (keep K x)) := by rw [List.getElem?_set_ne (by omega)]; exact s2
  generalize st.set 0 ((K.eraseIdx q).map kpV) = st at *
  clear s0 s1 s2
  refine ex_cons ?_
  refine x_expr ?_
  refine pm_meth (v₀ := .ref 1) (l := K.map kpV) (pn R.plain) t1 ?_ F.slot_list_remove rfl
  refine PEs.pms (pes_cons (pn hgone) pes_nil) ?_
  refine om_remove 2 (fun j => kpD (K.getD j (0, 0))) (j := q) t1 (Nat.zero_le _) (by simp [sizeLine]; omega) (kp_py _ _ _) (kpD_shaped _) (fun j w hw => ?_) (by simpa using hql) ?_ (fun j hj => ?_) ?_
  · obtain ⟨y, hy, rfl⟩ : ∃ y, K[j]? = some y ∧ kpV y = w := by simpa using hw
    have : K.getD j (0, 0) = y := by rw [List.getD_eq_getElem?_getD, hy]; rfl
    rw [this]
    exact ⟨kp_py _ _ _, kpD_shaped _⟩
  · rw [kpD_eqv, List.getD_eq_getElem?_getD, hq']; simp
  · rw [kpD_eqv]
    have hjl : j < K.length := by omega
    have hy : K[j]? = some K[j] := List.getElem?_eq_getElem hjl
    rw [List.getD_eq_getElem?_getD, hy]
    refine decide_eq_false fun e => ?_
    have e : K[j] = (p, i) := e
    rw [e] at hy
    have := (List.getElem?_inj hjl (srt_nodup I.srt)).mp (hy.trans hq'.symm)
    omega
  rw [erase_map]
  have u0 : (st.set 1 ((K.eraseIdx q).map kpV))[0]? = some ((K.eraseIdx q).map kpV) := by rw [List.getElem?_set_ne (by decide)]; exact t0
  have u1 : (st.set 1 ((K.eraseIdx q).map kpV))[1]? = some ((K.eraseIdx q).map kpV) := List.getElem?_set_self (List.getElem?_eq_some_iff.mp t1).1
  have u2 : (st.set 1 ((K.eraseIdx q).map kpV))[kk]? = some (th.map fun x => kpV (keep K x)) := by rw [List.getElem?_set_ne (by omega)]; exact t2
  generalize st.set 1 ((K.eraseIdx q).map kpV) = st at *
  clear t0 t1 t2
  refine ex_cons ?_
  refine x_for (xs := ["k"]) (pi_rangeN (k := th.length) (pe_callB (g_len h) (by kernel_rfl) (pes_cons (pc R.things) pes_nil) (o_lenN (l := th.map V.int) rfl (by simp) (by omega))) rfl (by omega) (g_b h (by kernel_rfl) (by decide +kernel) (by decide +kernel))) trivial
    (fun j ρ st => R2 ρ sz cs th kk (p, i) ∧ st[0]? = some ((K.eraseIdx q).map kpV) ∧ st[1]? = some ((K.eraseIdx q).map kpV) ∧ st[kk]? = some (((th.take j).map fun x => kpV (keep (K.eraseIdx q) x)) ++ (th.drop j).map fun x => kpV (keep K x))) ?_ ?_ ?_
  · exact ⟨⟨R, hgone⟩, u0, u1, by simpa using u2⟩
  · rintro j v ρ st hj ⟨R, w0, w1, w2⟩
    have hjl : j < th.length := by have := (List.getElem?_eq_some_iff.mp hj).1; simpa using this
    obtain rfl : V.int (j : Nat) = v := by simpa [hjl] using hj
    refine ⟨trivial, _, pa_name (by simp) (.inr (by kernel_rfl)), ?_⟩
    refine (inner h hsz R I hij hp hq' hcs hth hcl htl (List.getElem?_eq_getElem hjl) w0 w1 hkk w2).mono fun f ρ' st' q => ?_
    cases f <;> first | exact q | exact q.elim
  · rintro ρ st ⟨R, w0, w1, w2⟩
    refine ⟨trivial, ?_⟩
    have hl2 : ((List.range th.length).map fun j => V.int (j : Nat)).length = th.length := by simp
    rw [hl2, List.take_of_length_le (Nat.le_refl _), List.drop_of_length_le (Nat.le_refl _), List.map_nil, List.append_nil] at w2
    have I' := I.gone (by omega) hp hq'
    generalize K.eraseIdx q = K' at *
    have hK'l : K'.length ≤ 60 := by rw [I'.len]; omega
    have hK'ne : K' ≠ [] := fun e => by have := I'.len; rw [e] at this; simp at this; omega
    have em : (th.map fun x => kpV (keep K' x)) = (th.map fun x => keep K' x).map kpV := by simp
    refine ex_cons ?_
    refine x_if (c := false) (pt_cmp (PC.pe (out := th.map fun x => kpV (keep K' x)) (pc_name th V.int (fun _ => true) (fun x => kpV (keep K' x)) (by rw [ftrue]) (pi_list (l := th.map V.int) (pc R.r.things) rfl) rfl trivial (fun a _ C => pts_nil) (fun x _ _ C => ?_) (by simp [sizeLine]; omega))) (pn R.r.kept) (o_neSame 3 3 (d := .list ((th.map fun x => keep K' x).map kpD)) ?_ ?_ (kps_shaped _))) (fun h => by cases h) fun _ => ?_
    · exact pe_callFn (f_ok h 39 (by kernel_rfl)) (by kernel_rfl) (g_g h (by kernel_rfl)) (pes_cons (pc (nm_ne (rs R.r.keepers))) (pes_cons (pn nm_eq) pes_nil)) (keeper_pl (n := n + 2) h (a := .ref 0) w0 I'.srt hK'ne (by omega) x)
    · rw [em]; simp only [py, kps_py]; rfl
    · simp only [py, w2, em, kps_py]; rfl
    exact ex_nil (ex_nil ⟨R.r, K', I', w0, w1, w2⟩)
end
end Mine

-- part Q1
namespace Mine

theorem alt_map {α β : Type} (f : α → β) : ∀ l : List α, alt (l.map f) = (alt l).map f
  | [] => by simp [alt]
  | [a] => by simp [alt]
  | a :: b :: l => by simp [alt, alt_map f l]
theorem alt_mem {α : Type} {x : α} : ∀ {l : List α}, x ∈ alt l → x ∈ l
  | [], h => by simp [alt] at h
  | [a], h => by simpa [alt] using h
  | a :: b :: l, h => by
    simp only [alt, List.mem_cons] at h
    rcases h with h | h
    · simp [h]
    · have := alt_mem h; simp [this]

def size1 (ns : List Int) : Int := match ns with
  | [] => 1
  | a :: _ => (if a < 0 then -a else a) + 1
theorem size1_pos (ns : List Int) : 0 < size1 ns := by
  unfold size1
  split
  · decide
  · split <;> omega
def nums1 (ns : List Int) : List Int := (ns.drop 1).take 62 ++ [0, 0]
def places1 (ns : List Int) : List Int := (nums1 ns).map fun x => x.fmod (size1 ns) - (size1 ns).fdiv 2
theorem places1_win {ns : List Int} {c : Int} (h : c ∈ places1 ns) : -((size1 ns).fdiv 2) ≤ c ∧ c < -((size1 ns).fdiv 2) + size1 ns := by
  obtain ⟨x, _, rfl⟩ := List.mem_map.mp h
  have hs := size1_pos ns
  have h1 := Int.fmod_nonneg_of_pos x hs
  have h2 := Int.fmod_lt_of_pos x hs
  omega

section
variable {B : Bs} {n m : Nat}

theorem law_ex1 (h : L1 B) {L : Addr} {ns : List Int} (hfit : ns.length ≤ 63) :
    EX B (n + 6) (callEnvC (fdOf (hd.heap_39 B.w.params) 44) L 44) 0 (fun y => ((["script"] : List Str).zip [.lst (ns.map V.int)]).lookup y) [] (bodyOf (fdOf (hd.heap_39 B.w.params) 44)) (fun fl _ st' => retOf fl = .bool true) := by
  refine ex_cons ?_
  refine xc (PE.pm (v := .int (size1 ns)) (pe_ifexp (c := !(ns.map V.int).isEmpty) (pt_val (pn (v := .lst (ns.map V.int)) (by kernel_rfl)) (tr_lis rfl (by simp; omega))) (fun ht => ?_) (fun hf => ?_)) ?_)
  · cases ns with
    | nil => simp at ht
    | cons a r => exact pe_bin (pe_callB (g_b h (by kernel_rfl) (v := .builtin "abs") (by decide +kernel) (by decide +kernel)) (by kernel_rfl) (pes_cons (pe_sub (pn (v := .lst ((a :: r).map V.int)) (by kernel_rfl)) pe_int (o_item (c := .int a) (l := (a :: r).map V.int) rfl (by decide) rfl (by simp at hfit ⊢; omega))) pes_nil) o_abs) pe_int o_add
  · cases ns with
    | nil => exact pe_int
    | cons a r => simp at hf
  have hs := size1_pos ns
  refine ex_cons ?_
  refine xu (out := (places1 ns).map V.int) (pc_name (nums1 ns) V.int (fun _ => true) (fun x => .int (x.fmod (size1 ns) - (size1 ns).fdiv 2)) (by rw [ftrue]; simp [places1]) (pi_list (a := .lst ((nums1 ns).map V.int)) (l := (nums1 ns).map V.int) ?_ rfl) rfl trivial (fun a _ C => pts_nil) (fun x _ _ C => ?_) (by simp [nums1, sizeLine]; omega)) ?_
  · have e : (nums1 ns).map V.int = slc (ns.map V.int) (some 1) (some 63) none ++ [.int 0, .int 0] := by
      rw [slc_both (x := 1) (y := 63) _ 1 63 rfl rfl (by decide)]
      simp [nums1]
    rw [e]
    refine pe_bin (pe_slice (pn (v := .lst (ns.map V.int)) (nm_ne (by kernel_rfl))) rfl (pp_some pe_int) (pp_some pe_int) pp_none (by simp) (by simp [sizeLine]; omega)) (pe_list (pes_cons pe_int (pes_cons pe_int pes_nil))) (o_addL rfl rfl ?_)
    rw [slc_both (x := 1) (y := 63) _ 1 63 rfl rfl (by decide)]
    simp [sizeLine]; omega
  · exact pe_bin (pe_bin (pn nm_eq) (pc (nm_ne (rs nm_eq))) (o_mod (by omega))) (pe_bin (pc (nm_ne (rs nm_eq))) pe_int (o_fdiv (by decide))) o_sub
  have hwin := fun c => places1_win (ns := ns) (c := c)
  have hpl : 2 ≤ (places1 ns).length ∧ (places1 ns).length ≤ 64 := by simp [places1, nums1]; omega
  generalize places1 ns = pl at *
  generalize size1 ns = sz at *
  generalize -(sz.fdiv 2) = lo at *
  refine ex_cons ?_
  refine x_assignT (xs := ["comers", "things"]) (PE.pm (pe_tuple (vs := [.lst ((alt pl).map V.int), .lst ((alt (pl.drop 1)).map V.int)]) (pes_cons ?_ (pes_cons ?_ pes_nil))) ?_)
  · have e : (alt pl).map V.int = slc (pl.map V.int) none none (some 2) := by rw [slc_evens, alt_map]
    rw [e]
    exact pe_slice (pn nm_eq) rfl pp_none pp_none (pp_some pe_int) (by simp) (by simp [sizeLine]; omega)
  · have e : (alt (pl.drop 1)).map V.int = slc (pl.map V.int) (some 1) none (some 2) := by rw [slc_odds, ← List.map_drop, alt_map]
    rw [e]
    exact pe_slice (pn nm_eq) rfl (pp_some pe_int) pp_none (pp_some pe_int) (by simp) (by simp [sizeLine]; omega)
  refine ⟨_, pa_tuple (pas_cons (pa_name (by simp) (.inl (by kernel_rfl))) (pas_cons (pa_name (by simp) (.inr (by kernel_rfl))) pas_nil)), ?_⟩
  have hcs : ∀ c ∈ alt pl, lo ≤ c ∧ c < lo + sz := fun c hc => hwin c (alt_mem hc)
  have hth : ∀ c ∈ alt (pl.drop 1), lo ≤ c ∧ c < lo + sz := fun c hc => hwin c (List.mem_of_mem_drop (alt_mem hc))
  have hcl : 1 ≤ (alt pl).length ∧ (alt pl).length ≤ 60 := by rw [alt_length]; omega
  have htl : (alt (pl.drop 1)).length ≤ 60 := by rw [alt_length]; simp; omega
  generalize alt pl = cs at *
  generalize alt (pl.drop 1) = th at *
  refine ex_cons ?_
  refine x_assignT (xs := ["keepers", "plain", "kept"]) ?_
  refine pm_tuple (pms_cons ?_)
  refine pm_list (vs := []) pes_nil (pms_cons ?_) (by simp)
  refine pm_list (vs := []) pes_nil (pms_cons ?_) (by simp)
  refine PE.pm (pc (v := .lst (th.map V.int)) nm_eq) (pms_nil ?_)
  refine ⟨by simp [sizeLine], _, pa_tuple (pas_cons (pa_name (by simp) (.inr (by kernel_rfl))) (pas_cons (pa_name (by simp) (.inl (by kernel_rfl))) (pas_cons (pa_name (by simp) (.inl (by kernel_rfl))) pas_nil))), ?_⟩
  refine ex_cons ?_
  refine x_for (xs := ["turn"]) (pi_rangeN (k := cs.length) (pe_callB (g_len h) (by kernel_rfl) (pes_cons (pn (v := .lst (cs.map V.int)) (nm_ne (nm_ne (nm_ne (nm_ne nm_eq))))) pes_nil) (o_lenN (l := cs.map V.int) rfl (by simp) (by omega))) rfl (by omega) (g_b h (by kernel_rfl) (by decide +kernel) (by decide +kernel))) trivial
    (fun i ρ st => ∃ kv K olds, R1 ρ sz cs th kv ∧ KI K cs 0 i ∧ st[0]? = some (K.map kpV) ∧ st[1]? = some (K.map kpV) ∧ lis st kv = some olds ∧ olds.length = th.length ∧ (K ≠ [] → olds = th.map fun x => kpV (keep K x)) ∧ (∀ k, kv = .ref k → 2 ≤ k) ∧ (0 < i → ∃ k, kv = .ref k)) ?_ ?_ ?_
  · refine ⟨.lst (th.map V.int), [], th.map V.int, ⟨nm_ne (nm_ne (nm_ne (nm_ne (nm_ne (nm_ne nm_eq))))), nm_ne (nm_ne (nm_ne (nm_ne nm_eq))), nm_ne (nm_ne (nm_ne nm_eq)), nm_ne (nm_ne nm_eq), nm_ne nm_eq, nm_eq⟩, KI.nil cs, rfl, rfl, rfl, by simp, fun h => absurd rfl h, fun k h => (by cases h), fun h => (by omega)⟩
  · rintro i v ρ st hi ⟨kv, K, olds, R, I, s0, s1, s2, hol, hok, hk2, _⟩
    have hil : i < cs.length := by have := (List.getElem?_eq_some_iff.mp hi).1; simpa using this
    obtain rfl : V.int (i : Nat) = v := by simpa [hil] using hi
    refine ⟨trivial, _, pa_name (by simp) (.inr (by kernel_rfl)), ?_⟩
    have hp : cs[i]? = some cs[i] := List.getElem?_eq_getElem hil
    refine (turn_one h hs R I hp hcs hth hcl.2 htl s0 s1 s2 hol hok hk2).mono fun f ρ' st' q => ?_
    have fin : ∀ ρ' (st' : Store), (∃ k, R1 ρ' sz cs th (.ref k) ∧ 2 ≤ k ∧ st'[0]? = some ((ins K (cs[i], i)).map kpV) ∧ st'[1]? = some ((ins K (cs[i], i)).map kpV) ∧ st'[k]? = some (th.map fun x => kpV (keep (ins K (cs[i], i)) x))) →
        ∃ kv K olds, R1 ρ' sz cs th kv ∧ KI K cs 0 (i + 1) ∧ st'[0]? = some (K.map kpV) ∧ st'[1]? = some (K.map kpV) ∧ lis st' kv = some olds ∧ olds.length = th.length ∧ (K ≠ [] → olds = th.map fun x => kpV (keep K x)) ∧ (∀ k, kv = .ref k → 2 ≤ k) ∧ (0 < i + 1 → ∃ k, kv = .ref k) := fun ρ' st' ⟨k, R', hk, a0, a1, a2⟩ =>
      ⟨.ref k, _, _, R', I.new hp, a0, a1, a2, by simp, fun _ => rfl, fun k' e => by cases e; exact hk, fun _ => ⟨k, rfl⟩⟩
    cases f <;> first | exact fin _ _ q | exact q.elim
  · rintro ρ st ⟨kv, K, olds, R, I, s0, s1, s2, hol, hok, hk2, hrf⟩
    have hl2 : ((List.range cs.length).map fun j => V.int (j : Nat)).length = cs.length := by simp
    rw [hl2] at I hrf
    obtain ⟨k, rfl⟩ := hrf (by omega)
    have hKne : K ≠ [] := fun e => by have := I.len; rw [e] at this; simp at this; omega
    have hk := hk2 k rfl
    have := hok hKne
    subst this
    refine ⟨trivial, ?_⟩
    refine ex_cons ?_
    have e1 : ((cs.length : Nat) : Int) - 1 = ((cs.length - 1 : Nat) : Int) := by omega
    refine x_for (xs := ["turn"]) (pi_rangeN (k := cs.length - 1) (e1 ▸ pe_bin (pe_callB (g_len h) (by kernel_rfl) (pes_cons (pn R.comers) pes_nil) (o_lenN (l := cs.map V.int) rfl (by simp) (by omega))) pe_int o_sub) rfl (by omega) (g_b h (by kernel_rfl) (by decide +kernel) (by decide +kernel))) trivial
      (fun i ρ st => R1 ρ sz cs th (.ref k) ∧ ∃ K, KI K cs i cs.length ∧ st[0]? = some (K.map kpV) ∧ st[1]? = some (K.map kpV) ∧ st[k]? = some (th.map fun x => kpV (keep K x))) ⟨R, K, I, s0, s1, s2⟩ ?_ ?_
    · rintro i v ρ st hi ⟨R, K, I, s0, s1, s2⟩
      have hil : i < cs.length - 1 := by have := (List.getElem?_eq_some_iff.mp hi).1; simpa using this
      obtain rfl : V.int (i : Nat) = v := by simpa [hil] using hi
      refine ⟨trivial, _, pa_name (by simp) (.inr (by kernel_rfl)), ?_⟩
      refine (turn_two h hs R I (by omega) (List.getElem?_eq_getElem (by omega)) hcs hth hcl.2 htl s0 s1 hk s2).mono fun f ρ' st' q => ?_
      cases f <;> first | exact q | exact q.elim
    · rintro ρ st ⟨R, _⟩
      exact ⟨trivial, ex_cons (x_return (PE.pm pe_bool rfl))⟩
end
end Mine

-- part H1
open Mine in
set_option maxRecDepth 100000 in
set_option maxHeartbeats 8000000 in
theorem PySem.Challenge.cw_dm0011_01_holds : PySem.Challenge.rw_dm0011_01.Holds := by
  exact hd (by
  intro w s₀ s₁ mg mb G Y a o pm cd doc dV kV ho hdat hcd hD hmg hg args vals as hpre hlay hrd hwl hlo
  have T := G.T
  have KX := km_in_of Y
  have KT := km_tabs_of Y
  clear ho hdat hcd hD G Y
  wrow_args hpre hlay hrd hwl hlo
  rename_i ns _ _ hLy _ _ _ _ sc vs _ hL _ hW _ hI _ hn _
  have hn : ns.length ≤ 63 := by omega
  have hmgf : ∀ (name : Str) (ad : Addr), gname (hd.heap_39 w.params) name = some (.ref ad) → mg name = some (.ref ad) := fun name ad e => by
    unfold gname at e
    split at e
    · rename_i c d es n sl hK
      obtain ⟨o, es', ep, ho, hd', _, hm⟩ := T.g
      have := KX _ _ hK
      rw [ho] at this
      cases this
      cases hd'
      rw [← hm, e]
    · cases e
  have X : TabsFit hd.view_39 mg (hd.heap_39 w.params) [⟨38, 34, "_law_keeper.<locals>.<lambda>"⟩, ⟨43, 41, "law.<locals>.<lambda>"⟩] := by
    refine ⟨by decide, ?_, ?_, ?_, ?_⟩
    · intro t ht
      simp only [List.mem_cons, List.not_mem_nil, or_false] at ht
      rcases ht with rfl | rfl <;> kernel_rfl
    · intro t ht
      simp only [List.mem_cons, List.not_mem_nil, or_false] at ht
      rcases ht with rfl | rfl <;> kernel_rfl
    · intro t ht
      simp only [List.mem_cons, List.not_mem_nil, or_false] at ht
      rcases ht with rfl | rfl <;> decide
    · intro t ht
      simp only [List.mem_cons, List.not_mem_nil, or_false] at ht
      rcases ht with rfl | rfl
      · exact ⟨"_law_keeper", 39, by decide +kernel, hmgf _ _ (by kernel_rfl), by kernel_rfl, by kernel_rfl⟩
      · exact ⟨"law", 44, by decide +kernel, hmgf _ _ (by kernel_rfl), by kernel_rfl, by kernel_rfl⟩
  let B : Bs := Bs.of T PySem.Challenge.rw_dm0011_01.row.prog w (by kernel_rfl) rfl (hd.heap_39 w.params) KX [⟨38, 34, "_law_keeper.<locals>.<lambda>"⟩, ⟨43, 41, "law.<locals>.<lambda>"⟩] X
  have h5 : L1 B := ⟨rfl, rfl⟩
  have h1 : mg "law" = some (.ref 44) := hmgf _ _ (by kernel_rfl)
  rw [h1] at hmg
  cases hmg
  refine law_end (B := B) (n := 6) (fun b o hb e => ?_) (fun b o e => ?_) (fun t ht => ?_) hg (f_ok h5 44 (by kernel_rfl)) (by kernel_rfl) (fun x S => by kernel_rfl) (well_list hW hL) hI (fun L => (law_ex1 (n := 0) h5 (by omega)).mono fun _ _ _ q => q) (by omega) (fun _ => rfl) ?_
  · exact hideAll_get _ e fun hm => hb (let ⟨t, ht, e⟩ := List.mem_map.mp hm; ⟨t, ht, e⟩)
  · exact of_hideAll _ e
  · refine ⟨?_, KT _ ?_⟩
    · obtain ⟨o, vs, file, tf, flags, tg, inF, text, tt, e1, e2, e3, e4, _⟩ := codeHd_of_K KX (X.co t ht)
      exact ⟨o, vs, e1, e2, e3, e4⟩
    · have ht : t ∈ ([⟨38, 34, "_law_keeper.<locals>.<lambda>"⟩, ⟨43, 41, "law.<locals>.<lambda>"⟩] : List Tab) := ht
      simp only [List.mem_cons, List.not_mem_nil, or_false] at ht
      rcases ht with rfl | rfl <;> simp
  · kernel_rfl)
