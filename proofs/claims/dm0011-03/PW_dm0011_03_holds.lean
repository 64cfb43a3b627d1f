import PyProof.Rows.All
import Wide.All
import OpenK.AllK
import Wide.FinOn
import PySem.Challenge.RW_dm0011_03
open PySem PySem.W PyProof.Rows
set_option Elab.async false
set_option linter.unusedVariables false
set_option linter.unusedSimpArgs false
set_option maxRecDepth 100000
set_option maxHeartbeats 8000000

-- part Gw1
namespace Mine

/-- pure values: `ref k` is the k-th mutable list -/
inductive V where
  | none
  | bool (b : Bool)
  | int (i : Int)
  | str (s : Str)
  | tup (l : List V)
  | lst (l : List V)
  | ref (k : Nat)
  | val (x : Value)

abbrev Store := List (List V)

def tupObj (vs : Array Value) (n : Nat) : Obj := { cls := .type "tuple", data := .seq vs n }
def lisObj (vs : Array Value) (n : Nat) : Obj := { cls := .type "list", data := .seq vs n }

/-- the addresses of the mutable lists, and of other things that no data may reach -/
structure Hd where
  hs : List Addr
  xs : List Addr
def Hd.has (H : Hd) (a : Addr) : Prop := a ∈ H.hs ∨ a ∈ H.xs

mutual
inductive Rep (H : Hd) (h : Heap) : Value → V → Prop
  | none : Rep H h .none .none
  | bool (b) : Rep H h (.bool b) (.bool b)
  | int (i t) : Rep H h (.int i t) (.int i)
  | str (x t) : Rep H h (.str x t) (.str x)
  | tup {a vs n l} : ¬ H.has a → h.get? a = some (tupObj vs n) → RepAll H h vs.toList l → Rep H h (.ref a) (.tup l)
  | lst {a vs n l} : ¬ H.has a → h.get? a = some (lisObj vs n) → RepAll H h vs.toList l → Rep H h (.ref a) (.lst l)
  | ref {k a} : H.hs[k]? = some a → Rep H h (.ref a) (.ref k)
  | val (x) : Rep H h x (.val x)
inductive RepAll (H : Hd) (h : Heap) : List Value → List V → Prop
  | nil : RepAll H h [] []
  | cons {x xs v vs} : Rep H h x v → RepAll H h xs vs → RepAll H h (x :: xs) (v :: vs)
end

def IsSeq (o : Obj) : Prop := ∃ vs n, o.data = .seq vs n

/-- the objects of the text's code tables -/
def TabO (o : Obj) : Prop := o.cls = .none ∧ ∃ fs, o.data = .fields fs
theorem seq_notTab {o : Obj} (h : IsSeq o) : ¬ TabO o := fun ⟨_, fs, e⟩ => by obtain ⟨vs, n, e'⟩ := h; rw [e] at e'; cases e'

/-- data is kept: handles grow by fresh ones, all other sequences stay -/
structure DKeep (H : Hd) (h : Heap) (H' : Hd) (h' : Heap) : Prop where
  pre : ∃ N, H'.hs = H.hs ++ N
  new : ∀ a, H'.has a → ¬ H.has a → h.get? a = none
  keep : ∀ b o, ¬ H.has b → IsSeq o → h.get? b = some o → h'.get? b = some o

theorem DKeep.refl (H : Hd) (h : Heap) : DKeep H h H h :=
  ⟨⟨[], by simp⟩, fun _ h1 h2 => absurd h1 h2, fun _ _ _ _ e => e⟩

theorem DKeep.of_full {H : Hd} {h h' : Heap} (hk : ∀ b o, h.get? b = some o → h'.get? b = some o) : DKeep H h H h' :=
  ⟨⟨[], by simp⟩, fun _ h1 h2 => absurd h1 h2, fun b o _ _ e => hk b o e⟩

theorem DKeep.notMem {H H' : Hd} {h h' : Heap} (x : DKeep H h H' h') {a : Addr} {o : Obj} (ha : ¬ H.has a) (ho : h.get? a = some o) : ¬ H'.has a := by
  intro hm
  rw [x.new a hm ha] at ho; cases ho

theorem DKeep.trans {H H' H'' : Hd} {h h' h'' : Heap} (x : DKeep H h H' h') (y : DKeep H' h' H'' h'')
    (live : ∀ b o, ¬ H.has b → h.get? b = some o → (h'.get? b).isSome) : DKeep H h H'' h'' := by
  refine ⟨?_, fun a ha hn => ?_, fun b o hb hs e => ?_⟩
  · obtain ⟨N, e⟩ := x.pre
    obtain ⟨N', e'⟩ := y.pre
    exact ⟨N ++ N', by rw [e', e, List.append_assoc]⟩
  · by_cases h1 : H'.has a
    · exact x.new a h1 hn
    · have := y.new a ha h1
      cases e : h.get? a with
      | none => rfl
      | some o => have := live a o hn e; simp_all
  · exact y.keep b o (x.notMem hb e) hs (x.keep b o hb hs e)

theorem isSeq_tup (vs n) : IsSeq (tupObj vs n) := ⟨vs, n, rfl⟩
theorem isSeq_lis (vs n) : IsSeq (lisObj vs n) := ⟨vs, n, rfl⟩

mutual
theorem Rep.ext {H H' : Hd} {h h' : Heap} (x : DKeep H h H' h') : ∀ {y : Value} {v : V}, Rep H h y v → Rep H' h' y v
  | _, _, .none => .none
  | _, _, .bool b => .bool b
  | _, _, .int i t => .int i t
  | _, _, .str s t => .str s t
  | _, _, .tup ha ho hr => .tup (x.notMem ha ho) (x.keep _ _ ha (isSeq_tup ..) ho) (RepAll.ext x hr)
  | _, _, .lst ha ho hr => .lst (x.notMem ha ho) (x.keep _ _ ha (isSeq_lis ..) ho) (RepAll.ext x hr)
  | _, _, .ref hk => .ref (by
      obtain ⟨N, e⟩ := x.pre
      have := (List.getElem?_eq_some_iff.mp hk).1
      rw [e, List.getElem?_append_left this]; exact hk)
  | _, _, .val y => .val y
theorem RepAll.ext {H H' : Hd} {h h' : Heap} (x : DKeep H h H' h') : ∀ {ys : List Value} {vs : List V}, RepAll H h ys vs → RepAll H' h' ys vs
  | _, _, .nil => .nil
  | _, _, .cons hy hr => .cons (Rep.ext x hy) (RepAll.ext x hr)
end

section
variable {H : Hd} {h : Heap} {xs ys : List Value} {vs ws : List V} {x : Value} {v : V}
theorem RepAll.length (r : RepAll H h xs vs) : xs.length = vs.length := by
  induction xs generalizing vs with
  | nil => cases r; rfl
  | cons y xs ih => cases r with | cons _ r => simp [ih r]
theorem RepAll.append (r : RepAll H h xs vs) (q : RepAll H h ys ws) : RepAll H h (xs ++ ys) (vs ++ ws) := by
  induction xs generalizing vs with
  | nil => cases r; exact q
  | cons y xs ih => cases r with | cons hy r => exact .cons hy (ih r)
theorem RepAll.one (r : Rep H h x v) : RepAll H h [x] [v] := .cons r .nil
theorem RepAll.get {i : Nat} (r : RepAll H h xs vs) (hi : vs[i]? = some v) : ∃ x, xs[i]? = some x ∧ Rep H h x v := by
  induction xs generalizing vs i with
  | nil => cases r; simp at hi
  | cons y xs ih =>
    cases r with
    | cons hy r =>
      cases i with
      | zero => simp at hi; subst hi; exact ⟨y, rfl, hy⟩
      | succ i => simpa using ih r (by simpa using hi)
theorem RepAll.get' {i : Nat} (r : RepAll H h xs vs) (hi : xs[i]? = some x) : ∃ v, vs[i]? = some v ∧ Rep H h x v := by
  induction xs generalizing vs i with
  | nil => simp at hi
  | cons y xs ih =>
    cases r with
    | cons hy r =>
      cases i with
      | zero => simp at hi; subst hi; exact ⟨_, rfl, hy⟩
      | succ i => simpa using ih r (by simpa using hi)
theorem RepAll.set {i : Nat} (r : RepAll H h xs vs) (q : Rep H h x v) : RepAll H h (xs.set i x) (vs.set i v) := by
  induction xs generalizing vs i with
  | nil => cases r; simpa using RepAll.nil
  | cons y xs ih =>
    cases r with
    | cons hy r =>
      cases i with
      | zero => exact .cons q r
      | succ i => exact .cons hy (ih r)
theorem RepAll.take (r : RepAll H h xs vs) (n : Nat) : RepAll H h (xs.take n) (vs.take n) := by
  induction xs generalizing vs n with
  | nil => cases r; simpa using RepAll.nil
  | cons y xs ih =>
    cases r with
    | cons hy r =>
      cases n with
      | zero => exact .nil
      | succ n => exact .cons hy (ih r n)
theorem RepAll.drop (r : RepAll H h xs vs) (n : Nat) : RepAll H h (xs.drop n) (vs.drop n) := by
  induction xs generalizing vs n with
  | nil => cases r; simpa using RepAll.nil
  | cons y xs ih =>
    cases r with
    | cons hy r =>
      cases n with
      | zero => exact .cons hy r
      | succ n => exact ih r n
end

/-- the store of mutable lists stands in the heap -/
structure SimH (H : Hd) (st : Store) (h : Heap) : Prop where
  len : H.hs.length = st.length
  nd : H.hs.Nodup
  at_ : ∀ (k : Nat) (a : Addr) (l : List V), H.hs[k]? = some a → st[k]? = some l → ∃ vs n, h.get? a = some (lisObj vs n) ∧ RepAll H h vs.toList l
  live : ∀ a, H.has a → ∃ o, h.get? a = some o ∧ IsSeq o
  dj : ∀ a ∈ H.xs, a ∉ H.hs


/-- a code whose body makes lambdas: the code, its table, the lambdas' name -/
structure Tab where
  c : Addr
  P : Addr
  q : Str

/-- what stands below the law's call -/
structure Bs where
  prog : Program
  w : World
  h₀ : Heap
  mg : Str → Option Value
  mb : Str → Option Value
  g : h₀.Ns mainGlobals mg
  b : h₀.Ns builtinsNs mb
  lim : h₀.NoLimit
  seer : h₀.NoSeer
  tree : prog.given.tree = none
  K : Frag
  KX : K.In h₀
  bb : ∀ x : Str, x ≠ "__name__" → mb x = bootBuiltins x
  bm : ∃ bm ob, mg "__builtins__" = some (.ref bm) ∧ bm ≠ builtinsNs ∧ h₀.get? bm = some ob ∧ ob.cls = .type "module" ∧ ob.dict = some builtinsNs ∧ ob.data = .plain
  tabs : List Tab
  hid : ∀ t ∈ tabs, h₀.get? t.P = none
  codes : ∀ t ∈ tabs, CodeHd h₀ t.c t.P
  apartT : (tabs.map (·.P)).Nodup

def Bs.isT (B : Bs) (b : Addr) : Prop := ∃ t ∈ B.tabs, t.P = b
/-- new upon the base -/
def Bs.free (B : Bs) (b : Addr) : Prop := B.h₀.get? b = none ∧ ¬ B.isT b
/-- a table that may grow -/
def Ex (B : Bs) (b : Addr) (o : Obj) : Prop := B.isT b ∧ TabO o

/-- the tables -/
def TabsOk (B : Bs) (h : Heap) : Prop := ∀ t ∈ B.tabs, ∃ ps, h.get? t.P = some (tabObj ps) ∧ TriplesOk ps.toList ∧ ∀ pos cv, codeAmong pos ps.toList = some cv → h.CodeRec cv t.q

/-- all is kept but tables that grow -/
structure KH (B : Bs) (h h' : Heap) : Prop where
  keep : ∀ b o, ¬ Ex B b o → h.get? b = some o → h'.get? b = some o
  tab : TabsOk B h → TabsOk B h'
  live : ∀ b o, h.get? b = some o → ∃ o', h'.get? b = some o'

theorem ex_seq {B : Bs} {b : Addr} {o : Obj} (h : IsSeq o) : ¬ Ex B b o := fun e => seq_notTab h e.2
theorem ex_h0 {B : Bs} {b : Addr} {o o' : Obj} (h : B.h₀.get? b = some o) : ¬ Ex B b o' := fun ⟨⟨t, ht, e⟩, _⟩ => by subst e; rw [B.hid t ht] at h; cases h
theorem Bs.free.no {B : Bs} {b : Addr} {o : Obj} (f : B.free b) (e : B.h₀.get? b = some o) : False := by rw [f.1] at e; cases e

theorem tabs_full {B : Bs} {h h' : Heap} (hk : ∀ b o, h.get? b = some o → h'.get? b = some o) (x : TabsOk B h) : TabsOk B h' := fun t ht =>
  let ⟨ps, h1, h2, h3⟩ := x t ht
  ⟨ps, hk _ _ h1, h2, fun pos cv e => (h3 pos cv e).keeps hk⟩
theorem KH.of {B : Bs} {h h' : Heap} (hk : ∀ b o, h.get? b = some o → h'.get? b = some o) : KH B h h' := ⟨fun b o _ e => hk b o e, tabs_full hk, fun b o e => ⟨o, hk b o e⟩⟩
theorem KH.refl (B : Bs) (h : Heap) : KH B h h := .of fun _ _ e => e
theorem KH.seq {B : Bs} {h h' : Heap} (k : KH B h h') {b : Addr} {o : Obj} (hs : IsSeq o) (e : h.get? b = some o) : h'.get? b = some o := k.keep b o (ex_seq hs) e
theorem KH.ns {B : Bs} {h h' : Heap} (k : KH B h h') {a : Addr} {m : Str → Option Value} (x : h.Ns a m) : h'.Ns a m := by
  refine x.at' fun o e => k.keep a o (fun ⟨_, _, fs, ed⟩ => ?_) e
  obtain ⟨o', es, ep, ho', hd, _⟩ := x
  rw [e] at ho'; cases ho'; rw [ed] at hd; cases hd
theorem KH.cell {B : Bs} {h h' : Heap} (k : KH B h h') {a : Addr} {v : Option Value} (x : h.IsCell a v) : h'.IsCell a v := by
  obtain ⟨o, ho, hd⟩ := x
  exact ⟨o, k.keep a o (fun ⟨_, _, fs, ed⟩ => by rw [ed] at hd; cases hd) ho, hd⟩
theorem KH.trans {B : Bs} {h h' h'' : Heap} (x : KH B h h') (y : KH B h' h'') : KH B h h'' := ⟨fun b o n e => y.keep b o n (x.keep b o n e), fun t => y.tab (x.tab t), fun b o e => let ⟨o', e'⟩ := x.live b o e; y.live b o' e'⟩

theorem DKeep.of_keeps {B : Bs} {H : Hd} {h h' : Heap} (hk : KH B h h') : DKeep H h H h' :=
  ⟨⟨[], by simp⟩, fun _ h1 h2 => absurd h1 h2, fun b o _ hs e => hk.seq hs e⟩
theorem SimH.keeps {B : Bs} {H : Hd} {st : Store} {h h' : Heap} (x : SimH H st h) (hk : KH B h h') : SimH H st h' :=
  ⟨x.len, x.nd, fun k a l ha hl => let ⟨vs, n, ho, hr⟩ := x.at_ k a l ha hl; ⟨vs, n, hk.seq (isSeq_lis ..) ho, hr.ext (.of_keeps hk)⟩, fun a ha => let ⟨o, ho, hs⟩ := x.live a ha; ⟨o, hk.seq hs ho, hs⟩, x.dj⟩

/-- the names of a frame -/
structure EnvRep (env : Env) (ρ : Str → Option V) (H : Hd) (h : Heap) : Prop where
  kind : env.scope.kind = .function
  gl : env.globals = mainGlobals
  bi : env.builtins = builtinsNs
  loc : ∃ m, h.Ns env.locals m ∧ ∀ x v, env.kindOf x = some .local → ρ x = some v → ∃ y, m x = some y ∧ Rep H h y v
  cell : ∀ x v, (env.kindOf x = some .cell ∨ env.kindOf x = some .free) → ρ x = some v → ∃ c y, env.cells.lookup x = some c ∧ h.IsCell c (some y) ∧ Rep H h y v
  cells : ∀ x c, (x, c) ∈ env.cells → ∃ v, h.IsCell c v
  has : ∀ x, (env.kindOf x = some .cell ∨ env.kindOf x = some .free) → ∃ c, env.cells.lookup x = some c
  apart : env.cells.Pairwise fun x y => x.2 ≠ y.2

/-- the base heap stands, the handles are new upon it -/
structure Base (B : Bs) (H : Hd) (h : Heap) : Prop where
  keep : ∀ b o, B.h₀.get? b = some o → h.get? b = some o
  new : ∀ a, H.has a → B.free a
  tab : TabsOk B h

/-- what is new is free -/
theorem Base.free {B : Bs} {H : Hd} {h : Heap} (x : Base B H h) {b : Addr} (hb : h.get? b = none) : B.free b := by
  refine ⟨?_, fun ⟨t, ht, e⟩ => ?_⟩
  · cases e : B.h₀.get? b with
    | none => rfl
    | some o => have := x.keep b o e; rw [hb] at this; cases this
  · obtain ⟨ps, h1, _⟩ := x.tab t ht
    rw [e, hb] at h1; cases h1

structure Sim (B : Bs) (env : Env) (ρ : Str → Option V) (st : Store) (H : Hd) (h : Heap) : Prop where
  base : Base B H h
  sto : SimH H st h
  en : EnvRep env ρ H h

theorem EnvRep.keeps {B : Bs} {env : Env} {ρ : Str → Option V} {H : Hd} {h h' : Heap} (x : EnvRep env ρ H h) (hk : KH B h h') : EnvRep env ρ H h' := by
  refine ⟨x.kind, x.gl, x.bi, ?_, fun n v hn hv => ?_, fun n c hn => ?_, x.has, x.apart⟩
  · obtain ⟨m, hm, hr⟩ := x.loc
    exact ⟨m, hk.ns hm, fun n v hn hv => let ⟨y, hy, r⟩ := hr n v hn hv; ⟨y, hy, r.ext (.of_keeps hk)⟩⟩
  · obtain ⟨c, y, h1, h2, h3⟩ := x.cell n v hn hv
    exact ⟨c, y, h1, hk.cell h2, h3.ext (.of_keeps hk)⟩
  · obtain ⟨v, h2⟩ := x.cells n c hn
    exact ⟨v, hk.cell h2⟩

theorem EnvRep.full {env : Env} {ρ : Str → Option V} {H : Hd} {h h' : Heap} (x : EnvRep env ρ H h) (hk : ∀ b o, h.get? b = some o → h'.get? b = some o) : EnvRep env ρ H h' := by
  refine ⟨x.kind, x.gl, x.bi, ?_, fun n v hn hv => ?_, fun n c hn => ?_, x.has, x.apart⟩
  · obtain ⟨m, hm, hr⟩ := x.loc
    exact ⟨m, hm.keeps hk, fun n v hn hv => let ⟨y, hy, r⟩ := hr n v hn hv; ⟨y, hy, r.ext (.of_full hk)⟩⟩
  · obtain ⟨c, y, h1, h2, h3⟩ := x.cell n v hn hv
    exact ⟨c, y, h1, h2.keeps hk, h3.ext (.of_full hk)⟩
  · obtain ⟨v, h2⟩ := x.cells n c hn
    exact ⟨v, h2.keeps hk⟩

theorem Base.keeps {B : Bs} {H : Hd} {h h' : Heap} (x : Base B H h) (hk : KH B h h') : Base B H h' :=
  ⟨fun b o e => hk.keep b o (ex_h0 e) (x.keep b o e), x.new, hk.tab x.tab⟩

theorem Sim.keeps {B : Bs} {env : Env} {ρ : Str → Option V} {st : Store} {H : Hd} {h h' : Heap} (x : Sim B env ρ st H h) (hk : KH B h h') : Sim B env ρ st H h' :=
  ⟨x.base.keeps hk, x.sto.keeps hk, x.en.keeps hk⟩

theorem Sim.of_env {B : Bs} {env env' : Env} {ρ ρ' : Str → Option V} {st : Store} {H : Hd} {h : Heap} (x : Sim B env ρ st H h) (e : EnvRep env' ρ' H h) : Sim B env' ρ' st H h := ⟨x.base, x.sto, e⟩

/-- room for n more levels of calls -/
structure Rm (n : Nat) (A : Around) : Prop where
  hd : A.handled = none
  dp : A.depth + n ≤ 890
  un : A.units + 20 * n ≤ 9000
  fr : ∃ env l, A.frames = some (env :: l) ∧ env.scope.isGenerator = false ∧ env.scope.isCoroutine = false ∧ env.builtins = builtinsNs ∧ env.globals = mainGlobals

theorem Rm.mono {n m : Nat} {A : Around} (x : Rm n A) (h : m ≤ n) : Rm m A := ⟨x.hd, by have := x.dp; omega, by have := x.un; omega, x.fr⟩
theorem Rm.deeper {n : Nat} {A : Around} (x : Rm (n + 1) A) (env : Env) (h1 : env.scope.isGenerator = false) (h2 : env.scope.isCoroutine = false) (h3 : env.builtins = builtinsNs) (h4 : env.globals = mainGlobals) : Rm n (A.deeper env) :=
  ⟨x.hd, by have := x.dp; simp only [Around.deeper]; omega, by have := x.un; simp only [Around.deeper]; omega, by
    obtain ⟨e, l, hf, _⟩ := x.fr
    exact ⟨env, e :: l, by simp only [Around.deeper, hf]; rfl, h1, h2, h3, h4⟩⟩
theorem Rm.in1 {n : Nat} {A : Around} (x : Rm (n + 1) A) : Rm n A.in1 := ⟨x.hd, by have := x.dp; simp only; omega, by have := x.un; simp only; omega, x.fr⟩

/-- as Keeps, but tables may grow -/
def KT (B : Bs) (s s' : Shared) : Prop := ∃ h' tk, s' = { s with heap := h', toks := tk } ∧ KH B s.heap h'
theorem kp_full {B : Bs} {s s' : Shared} (x : Keeps s s') : KT B s s' := let ⟨h, tk, e, k⟩ := x; ⟨h, tk, e, .of k⟩
theorem kp_refl {B : Bs} (s : Shared) : KT B s s := ⟨s.heap, s.toks, rfl, .refl ..⟩
theorem kp_trans {B : Bs} {s s' s'' : Shared} (x : KT B s s') (y : KT B s' s'') : KT B s s'' := by
  obtain ⟨h, tk, rfl, hk⟩ := x
  obtain ⟨h', tk', rfl, hk'⟩ := y
  exact ⟨h', tk', rfl, hk.trans hk'⟩
theorem kp_get {B : Bs} {s s' : Shared} (x : KT B s s') : KH B s.heap s'.heap := by
  obtain ⟨h, tk, rfl, hk⟩ := x; exact hk
theorem kp_dk {B : Bs} {s s' : Shared} (x : KT B s s') (H : Hd) : DKeep H s.heap H s'.heap := .of_keeps (kp_get x)

/-- a pure expression has this value -/
def PE (B : Bs) (n : Nat) (env : Env) (ρ : Str → Option V) (st : Store) (e : Expr) (v : V) : Prop :=
  ∀ A, Rm n A → ∀ E s H, Sim B env ρ st H s.heap →
    wpAny (model B.prog B.w) A (eval e env) (fun x s' => KT B s s' ∧ Rep H s'.heap x v) E s

/-- a test has this truth -/
def PT (B : Bs) (n : Nat) (env : Env) (ρ : Str → Option V) (st : Store) (e : Expr) (b : Bool) : Prop :=
  ∀ A, Rm n A → ∀ E s H, Sim B env ρ st H s.heap →
    wpAny (model B.prog B.w) A (isTrue e env (eval e env)) (fun x s' => x = b ∧ KT B s s') E s

end Mine

-- part Gw2
namespace Mine

/-- base and store, no frame -/
structure SB (B : Bs) (st : Store) (H : Hd) (h : Heap) : Prop where
  base : Base B H h
  sto : SimH H st h
theorem Sim.sb {B : Bs} {env : Env} {ρ : Str → Option V} {st : Store} {H : Hd} {h : Heap} (x : Sim B env ρ st H h) : SB B st H h := ⟨x.base, x.sto⟩
theorem SB.keeps {B : Bs} {st : Store} {H : Hd} {h h' : Heap} (x : SB B st H h) (hk : KH B h h') : SB B st H h' := ⟨x.base.keeps hk, x.sto.keeps hk⟩

/-- an operation upon values -/
def P1 (B : Bs) (n : Nat) (st : Store) (t : Value → Sem Value) (a c : V) : Prop :=
  ∀ A, Rm n A → ∀ E s H x, SB B st H s.heap → Rep H s.heap x a → wpAny (model B.prog B.w) A (t x) (fun z s' => KT B s s' ∧ Rep H s'.heap z c) E s
def P2 (B : Bs) (n : Nat) (st : Store) (t : Value → Value → Sem Value) (a b c : V) : Prop :=
  ∀ A, Rm n A → ∀ E s H x y, SB B st H s.heap → Rep H s.heap x a → Rep H s.heap y b → wpAny (model B.prog B.w) A (t x y) (fun z s' => KT B s s' ∧ Rep H s'.heap z c) E s
/-- an operation upon a list of values -/
def PL (B : Bs) (n : Nat) (st : Store) (t : List Value → Sem Value) (as : List V) (c : V) : Prop :=
  ∀ A, Rm n A → ∀ E s H xs, SB B st H s.heap → RepAll H s.heap xs as → wpAny (model B.prog B.w) A (t xs) (fun z s' => KT B s s' ∧ Rep H s'.heap z c) E s
/-- truth of a value -/
def PTr (B : Bs) (n : Nat) (st : Store) (a : V) (b : Bool) : Prop :=
  ∀ A, Rm n A → ∀ E s H x, SB B st H s.heap → Rep H s.heap x a → wpAny (model B.prog B.w) A (truthy x) (fun z s' => z = b ∧ KT B s s') E s

section
variable {B : Bs} {n : Nat} {env : Env} {ρ : Str → Option V} {st : Store}

theorem kp_tok (s : Shared) (k : Nat) : KT B s { s with toks := k } := ⟨s.heap, k, rfl, .refl ..⟩
theorem kp_heap {s : Shared} {h : Heap} (hk : ∀ b o, s.heap.get? b = some o → h.get? b = some o) : KT B s { s with heap := h } := ⟨h, s.toks, rfl, .of hk⟩
theorem kp_push (s : Shared) (o : Obj) : KT B s { s with heap := s.heap.push o } := kp_heap fun _ _ e => Heap.get?_push_of_some _ e

-- constants
theorem pe_int {i : Int} {k : Nat} {pos : Pos} : PE B n env ρ st (.Constant (.int i) k pos) (.int i) := fun A _ E s H _ => by
  show wpAny _ A (mkInt i) _ _ _
  exact wpAny_mkInt ⟨kp_tok .., .int ..⟩
theorem pe_str {x : Str} {k : Nat} {pos : Pos} : PE B n env ρ st (.Constant (.str x) k pos) (.str x) := fun A _ E s H _ => by
  show wpAny _ A (mkText x) _ _ _
  exact wpAny_mkText ⟨kp_tok .., .str ..⟩
theorem pe_bool {b : Bool} {k : Nat} {pos : Pos} : PE B n env ρ st (.Constant (.bool b) k pos) (.bool b) := fun A _ E s H _ => wpAny_pure ⟨kp_refl _, .bool b⟩
theorem pe_none {k : Nat} {pos : Pos} : PE B n env ρ st (.Constant .none k pos) .none := fun A _ E s H _ => wpAny_pure ⟨kp_refl _, .none⟩

-- names
theorem pe_name {x : Str} {pos : Pos} {v : V} (hv : ρ x = some v) (hk : env.kindOf x = some .local ∨ env.kindOf x = some .cell ∨ env.kindOf x = some .free)
    (hd : (x == ("__debug__" : Str)) = false := by kernel_rfl) (hc : (x == ("__classdict__" : Str)) = false := by kernel_rfl) : PE B n env ρ st (.Name x pos) v := fun A _ E s H S => by
  refine wpAny_Name ?_ hd
  rcases hk with hk | hk | hk
  · obtain ⟨m, hm, hr⟩ := S.en.loc
    obtain ⟨y, hy, r⟩ := hr x v hk hv
    exact wpAny_loadName_local S.en.kind hk hm hy ⟨kp_refl _, r⟩
  · obtain ⟨c, y, h1, h2, h3⟩ := S.en.cell x v (.inl hk) hv
    exact wpAny_loadName_cell S.en.kind hk h1 h2 ⟨kp_refl _, h3⟩
  · obtain ⟨c, y, h1, h2, h3⟩ := S.en.cell x v (.inr hk) hv
    exact wpAny_loadName_free S.en.kind hk h1 h2 ⟨kp_refl _, h3⟩ hc

theorem ld_glob {A : Around} {E : Value → Shared → Prop} {s : Shared} {H : Hd} {x : Str} {pos : Pos} {y : Value} {Q : Value → Shared → Prop} (S : Sim B env ρ st H s.heap)
    (hk : env.kindOf x = some .globalImplicit) (hv : (B.mg x).or (B.mb x) = some y) (h : Q y s) (hd : (x == ("__debug__" : Str)) = false := by kernel_rfl) :
    wpAny (model B.prog B.w) A (eval (.Name x pos) env) Q E s := by
  refine wpAny_Name ?_ hd
  unfold loadName
  simp only [Env.blockKind, S.en.kind, hk, ScopeKind.isAnnotationScope, Bool.false_and, Bool.false_eq_true, if_false]
  unfold loadGlobal
  rw [S.en.gl, S.en.bi]
  refine wpAny_bind (wpAny_nsGet (B.g.keeps S.base.keep) ?_)
  cases hg : B.mg x with
  | some z => rw [hg] at hv; cases hv; exact wpAny_pure h
  | none =>
    rw [hg] at hv
    refine wpAny_bind (wpAny_nsGet (B.b.keeps S.base.keep) ?_)
    have hv' : B.mb x = some y := hv
    rw [hv']; exact wpAny_pure h

/-- a name of the top -/
theorem pe_glob {x : Str} {pos : Pos} {y : Value} (hv : (B.mg x).or (B.mb x) = some y) (hk : env.kindOf x = some .globalImplicit) (hd : (x == ("__debug__" : Str)) = false := by kernel_rfl) :
    PE B n env ρ st (.Name x pos) (.val y) := fun _ _ _ _ _ S => ld_glob S hk hv ⟨kp_refl _, .val y⟩ hd

-- generic nodes
theorem pe_bin {l r : Expr} {op : Operator} {pos : Pos} {a b c : V} (h1 : PE B n env ρ st l a) (h2 : PE B n env ρ st r b) (h3 : P2 B n st (binaryOp op) a b c) : PE B n env ρ st (.BinOp l op r pos) c := fun A hA E s H S => by
  refine wpAny_BinOp (wpAny_mono (h1 A hA E s H S) (fun x s₁ ⟨k1, r1⟩ => wpAny_mono (h2 A hA E s₁ H (S.keeps (kp_get k1))) (fun y s₂ ⟨k2, r2⟩ => ?_) fun _ _ e => e) fun _ _ e => e)
  have k := kp_trans k1 k2
  exact wpAny_mono (h3 A hA E s₂ H x y (S.sb.keeps (kp_get k)) (r1.ext (kp_dk k2 H)) r2) (fun z s₃ ⟨k3, r3⟩ => ⟨kp_trans k k3, r3⟩) fun _ _ e => e
theorem pe_cmp {l r : Expr} {op : CmpOp} {pos : Pos} {a b c : V} (h1 : PE B n env ρ st l a) (h2 : PE B n env ρ st r b) (h3 : P2 B n st (compareOp op) a b c) (hm : behindInMarks op r = false := by with_unfolding_all rfl) : PE B n env ρ st (.Compare l [op] [r] pos) c := fun A hA E s H S => by
  refine wpAny_Compare1 (wpAny_mono (h1 A hA E s H S) (fun x s₁ ⟨k1, r1⟩ => wpAny_mono (h2 A hA E s₁ H (S.keeps (kp_get k1))) (fun y s₂ ⟨k2, r2⟩ => ?_) fun _ _ e => e) fun _ _ e => e) hm
  have k := kp_trans k1 k2
  exact wpAny_mono (h3 A hA E s₂ H x y (S.sb.keeps (kp_get k)) (r1.ext (kp_dk k2 H)) r2) (fun z s₃ ⟨k3, r3⟩ => ⟨kp_trans k k3, r3⟩) fun _ _ e => e
theorem pt_cmp {l r : Expr} {op : CmpOp} {pos : Pos} {a b : V} {c : Bool} (h1 : PE B n env ρ st l a) (h2 : PE B n env ρ st r b) (h3 : P2 B n st (compareOp op) a b (.bool c)) (hm : behindInMarks op r = false := by with_unfolding_all rfl) : PT B n env ρ st (.Compare l [op] [r] pos) c := fun A hA E s H S => by
  refine wpAny_isTrue_Compare1 (wpAny_mono (h1 A hA E s H S) (fun x s₁ ⟨k1, r1⟩ => wpAny_mono (h2 A hA E s₁ H (S.keeps (kp_get k1))) (fun y s₂ ⟨k2, r2⟩ => ?_) fun _ _ e => e) fun _ _ e => e) hm
  have k := kp_trans k1 k2
  refine wpAny_mono (h3 A hA E s₂ H x y (S.sb.keeps (kp_get k)) (r1.ext (kp_dk k2 H)) r2) (fun z s₃ ⟨k3, r3⟩ => ?_) fun _ _ e => e
  cases r3
  exact wpAny_truthy_bool ⟨rfl, kp_trans k k3⟩
theorem pe_un {e : Expr} {op : UnaryOp} {pos : Pos} {a c : V} (h1 : PE B n env ρ st e a) (h3 : P1 B n st (unaryOp op) a c) : PE B n env ρ st (.UnaryOp op e pos) c := fun A hA E s H S =>
  wpAny_UnaryOp (wpAny_mono (h1 A hA E s H S) (fun x s₁ ⟨k1, r1⟩ => wpAny_mono (h3 A hA E s₁ H x (S.sb.keeps (kp_get k1)) r1) (fun z s₃ ⟨k3, r3⟩ => ⟨kp_trans k1 k3, r3⟩) fun _ _ e => e) fun _ _ e => e)
theorem pe_ifexp {t a b : Expr} {pos : Pos} {c : Bool} {v : V} (h1 : PT B n env ρ st t c) (h2 : c = true → PE B n env ρ st a v) (h3 : c = false → PE B n env ρ st b v) : PE B n env ρ st (.IfExp t a b pos) v := fun A hA E s H S => by
  refine wpAny_IfExp (wpAny_mono (h1 A hA E s H S) (fun x s₁ ⟨e1, k1⟩ => ?_) fun _ _ e => e)
  subst e1
  cases x with
  | true => exact wpAny_mono (h2 rfl A hA E s₁ H (S.keeps (kp_get k1))) (fun z s₃ ⟨k3, r3⟩ => ⟨kp_trans k1 k3, r3⟩) fun _ _ e => e
  | false => exact wpAny_mono (h3 rfl A hA E s₁ H (S.keeps (kp_get k1))) (fun z s₃ ⟨k3, r3⟩ => ⟨kp_trans k1 k3, r3⟩) fun _ _ e => e
theorem pt_val {e : Expr} {a : V} {b : Bool} (h1 : PE B n env ρ st e a) (h2 : PTr B n st a b) (he : ∀ whole, isTrue e env whole = (do let v ← whole; standAt e.pos; holding [v] (truthy v)) := by intro _; rfl) : PT B n env ρ st e b := fun A hA E s H S =>
  wpAny_isTrue_value (wpAny_mono (h1 A hA E s H S) (fun x s₁ ⟨k1, r1⟩ => wpAny_mono (h2 A hA E s₁ H x (S.sb.keeps (kp_get k1)) r1) (fun z s₂ ⟨e2, k2⟩ => ⟨e2, kp_trans k1 k2⟩) fun _ _ e => e) fun _ _ e => e) (he _)
theorem pt_not {e : Expr} {pos : Pos} {b : Bool} (h1 : PT B n env ρ st e b) : PT B n env ρ st (.UnaryOp .Not e pos) (!b) := fun A hA E s H S =>
  wpAny_isTrue_Not (wpAny_mono (h1 A hA E s H S) (fun x s₁ ⟨e1, k1⟩ => ⟨by rw [e1], k1⟩) fun _ _ e => e)
theorem pt_and {a b : Expr} {pos : Pos} {p q : Bool} (h1 : PT B n env ρ st a p) (h2 : p = true → PT B n env ρ st b q) : PT B n env ρ st (.BoolOp .And [a, b] pos) (p && q) := fun A hA E s H S => by
  refine wpAny_isTrue_BoolOp ?_
  rw [arm_allTrue_cons]
  refine wpAny_bind (wpAny_mono (h1 A hA E s H S) (fun x s₁ ⟨e1, k1⟩ => ?_) fun _ _ e => e)
  subst e1
  cases x with
  | false => exact wpAny_pure ⟨rfl, k1⟩
  | true =>
    rw [arm_allTrue_cons]
    refine wpAny_bind (wpAny_mono (h2 rfl A hA E s₁ H (S.keeps (kp_get k1))) (fun y s₂ ⟨e2, k2⟩ => ?_) fun _ _ e => e)
    subst e2
    cases y <;> exact wpAny_pure ⟨rfl, kp_trans k1 k2⟩
theorem pt_or {a b : Expr} {pos : Pos} {p q : Bool} (h1 : PT B n env ρ st a p) (h2 : p = false → PT B n env ρ st b q) : PT B n env ρ st (.BoolOp .Or [a, b] pos) (p || q) := fun A hA E s H S => by
  refine wpAny_isTrue_BoolOp ?_
  rw [arm_allTrue_cons]
  refine wpAny_bind (wpAny_mono (h1 A hA E s H S) (fun x s₁ ⟨e1, k1⟩ => ?_) fun _ _ e => e)
  subst e1
  cases x with
  | true => exact wpAny_pure ⟨rfl, k1⟩
  | false =>
    rw [arm_allTrue_cons]
    refine wpAny_bind (wpAny_mono (h2 rfl A hA E s₁ H (S.keeps (kp_get k1))) (fun y s₂ ⟨e2, k2⟩ => ?_) fun _ _ e => e)
    subst e2
    cases y <;> exact wpAny_pure ⟨rfl, kp_trans k1 k2⟩

-- int operations
theorem o_add {a b : Int} : P2 B n st (binaryOp .Add) (.int a) (.int b) (.int (a + b)) := fun A _ E s H x y _ rx ry => by cases rx; cases ry; exact add_int ⟨kp_tok .., .int ..⟩
theorem o_sub {a b : Int} : P2 B n st (binaryOp .Sub) (.int a) (.int b) (.int (a - b)) := fun A _ E s H x y _ rx ry => by cases rx; cases ry; exact sub_int ⟨kp_tok .., .int ..⟩
theorem o_mul {a b : Int} (hm : IntMulOk a b) : P2 B n st (binaryOp .Mult) (.int a) (.int b) (.int (a * b)) := fun A _ E s H x y _ rx ry => by cases rx; cases ry; exact mul_int ⟨kp_tok .., .int ..⟩ hm
theorem o_mod {a b : Int} (hb : b ≠ 0) : P2 B n st (binaryOp .Mod) (.int a) (.int b) (.int (a.fmod b)) := fun A _ E s H x y _ rx ry => by cases rx; cases ry; exact mod_int hb ⟨kp_tok .., .int ..⟩
theorem pylongRoom {A : Around} {s : Shared} {H : Hd} (S : SB B st H s.heap) (R : Rm n A) : PylongRoom (model B.prog B.w) A s := by
  obtain ⟨env, l, hf, h1, h2, h3, h4⟩ := R.fr
  exact PylongRoom.of (B.lim.keeps S.base.keep) (by have := R.dp; simp only [Builtin.pylongFrames, recursionLimit]; omega) (SeerAt.of (B.seer.keeps S.base.keep) B.tree hf h1 h2 h3 h4)
theorem o_fdiv {a b : Int} (hb : b ≠ 0) : P2 B n st (binaryOp .FloorDiv) (.int a) (.int b) (.int (a.fdiv b)) := fun A R E s H x y S rx ry => by
  cases rx; cases ry; exact floordiv_int hb ⟨kp_tok .., .int ..⟩ (.inr (pylongRoom S R))
theorem o_lt {a b : Int} : P2 B n st (compareOp .Lt) (.int a) (.int b) (.bool (decide (a < b))) := fun A _ E s H x y _ rx ry => by cases rx; cases ry; exact lt_int ⟨kp_refl _, .bool _⟩
theorem o_le {a b : Int} : P2 B n st (compareOp .LtE) (.int a) (.int b) (.bool (decide (a ≤ b))) := fun A _ E s H x y _ rx ry => by cases rx; cases ry; exact le_int ⟨kp_refl _, .bool _⟩
theorem o_gt {a b : Int} : P2 B n st (compareOp .Gt) (.int a) (.int b) (.bool (decide (b < a))) := fun A _ E s H x y _ rx ry => by cases rx; cases ry; exact gt_int ⟨kp_refl _, .bool _⟩
theorem o_ge {a b : Int} : P2 B n st (compareOp .GtE) (.int a) (.int b) (.bool (decide (b ≤ a))) := fun A _ E s H x y _ rx ry => by cases rx; cases ry; exact ge_int ⟨kp_refl _, .bool _⟩
theorem o_eq {a b : Int} : P2 B n st (compareOp .Eq) (.int a) (.int b) (.bool (a == b)) := fun A _ E s H x y _ rx ry => by cases rx; cases ry; exact eq_int ⟨kp_refl _, .bool _⟩
theorem o_ne {a b : Int} : P2 B n st (compareOp .NotEq) (.int a) (.int b) (.bool (a != b)) := fun A _ E s H x y _ rx ry => by cases rx; cases ry; exact ne_int ⟨kp_refl _, .bool _⟩
theorem o_neg {a : Int} : P1 B n st (unaryOp .USub) (.int a) (.int (-a)) := fun A _ E s H x _ rx => by cases rx; exact neg_int ⟨kp_tok .., .int ..⟩
theorem o_isNone : P2 B n st (compareOp .Is) .none .none (.bool true) := fun A _ E s H x y _ rx ry => by cases rx; cases ry; exact is_none_none ⟨kp_refl _, .bool _⟩
def notNone : V → Bool
  | .none => false
  | .val .none => false
  | _ => true
theorem o_isNotNone {v : V} (hv : notNone v = true) : P2 B n st (compareOp .Is) v .none (.bool false) := fun A _ E s H x y _ rx ry => by
  cases ry
  refine is_none_ne ?_ ⟨kp_refl _, .bool _⟩
  rintro rfl
  cases rx <;> simp [notNone] at hv
theorem tr_int {a : Int} : PTr B n st (.int a) (a != 0) := fun A _ E s H x _ rx => by cases rx; exact truthy_int ⟨rfl, kp_refl _⟩
theorem tr_bool {b : Bool} : PTr B n st (.bool b) b := fun A _ E s H x _ rx => by cases rx; exact wpAny_truthy_bool ⟨rfl, kp_refl _⟩

end
end Mine

-- part Gw3
namespace Mine

/-- the items of a list value -/
def lis (st : Store) : V → Option (List V)
  | .lst l => some l
  | .ref k => st[k]?
  | _ => none

theorem lis_at {B : Bs} {st : Store} {H : Hd} {h : Heap} {x : Value} {v : V} {l : List V} (S : SimH H st h) (r : Rep H h x v) (hl : lis st v = some l) :
    ∃ a vs n, x = .ref a ∧ h.get? a = some (lisObj vs n) ∧ RepAll H h vs.toList l := by
  cases r with
  | lst ha ho hr => cases hl; exact ⟨_, _, _, rfl, ho, hr⟩
  | ref hk =>
    obtain ⟨vs, n, ho, hr⟩ := S.at_ _ _ _ hk hl
    exact ⟨_, vs, n, rfl, ho, hr⟩
  | _ => cases hl

theorem isList_of {h : Heap} {a : Addr} {vs : Array Value} {n : Nat} (ho : h.get? a = some (lisObj vs n)) : h.IsList a vs := ⟨_, ho, rfl, n, rfl⟩
theorem isTup_of {h : Heap} {a : Addr} {vs : Array Value} {n : Nat} (ho : h.get? a = some (tupObj vs n)) : IsTup h a vs := ⟨_, ho, rfl, n, rfl⟩
theorem RepAll.size {H : Hd} {h : Heap} {vs : Array Value} {l : List V} (r : RepAll H h vs.toList l) : vs.size = l.length := by
  have := r.length; simpa using this

/-- the arguments of a call, a display's items -/
def PEs (B : Bs) (n : Nat) (env : Env) (ρ : Str → Option V) (st : Store) (es : List Expr) (vs : List V) : Prop :=
  ∀ A, Rm n A → ∀ E s H pos, Sim B env ρ st H s.heap →
    wpAny (model B.prog B.w) A (spliced (backTo pos (starEach es env))) (fun xs s' => KT B s s' ∧ RepAll H s'.heap xs vs) E s

theorem notMem_size {H : Hd} {st : Store} {h : Heap} (S : SimH H st h) : ¬ H.has h.objs.size := fun hm => by
  obtain ⟨o, ho, _⟩ := S.live _ hm
  exact Nat.lt_irrefl _ (Heap.lt_size ho)

/-- indices picked out of a list -/
theorem RepAll.pick {H : Hd} {h : Heap} {xs : List Value} {l : List V} (r : RepAll H h xs l) : ∀ ix : List Nat, RepAll H h (ix.filterMap (xs[·]?)) (ix.filterMap (l[·]?))
  | [] => .nil
  | i :: ix => by
    have ih := RepAll.pick r ix
    cases hx : xs[i]? with
    | none =>
      have hl : l[i]? = none := by
        rw [List.getElem?_eq_none_iff] at hx ⊢
        rw [← r.length]; exact hx
      simp only [List.filterMap_cons, hx, hl]; exact ih
    | some x =>
      obtain ⟨v, hv, rv⟩ := r.get' hx
      simp only [List.filterMap_cons, hx, hv]
      exact .cons rv ih

/-- a slice of a list -/
def slc (l : List V) (lo hi st : Option Int) : List V :=
  (sliceRange (sliceBounds lo hi st l.length).1 (sliceBounds lo hi st l.length).2.1 (sliceBounds lo hi st l.length).2.2).filterMap (l[·]?)

theorem RepAll.slice {H : Hd} {h : Heap} {vs : Array Value} {l : List V} (r : RepAll H h vs.toList l) (lo hi st : Option Int) : RepAll H h (slicePick vs lo hi st).toList (slc l lo hi st) := by
  unfold slicePick slc
  rw [r.size]
  have := r.pick (sliceRange (sliceBounds lo hi st l.length).1 (sliceBounds lo hi st l.length).2.1 (sliceBounds lo hi st l.length).2.2)
  simpa using this

def partOf : V → Option (Option Int)
  | .none => some none
  | .int i => some (some i)
  | _ => none
theorem part_at {H : Hd} {h : Heap} {x : Value} {v : V} {k : Option Int} (r : Rep H h x v) (hk : partOf v = some k) : IsPart x k := by
  cases r <;> cases hk <;> first | exact .none | exact .int ..

section
variable {B : Bs} {n : Nat} {env : Env} {ρ : Str → Option V} {st : Store}

theorem pes_nil : PEs B n env ρ st [] [] := fun A _ E s H pos _ => args_nil ⟨kp_refl _, .nil⟩
theorem pes_cons {e : Expr} {es : List Expr} {v : V} {vs : List V} (h1 : PE B n env ρ st e v) (h2 : PEs B n env ρ st es vs)
    (he : starEach (e :: es) env = (false, eval e env) :: starEach es env := by rfl) : PEs B n env ρ st (e :: es) (v :: vs) := fun A hA E s H pos S =>
  args_cons (wpAny_mono (h1 A hA E s H S) (fun x s₁ ⟨k1, r1⟩ => wpAny_mono (h2 A hA E s₁ H pos (S.keeps (kp_get k1))) (fun xs s₂ ⟨k2, r2⟩ => ⟨kp_trans k1 k2, .cons (r1.ext (kp_dk k2 H)) r2⟩) fun _ _ e => e) fun _ _ e => e) he

theorem pe_tuple {es : List Expr} {k : Nat} {pos : Pos} {vs : List V} (h1 : PEs B n env ρ st es vs) (hsz : vs.length ≤ sizeLine := by simp [sizeLine]) : PE B n env ρ st (.Tuple es k pos) (.tup vs) := fun A hA E s H S => by
  refine Tuple_ (wpAny_mono (h1 A hA E s H pos S) (fun xs s₁ ⟨k1, r1⟩ => ?_) fun _ _ e => e)
  have S1 := S.keeps (kp_get k1)
  refine wpAny_newObj_type ⟨kp_trans k1 (kp_push ..), .tup (vs := xs.toArray) (n := 0) (notMem_size S1.sto) (Heap.get?_push_size _ rfl) ?_⟩ (by show xs.toArray.size ≤ sizeLine; rw [List.size_toArray, r1.length]; exact hsz)
  exact r1.ext (kp_dk (B := B) (kp_push s₁ _) H)
theorem pe_list {es : List Expr} {pos : Pos} {vs : List V} (h1 : PEs B n env ρ st es vs) (hsz : vs.length ≤ sizeLine := by simp [sizeLine]) : PE B n env ρ st (.List es pos) (.lst vs) := fun A hA E s H S => by
  refine List_ (wpAny_mono (h1 A hA E s H pos S) (fun xs s₁ ⟨k1, r1⟩ => ?_) fun _ _ e => e)
  have S1 := S.keeps (kp_get k1)
  refine wpAny_newObj_type ⟨kp_trans k1 (kp_push ..), .lst (vs := xs.toArray) (n := 0) (notMem_size S1.sto) (Heap.get?_push_size _ rfl) ?_⟩ (by show xs.toArray.size ≤ sizeLine; rw [List.size_toArray, r1.length]; exact hsz)
  exact r1.ext (kp_dk (B := B) (kp_push s₁ _) H)

-- items
theorem pe_sub {e i : Expr} {pos : Pos} {a k c : V} (h1 : PE B n env ρ st e a) (h2 : PE B n env ρ st i k) (h3 : P2 B n st (subscriptTail e i) a k c) : PE B n env ρ st (.Subscript e i pos) c := fun A hA E s H S => by
  refine Subscript_ (wpAny_mono (h1 A hA E s H S) (fun x s₁ ⟨k1, r1⟩ => wpAny_mono (h2 A hA E s₁ H (S.keeps (kp_get k1))) (fun y s₂ ⟨k2, r2⟩ => ?_) fun _ _ e => e) fun _ _ e => e)
  have k := kp_trans k1 k2
  exact wpAny_mono (h3 A hA E s₂ H x y (S.sb.keeps (kp_get k)) (r1.ext (kp_dk k2 H)) r2) (fun z s₃ ⟨k3, r3⟩ => ⟨kp_trans k k3, r3⟩) fun _ _ e => e

theorem o_item {e i : Expr} {a c : V} {l : List V} {k : Int} (hl : lis st a = some l) (h0 : 0 ≤ k) (hx : l[k.toNat]? = some c) (hfit : l.length < 2 ^ 62)
    (hs : ∀ o j, subscripted i false o j = operate [o, j] (getItem o j) := by intro _ _; rfl) : P2 B n st (subscriptTail e i) a (.int k) c := fun A _ E s H x y S rx ry => by
  cases ry
  obtain ⟨ad, vs, m, rfl, ho, hr⟩ := lis_at (B := B) S.sto rx hl
  obtain ⟨z, hz, rz⟩ := hr.get hx
  have hlt : k.toNat < l.length := (List.getElem?_eq_some_iff.mp hx).1
  exact tail_any (isList_of ho).typeIs slot_list_getitem.lookup (wpAny_getItem_list (isList_of ho) h0 (by omega) (by simpa using hz) ⟨kp_refl _, rz⟩) (hs _ _)
theorem o_itemNeg {e i : Expr} {a c : V} {l : List V} {k : Int} (hl : lis st a = some l) (h0 : k < 0) (h1 : -(l.length : Int) ≤ k) (hx : l[(k + l.length).toNat]? = some c) (hfit : l.length < 2 ^ 62)
    (hs : ∀ o j, subscripted i false o j = operate [o, j] (getItem o j) := by intro _ _; rfl) : P2 B n st (subscriptTail e i) a (.int k) c := fun A _ E s H x y S rx ry => by
  cases ry
  obtain ⟨ad, vs, m, rfl, ho, hr⟩ := lis_at (B := B) S.sto rx hl
  have hsz := hr.size
  obtain ⟨z, hz, rz⟩ := hr.get hx
  exact tail_any (isList_of ho).typeIs slot_list_getitem.lookup (wpAny_getItem_list_neg (isList_of ho) h0 (by rw [hsz]; exact h1) (by omega) (by rw [hsz]; simpa using hz) ⟨kp_refl _, rz⟩) (hs _ _)
theorem o_itemTup {e i : Expr} {c : V} {l : List V} {k : Int} {j : Nat} (hj : seqIndex? k l.length = some j) (hx : l[j]? = some c) (hlo : -(2 ^ 63) ≤ k) (hhi : k < 2 ^ 63)
    (hs : ∀ o j, subscripted i false o j = operate [o, j] (getItem o j) := by intro _ _; rfl) : P2 B n st (subscriptTail e i) (.tup l) (.int k) c := fun A _ E s H x y S rx ry => by
  cases ry
  cases rx with
  | tup ha ho hr =>
    obtain ⟨z, hz, rz⟩ := hr.get hx
    exact item_tupleT (l := _) (by simpa using isTup_of ho) hlo hhi (by rw [hr.length]; exact hj) hz ⟨kp_refl _, rz⟩ (hs _ _)

-- slices
theorem pe_partNone {A : Around} {E : Value → Shared → Prop} {s : Shared} {Q : Value → Shared → Prop} (h : Q .none s) : wpAny (model B.prog B.w) A (evalPart none env) Q E s := wpAny_pure h
/-- the parts of a slice -/
def PPart (B : Bs) (n : Nat) (env : Env) (ρ : Str → Option V) (st : Store) (e : Option Expr) (k : Option Int) : Prop :=
  ∀ A, Rm n A → ∀ E s H, Sim B env ρ st H s.heap → wpAny (model B.prog B.w) A (evalPart e env) (fun x s' => KT B s s' ∧ IsPart x k) E s
theorem pp_none : PPart B n env ρ st none none := fun A _ E s H _ => wpAny_pure ⟨kp_refl _, .none⟩
theorem pp_some {e : Expr} {i : Int} (h : PE B n env ρ st e (.int i)) : PPart B n env ρ st (some e) (some i) := fun A hA E s H S => by
  show wpAny _ A (eval e env) _ _ _
  exact wpAny_mono (h A hA E s H S) (fun x s₁ ⟨k1, r1⟩ => ⟨k1, by cases r1; exact .int ..⟩) fun _ _ e => e
theorem pe_slice {e : Expr} {lo hi stp : Option Expr} {p pos : Pos} {a : V} {l : List V} {i j k : Option Int} (h1 : PE B n env ρ st e a) (hl : lis st a = some l) (h2 : PPart B n env ρ st lo i) (h3 : PPart B n env ρ st hi j) (h4 : PPart B n env ρ st stp k)
    (hk : k ≠ some 0) (hsz : l.length ≤ sizeLine) : PE B n env ρ st (.Subscript e (.Slice lo hi stp p) pos) (.lst (slc l i j k)) := fun A hA E s H S => by
  refine Subscript_ (wpAny_mono (h1 A hA E s H S) (fun x s₁ ⟨k1, r1⟩ => wpAny_Slice (wpAny_mono (h2 A hA E s₁ H (S.keeps (kp_get k1))) (fun y s₂ ⟨k2, r2⟩ => wpAny_mono (h3 A hA E s₂ H (S.keeps (kp_get (kp_trans k1 k2)))) (fun z s₃ ⟨k3, r3⟩ =>
    wpAny_mono (h4 A hA E s₃ H (S.keeps (kp_get (kp_trans k1 (kp_trans k2 k3))))) (fun u s₄ ⟨k4, r4⟩ => ?_) fun _ _ e => e) fun _ _ e => e) fun _ _ e => e)) fun _ _ e => e)
  have kk := kp_trans k1 (kp_trans k2 (kp_trans k3 k4))
  have S4 := S.keeps (kp_get kk)
  have r1' := r1.ext (kp_dk (B := B) (kp_trans k2 (kp_trans k3 k4)) H)
  obtain ⟨ad, vs, m, rfl, ho, hr⟩ := lis_at (B := B) S4.sto r1' hl
  have ho' := Heap.get?_push_of_some { cls := .type "slice", data := .fields #[y, z, u] } ho
  have S5 := S4.sto.keeps (B := B) (kp_get (kp_push s₄ { cls := .type "slice", data := .fields #[y, z, u] }))
  refine tail_any (T := "list") (id := "list.__getitem__") (ops := match stp with | none => [Value.ref s₄.heap.objs.size, Value.ref ad] | some _ => [Value.ref ad, Value.ref s₄.heap.objs.size]) (isList_of ho').typeIs slot_list_getitem.lookup (wpAny_getItem_list_slice (isList_of ho') (Heap.IsSliceOf.new ..) r2 r3 r4 hk ⟨kp_trans kk (kp_trans (kp_push ..) (kp_push ..)), ?_⟩ (by rw [hr.size]; exact hsz)) (by cases stp <;> rfl)
  exact .lst (notMem_size S5) (Heap.get?_push_size _ rfl) ((hr.slice i j k).ext (kp_dk (B := B) (kp_trans (kp_push s₄ _) (kp_push _ _)) H))

-- calls of built-in functions by their names
theorem pe_callB {x : Str} {np pos : Pos} {e : Expr} {es : List Expr} {id : String} {as : List V} {c : V} (hv : (B.mg x).or (B.mb x) = some (.builtin id)) (hk : env.kindOf x = some .globalImplicit) (h1 : PEs B n env ρ st (e :: es) as)
    (h2 : PL B n st (fun xs => call (.builtin id) xs) as c) (hd : (x == ("__debug__" : Str)) = false := by kernel_rfl)
    (he : starEach (e :: es) env = (false, eval e env) :: starEach es env := by rfl) (hplain : ∀ pos, (backTo pos (starEach es env)).any (·.1) = false := by intro _; rfl) :
    PE B n env ρ st (.Call (.Name x np) (e :: es) [] pos) c := fun A hA E s H S => by
  refine wpAny_Call_ofName (ld_glob S hk hv ?_ hd)
  refine callWith_builtin1 (wpAny_mono (h1 A hA E s H pos S) (fun xs s₁ ⟨k1, r1⟩ => ?_) fun _ _ e => e) he (hplain pos)
  exact wpAny_mono (h2 A hA E s₁ H xs (S.sb.keeps (kp_get k1)) r1) (fun z s₂ ⟨k2, r2⟩ => ⟨kp_trans k1 k2, r2⟩) fun _ _ e => e

theorem PL.one {t : List Value → Sem Value} {a c : V} (h : P1 B n st (fun x => t [x]) a c) : PL B n st t [a] c := fun A hA E s H xs S r => by
  cases r with | cons r1 r => cases r; exact h A hA E s H _ S r1
theorem PL.two {t : List Value → Sem Value} {a b c : V} (h : P2 B n st (fun x y => t [x, y]) a b c) : PL B n st t [a, b] c := fun A hA E s H xs S r => by
  cases r with | cons r1 r => cases r with | cons r2 r => cases r; exact h A hA E s H _ _ S r1 r2

theorem o_len {a : V} {l : List V} (hl : lis st a = some l) (hfit : l.length < 2 ^ 62) : PL B n st (fun xs => call (.builtin "len") xs) [a] (.int l.length) := PL.one fun A _ E s H x S rx => by
  obtain ⟨ad, vs, m, rfl, ho, hr⟩ := lis_at (B := B) S.sto rx hl
  refine len_list (isList_of ho) (by rw [hr.size]; omega) ⟨kp_tok .., ?_⟩
  rw [hr.size]; exact .int ..
theorem tr_lis {a : V} {l : List V} (hl : lis st a = some l) (hfit : l.length < 2 ^ 62) : PTr B n st a (!l.isEmpty) := fun A _ E s H x S rx => by
  obtain ⟨ad, vs, m, rfl, ho, hr⟩ := lis_at (B := B) S.sto rx hl
  have hsz := hr.size
  refine wpAny_truthy_list (isList_of ho) (by rw [hsz]; omega) ⟨?_, kp_tok ..⟩
  cases l with
  | nil => have : vs = #[] := by simpa using hsz
           simp [this]
  | cons v l => simp only [List.isEmpty_cons, Bool.not_false, Bool.not_eq_eq_eq_not, Bool.not_true]; rw [Array.isEmpty_eq_false_iff]; rintro rfl; simp at hsz
theorem o_addL {a b : V} {l m : List V} (hl : lis st a = some l) (hm : lis st b = some m) (hsz : l.length + m.length ≤ sizeLine) : P2 B n st (binaryOp .Add) a b (.lst (l ++ m)) := fun A _ E s H x y S rx ry => by
  obtain ⟨ad, vs, q, rfl, ho, hr⟩ := lis_at (B := B) S.sto rx hl
  obtain ⟨bd, ws, q', rfl, ho', hr'⟩ := lis_at (B := B) S.sto ry hm
  refine PySem.P.add_list (n := q) (n2 := q') ho ho' ⟨kp_push .., .lst (notMem_size S.sto) (Heap.get?_push_size _ rfl) ?_⟩ (by have := hr.size; have := hr'.size; omega) 
  have := (hr.append hr').ext (kp_dk (B := B) (kp_push s { cls := .type "list", data := .seq (vs ++ ws) }) H)
  simpa using this
end
end Mine

-- part Gw4
namespace Mine

def upd (ρ : Str → Option V) (x : Str) (v : V) : Str → Option V := fun y => if y = x then some v else ρ y

/-- what the frame's own names write -/
def wrt (env : Env) (xs : List Str) (b : Addr) : Prop := b = env.locals ∨ ∃ x ∈ xs, env.kindOf x = some .cell ∧ env.cells.lookup x = some b

theorem EnvRep.notSeq {env : Env} {ρ : Str → Option V} {H : Hd} {h : Heap} (x : EnvRep env ρ H h) {xs : List Str} {b : Addr} (hb : wrt env xs b) {o : Obj} (ho : h.get? b = some o) : ¬ IsSeq o := by
  rintro ⟨vs, n, hd⟩
  rcases hb with rfl | ⟨y, _, _, hc⟩
  · obtain ⟨m, ⟨o', es, ep, ho', hd', _⟩, _⟩ := x.loc
    rw [ho] at ho'; cases ho'; rw [hd] at hd'; cases hd'
  · obtain ⟨v, o', ho', hd'⟩ := x.cells y b (mem_of_lookup hc)
    rw [ho] at ho'; cases ho'; rw [hd] at hd'; cases hd'

theorem notSeq_notMem {H : Hd} {st : Store} {h : Heap} (S : SimH H st h) {b : Addr} {o : Obj} (ho : h.get? b = some o) (hs : ¬ IsSeq o) : ¬ H.has b := fun hm => by
  obtain ⟨o', ho', hs'⟩ := S.live _ hm
  rw [ho] at ho'; cases ho'; exact hs hs'

/-- a heap that keeps all but some non-sequences -/
theorem SimH.keepSeq {H : Hd} {st : Store} {h h' : Heap} (S : SimH H st h) (hk : ∀ b o, IsSeq o → h.get? b = some o → h'.get? b = some o) : SimH H st h' :=
  ⟨S.len, S.nd, fun k a l ha hl => let ⟨vs, n, ho, hr⟩ := S.at_ k a l ha hl; ⟨vs, n, hk _ _ (isSeq_lis ..) ho, hr.ext ⟨⟨[], by simp⟩, fun _ h1 h2 => absurd h1 h2, fun b o _ hs e => hk b o hs e⟩⟩, fun a ha => let ⟨o, ho, hs⟩ := S.live a ha; ⟨o, hk _ _ hs ho, hs⟩, S.dj⟩
theorem dk_seq {H : Hd} {h h' : Heap} (hk : ∀ b o, IsSeq o → h.get? b = some o → h'.get? b = some o) : DKeep H h H h' :=
  ⟨⟨[], by simp⟩, fun _ h1 h2 => absurd h1 h2, fun b o _ hs e => hk b o hs e⟩

/-- what a code's table may name -/
def CodeO (o : Obj) : Prop := ∃ vs q t, o.data = .fields vs ∧ vs[1]? = some (.str q t)
theorem tabs_ne {B : Bs} {h h' : Heap} (x : TabsOk B h) {W : Addr → Prop} (hk : ∀ b o, ¬ W b → h.get? b = some o → h'.get? b = some o) (hW : ∀ b, W b → ¬ B.isT b) (hC : ∀ b o, W b → h.get? b = some o → ¬ CodeO o) : TabsOk B h' := fun t ht => by
  obtain ⟨ps, h1, h2, h3⟩ := x t ht
  refine ⟨ps, hk _ _ (fun hw => hW _ hw ⟨t, ht, rfl⟩) h1, h2, fun pos cv e => ?_⟩
  obtain ⟨c, o, vs, u, e1, e2, e3, e4⟩ := h3 pos cv e
  exact ⟨c, o, vs, u, e1, hk _ _ (fun hw => hC _ _ hw e2 ⟨vs, _, _, e3, e4⟩) e2, e3, e4⟩
theorem base_ne {B : Bs} {H : Hd} {h h' : Heap} (x : Base B H h) {W : Addr → Prop} (hk : ∀ b o, ¬ W b → h.get? b = some o → h'.get? b = some o) (hW : ∀ b, W b → B.free b) (hC : ∀ b o, W b → h.get? b = some o → ¬ CodeO o) : Base B H h' :=
  ⟨fun b o e => hk b o (fun hw => (hW b hw).no e) (x.keep b o e), x.new, tabs_ne x.tab hk (fun b hb => (hW b hb).2) hC⟩
theorem ns_notCode {h : Heap} {C : Addr} {q : Str → Option Value} (hn : h.Ns C q) {o : Obj} (e : h.get? C = some o) : ¬ CodeO o := fun ⟨_, _, _, hd, _⟩ => by
  obtain ⟨o', es, ep, ho', hd', _⟩ := hn
  rw [e] at ho'; cases ho'; rw [hd] at hd'; cases hd'
/-- a new namespace is changed -/
theorem KH.but {B : Bs} {h h' h'' : Heap} {C : Addr} {q : Str → Option Value} (k : KH B h h') (hC : h.get? C = none) (hn : h'.Ns C q) (hs : Heap.SameBut C h' h'') : KH B h h'' where
  keep := fun b o hx e => hs.extBut b o (fun e' => by subst e'; rw [hC] at e; cases e) (k.keep b o hx e)
  tab := fun T => tabs_ne (k.tab T) (W := (· = C)) (fun b o hb e => hs.extBut b o hb e) (fun b hb ⟨t, ht, e⟩ => by
    obtain ⟨ps, h1, _⟩ := T t ht
    rw [e, hb, hC] at h1; cases h1) fun b o hb e => by subst hb; exact ns_notCode hn e
  live := fun b o e => let ⟨o', e'⟩ := k.live b o e; ⟨o', hs.extBut b o' (fun e'' => by subst e''; rw [hC] at e; cases e) e'⟩
theorem EnvRep.notCode {env : Env} {ρ : Str → Option V} {H : Hd} {h : Heap} (x : EnvRep env ρ H h) {xs : List Str} {b : Addr} (hb : wrt env xs b) {o : Obj} (ho : h.get? b = some o) : ¬ CodeO o := by
  rintro ⟨vs, q, t, hd, _⟩
  rcases hb with rfl | ⟨y, _, _, hc⟩
  · obtain ⟨m, ⟨o', es, ep, ho', hd', _⟩, _⟩ := x.loc
    rw [ho] at ho'; cases ho'; rw [hd] at hd'; cases hd'
  · obtain ⟨v, o', ho', hd'⟩ := x.cells y b (mem_of_lookup hc)
    rw [ho] at ho'; cases ho'; rw [hd] at hd'; cases hd'
theorem seq_notCode {o : Obj} (h : IsSeq o) : ¬ CodeO o := fun ⟨_, _, _, e, _⟩ => by obtain ⟨vs, n, e'⟩ := h; rw [e] at e'; cases e'

/-- a frame's own objects are new upon the base -/
structure Own (B : Bs) (env : Env) (xs : List Str) : Prop where
  new : ∀ b, wrt env xs b → B.free b

/-- the assignment of a value to a target: names of the target, the frame afterwards -/
def PA (B : Bs) (n : Nat) (env : Env) (st : Store) (target : Expr) (v : V) (xs : List Str) (ρ ρ' : Str → Option V) : Prop :=
  ∀ A, Rm n A → Own B env xs → ∀ E s H x, Sim B env ρ st H s.heap → Rep H s.heap x v →
    wpAny (model B.prog B.w) A (assign target env x) (fun _ s' => ∃ h' tk, s' = { s with heap := h', toks := tk } ∧ Sim B env ρ' st H h' ∧ ∀ b o, ¬ wrt env xs b → s.heap.get? b = some o → h'.get? b = some o) E s

theorem sim_storeLocal {B : Bs} {env : Env} {ρ : Str → Option V} {st : Store} {H : Hd} {h h' : Heap} {x : Str} {y : Value} {v : V} {m : Str → Option Value} {xs : List Str} (S : Sim B env ρ st H h) (O : Own B env xs)
    (hx : env.kindOf x = some .local) (hm : h.Ns env.locals m) (hr : ∀ x v, env.kindOf x = some .local → ρ x = some v → ∃ y, m x = some y ∧ Rep H h y v) (hn : h'.Ns env.locals (fun z => if z = x then some y else m z)) (hs : Heap.SameBut env.locals h h') (r : Rep H h y v) : Sim B env (upd ρ x v) st H h' := by
  have kp : ∀ b o, ¬ wrt env xs b → h.get? b = some o → h'.get? b = some o := fun b o hb e => hs.extBut b o (fun e' => hb (.inl e')) e
  have ks : ∀ b o, IsSeq o → h.get? b = some o → h'.get? b = some o := fun b o hq e => hs.extBut b o (fun e' => S.en.notSeq (xs := xs) (.inl e') e hq) e
  have kc : ∀ {c : Addr} {v : Option Value}, h.IsCell c v → c ≠ env.locals := fun hc e => by
    subst e
    obtain ⟨o, es, ep, ho, hd, _⟩ := hm
    obtain ⟨o', ho', hd'⟩ := hc
    rw [ho] at ho'; cases ho'; rw [hd] at hd'; cases hd'
  refine ⟨base_ne S.base kp O.new (fun b o hb e => S.en.notCode hb e), S.sto.keepSeq ks, S.en.kind, S.en.gl, S.en.bi, ⟨_, hn, fun z w hz hw => ?_⟩, fun z w hz hw => ?_, fun z c hz => ?_, S.en.has, S.en.apart⟩
  · by_cases e : z = x
    · subst e
      simp only [upd, if_true] at hw; cases hw
      exact ⟨y, by simp, r.ext (dk_seq ks)⟩
    · simp only [upd, if_neg e] at hw
      obtain ⟨y', hy', r'⟩ := hr z w hz hw
      exact ⟨y', by simp [e, hy'], r'.ext (dk_seq ks)⟩
  · have e : z ≠ x := by rintro rfl; rw [hx] at hz; rcases hz with hz | hz <;> cases hz
    simp only [upd, if_neg e] at hw
    obtain ⟨c, y', h1, h2, h3⟩ := S.en.cell z w hz hw
    exact ⟨c, y', h1, h2.sameBut hs (kc h2), h3.ext (dk_seq ks)⟩
  · obtain ⟨w, hc⟩ := S.en.cells z c hz
    exact ⟨w, hc.sameBut hs (kc hc)⟩

theorem sim_storeCell {B : Bs} {env : Env} {ρ : Str → Option V} {st : Store} {H : Hd} {h h' : Heap} {x : Str} {y : Value} {v : V} {c : Addr} {v₀ : Option Value} {xs : List Str} (S : Sim B env ρ st H h) (O : Own B env xs) (hxs : x ∈ xs)
    (hx : env.kindOf x = some .cell) (hc : env.cells.lookup x = some c) (hv₀ : h.IsCell c v₀) (hn : h'.IsCell c (some y)) (hs : Heap.SameBut c h h') (r : Rep H h y v) : Sim B env (upd ρ x v) st H h' := by
  have hw : wrt env xs c := .inr ⟨x, hxs, hx, hc⟩
  have kp : ∀ b o, ¬ wrt env xs b → h.get? b = some o → h'.get? b = some o := fun b o hb e => hs.extBut b o (fun e' => hb (e' ▸ hw)) e
  have ks : ∀ b o, IsSeq o → h.get? b = some o → h'.get? b = some o := fun b o hq e => hs.extBut b o (fun e' => S.en.notSeq (xs := xs) (e' ▸ hw) e hq) e
  refine ⟨base_ne S.base kp O.new (fun b o hb e => S.en.notCode hb e), S.sto.keepSeq ks, S.en.kind, S.en.gl, S.en.bi, ?_, fun z w hz hw => ?_, fun z c' hz => ?_, S.en.has, S.en.apart⟩
  · obtain ⟨m, hm, hr⟩ := S.en.loc
    refine ⟨m, hm.sameBut hs ?_, fun z w hz hw => ?_⟩
    · rintro rfl
      obtain ⟨o, es, ep, ho, hd, _⟩ := hm
      obtain ⟨o', ho', hd'⟩ := hv₀
      rw [ho] at ho'; cases ho'; rw [hd] at hd'; cases hd'
    · have e : z ≠ x := by rintro rfl; rw [hx] at hz; cases hz
      simp only [upd, if_neg e] at hw
      obtain ⟨y', hy', r'⟩ := hr z w hz hw
      exact ⟨y', hy', r'.ext (dk_seq ks)⟩
  · by_cases e : z = x
    · subst e
      simp only [upd, if_true] at hw; cases hw
      exact ⟨c, y, hc, hn, r.ext (dk_seq ks)⟩
    · simp only [upd, if_neg e] at hw
      obtain ⟨c', y', h1, h2, h3⟩ := S.en.cell z w hz hw
      exact ⟨c', y', h1, h2.sameBut hs (fun e' => e (name_of_addr S.en.apart (mem_of_lookup h1) (e' ▸ mem_of_lookup hc))), h3.ext (dk_seq ks)⟩
  · by_cases e : c' = c
    · subst e; exact ⟨_, hn⟩
    · obtain ⟨w, hc'⟩ := S.en.cells z c' hz
      exact ⟨w, hc'.sameBut hs e⟩

section
variable {B : Bs} {n : Nat} {env : Env} {ρ : Str → Option V} {st : Store}

/-- a store of a name -/
theorem st_name {A : Around} {E : Value → Shared → Prop} {s : Shared} {H : Hd} {x : Str} {y : Value} {v : V} {xs : List Str} {Q : Unit → Shared → Prop} (S : Sim B env ρ st H s.heap) (O : Own B env xs) (hxs : x ∈ xs)
    (hk : env.kindOf x = some .local ∨ env.kindOf x = some .cell) (r : Rep H s.heap y v)
    (h : ∀ h' tk, Sim B env (upd ρ x v) st H h' → (∀ b o, ¬ wrt env xs b → s.heap.get? b = some o → h'.get? b = some o) → Q () { s with heap := h', toks := tk }) :
    wpAny (model B.prog B.w) A (storeName env x y) Q E s := by
  rcases hk with hk | hk
  · obtain ⟨m, hm, hr⟩ := S.en.loc
    refine wpAny_storeName_local hk hm (fun h' hn hs => h h' _ (sim_storeLocal (xs := xs) S O hk hm hr hn hs r) fun b o hb e => hs.extBut b o (fun e' => hb (.inl e')) e) (by rw [S.en.kind]; rfl)
  · obtain ⟨c, hc⟩ := S.en.has x (.inl hk)
    obtain ⟨v₀, hv₀⟩ := S.en.cells x c (mem_of_lookup hc)
    refine wpAny_storeName_cell S.en.kind hk hc hv₀ fun h' hn hs => h h' _ (sim_storeCell S O hxs hk hc hv₀ hn hs r) fun b o hb e => hs.extBut b o (fun e' => hb (e' ▸ .inr ⟨x, hxs, hk, hc⟩)) e

theorem pa_name {x : Str} {pos : Pos} {v : V} {xs : List Str} (hxs : x ∈ xs) (hk : env.kindOf x = some .local ∨ env.kindOf x = some .cell) : PA B n env st (.Name x pos) v xs ρ (upd ρ x v) := fun A _ O E s H y S r =>
  wpAny_assign_Name (st_name S O hxs hk r fun h' tk S' kp => ⟨h', tk, rfl, S', kp⟩)

/-- targets in their order -/
def PAs (B : Bs) (n : Nat) (env : Env) (st : Store) (ts : List Expr) (vs : List V) (xs : List Str) (ρ ρ' : Str → Option V) : Prop :=
  ∀ A, Rm n A → Own B env xs → ∀ E s H ys, Sim B env ρ st H s.heap → RepAll H s.heap ys vs →
    wpAny (model B.prog B.w) A (assignInOrder ((assignEach ts env).map (·.2)) ys) (fun _ s' => ∃ h' tk, s' = { s with heap := h', toks := tk } ∧ Sim B env ρ' st H h' ∧ ∀ b o, ¬ wrt env xs b → s.heap.get? b = some o → h'.get? b = some o) E s

theorem wrt_dk {H : Hd} {h h' : Heap} {xs : List Str} (S : EnvRep env ρ H h) (hk : ∀ b o, ¬ wrt env xs b → h.get? b = some o → h'.get? b = some o) : DKeep H h H h' :=
  dk_seq fun b o hq e => hk b o (fun hw => S.notSeq hw e hq) e

theorem pas_nil {xs : List Str} : PAs B n env st [] [] xs ρ ρ := fun A _ O E s H ys S r => by
  cases r; exact wpAny_assignInOrder_none ⟨s.heap, s.toks, rfl, S, fun _ _ _ e => e⟩
theorem pas_cons {t : Expr} {ts : List Expr} {v : V} {vs : List V} {xs : List Str} {ρ₁ ρ₂ : Str → Option V} (h1 : PA B n env st t v xs ρ ρ₁) (h2 : PAs B n env st ts vs xs ρ₁ ρ₂)
    (he : assignEach (t :: ts) env = (false, assign t env) :: assignEach ts env := by rfl) : PAs B n env st (t :: ts) (v :: vs) xs ρ ρ₂ := fun A hA O E s H ys S r => by
  cases r with
  | cons r1 r2 =>
    rw [he]
    refine wpAny_assignInOrder_more (wpAny_mono (h1 A hA O E s H _ S r1) (fun _ s₁ q1 => ?_) fun _ _ e => e)
    obtain ⟨h', tk, rfl, S', kp⟩ := q1
    refine wpAny_mono (h2 A hA O E _ H _ S' (r2.ext (wrt_dk S.en kp))) (fun _ s₂ q2 => ?_) fun _ _ e => e
    obtain ⟨h'', tk', rfl, S'', kp'⟩ := q2
    exact ⟨h'', tk', rfl, S'', fun b o hb e => kp' b o hb (kp b o hb e)⟩

theorem pa_tuple {ts : List Expr} {k : Nat} {pos : Pos} {vs : List V} {xs : List Str} {ρ' : Str → Option V} (h : PAs B n env st ts vs xs ρ ρ') (hn : (assignEach ts env).length = vs.length := by rfl) (hstar : (assignEach ts env).findIdx? (·.1) = none := by rfl) :
    PA B n env st (.Tuple ts k pos) (.tup vs) xs ρ ρ' := fun A hA O E s H y S r => by
  cases r with
  | tup ha ho hr =>
    refine wpAny_assign_Tuple hA.hd (isTup_of ho) (by rw [hn, hr.size]) hstar fun h' he => ?_
    have kp : ∀ b o, s.heap.get? b = some o → h'.get? b = some o := fun b o e => he b o (Nat.ne_of_lt (Heap.lt_size e)) e
    refine wpAny_mono (h A hA O E { s with heap := h' } H _ (S.keeps (.of kp)) (hr.ext (.of_full kp))) (fun _ s₁ q => ?_) fun _ _ e => e
    obtain ⟨h'', tk', rfl, S'', kp'⟩ := q
    exact ⟨h'', tk', rfl, S'', fun b o hb e => kp' b o hb (kp b o e)⟩
end
end Mine

-- part Gw5
namespace Mine

/-- an iterator that hands out the values vs one by one; X: opaque sequences of its own; wr: what it writes; fp: what it stands on -/
structure Iter (B : Bs) (n : Nat) (it : Value) (vs : List V) (Cond : Store → Prop) (Tg : Expr → Prop) (X wr fp : List Addr) (St : Hd → Nat → Heap → Prop) : Prop where
  sub : ∀ b ∈ wr, b ∈ fp
  frame : ∀ H H' i h h', St H i h → DKeep H h H' h' → (∀ b ∈ fp, ∀ o, h.get? b = some o → h'.get? b = some o) → St H' i h'
  wrObj : ∀ H i h b, St H i h → b ∈ fp → ∃ o, h.get? b = some o ∧ (b ∈ wr → b ∉ X → (∃ fs, o.data = .fields fs) ∧ ¬ CodeO o)
  xObj : ∀ H i h b, St H i h → b ∈ X → ∃ o, h.get? b = some o ∧ IsSeq o
  item : ∀ A, Rm n A → ∀ E s H st i v target (Q : Value → Shared → Prop), Cond st → Tg target → SB B st H s.heap → (∀ a ∈ X, H.has a) → St H i s.heap → vs[i]? = some v →
    (∀ x h' tk, St H (i + 1) h' → (∀ b o, b ∉ wr → s.heap.get? b = some o → h'.get? b = some o) → Rep H h' x v → Q x { s with heap := h', toks := tk }) →
    wpAny (model B.prog B.w) A (pyNext it) (fun r s₁ => ∃ x, r = some x ∧ wpAny (model B.prog B.w) A (letOwnedTupleGo target it x) (fun _ s₂ => Q x s₂) E s₁) E s
  done : ∀ A, Rm n A → ∀ E s H st (Q : Shared → Prop), Cond st → SB B st H s.heap → (∀ a ∈ X, H.has a) → St H vs.length s.heap →
    (∀ h' tk, (∀ b o, b ∉ wr → s.heap.get? b = some o → h'.get? b = some o) → Q { s with heap := h', toks := tk }) →
    wpAny (model B.prog B.w) A (pyNext it) (fun r s₁ => r = none ∧ Q s₁) E s
  self : ∀ A, Rm n A → ∀ E s H i (Q : Value → Shared → Prop), St H i s.heap → Q it s → wpAny (model B.prog B.w) A (pyIter it) Q E s

def AnyT : Expr → Prop := fun _ => True
def IsTupT : Expr → Prop := fun t => ∃ es k p, t = .Tuple es k p

theorem iter_list {B : Bs} {n : Nat} {I ad : Addr} {a : V} {l : List V} : Iter B n (.ref I) l (fun st => lis st a = some l) AnyT [] [I] [I]
    (fun H i h => h.IsListIter I ad i ∧ Rep H h (.ref ad) a) where
  sub := fun b hb => hb
  frame := fun H H' i h h' ⟨hi, hr⟩ dk hk => ⟨hi.at fun o e => hk I (by simp) o e, hr.ext dk⟩
  wrObj := fun H i h b ⟨hi, _⟩ hb => by
    obtain ⟨o, ho, hc, hd⟩ := hi
    cases List.mem_singleton.mp hb
    exact ⟨o, ho, fun _ _ => ⟨⟨_, hd⟩, fun ⟨vs, q, t, e1, e2⟩ => by rw [hd] at e1; cases e1; simp at e2⟩⟩
  xObj := fun H i h b _ hb => by simp at hb
  item := fun A hA E s H st i v target Q hc _ S _ ⟨hi, hr⟩ hv hQ => by
    obtain ⟨ad', vs, m, e, ho, hrs⟩ := lis_at (B := B) S.sto hr hc
    cases e
    obtain ⟨x, hx, rx⟩ := hrs.get hv
    refine wpAny_pyNext_list_item hi (isList_of ho) (by simpa using hx) fun h' hi' hs => ⟨x, rfl, letGo_listiter hi' ?_⟩
    have kp : ∀ b o, b ∉ [I] → s.heap.get? b = some o → h'.get? b = some o := fun b o hb e => hs.extBut b o (by simpa using hb) e
    have dk : DKeep H s.heap H h' := dk_seq fun b o hq e => kp b o (by
      intro hb
      cases List.mem_singleton.mp hb
      obtain ⟨o', ho', _, hd'⟩ := hi
      rw [e] at ho'; cases ho'
      obtain ⟨_, _, hq⟩ := hq
      rw [hq] at hd'; cases hd') e
    exact hQ x h' s.toks ⟨hi', hr.ext dk⟩ kp (rx.ext dk)
  done := fun A hA E s H st Q hc S _ ⟨hi, hr⟩ hQ => by
    obtain ⟨ad', vs, m, e, ho, hrs⟩ := lis_at (B := B) S.sto hr hc
    cases e
    refine wpAny_pyNext_list_end hA.hd hi (isList_of ho) (by have := hrs.size; simp [this]) fun h' hs => ⟨rfl, hQ h' s.toks fun b o hb e => hs b o (by simpa using hb) e⟩
  self := fun A hA E s H i Q ⟨hi, _⟩ hQ => wpAny_pyIter_listiter hi hQ

theorem letGo_rangeiter {prog : Program} {w : World} {A : Around} {E : Value → Shared → Prop} {target : Expr} {I : Addr} {x left step : Int} {v : Value} {Q' : Unit → Shared → Prop} {s' : Shared} (hit : IsRangeIter s'.heap I x left step) (h : Q' () s') :
    wpAny (model prog w) A (letOwnedTupleGo target (.ref I) v) Q' E s' := by
  unfold letOwnedTupleGo
  cases target <;> first
    | exact wpAny_pure h
    | (cases v <;> first
        | exact wpAny_pure h
        | (refine wpAny_bind (wpAny_load hit ?_)
           exact wpAny_pure h))

/-- the ints of a range -/
def rng (a c : Int) (m : Nat) : List Int := (List.range m).map fun (k : Nat) => a + (k : Int) * c

theorem iter_range {B : Bs} {n : Nat} {I : Addr} {a c : Int} {m : Nat} : Iter B n (.ref I) ((rng a c m).map V.int) (fun _ => True) AnyT [] [I] [I]
    (fun H i h => IsRangeIter h I (a + (i : Int) * c) ((m : Int) - i) c) where
  sub := fun b hb => hb
  frame := fun H H' i h h' hi dk hk => hk I (by simp) _ hi
  wrObj := fun H i h b hi hb => by
    cases List.mem_singleton.mp hb
    exact ⟨_, hi, fun _ _ => ⟨⟨_, rfl⟩, fun ⟨vs, q, t, e1, e2⟩ => by cases e1; simp [rawInt] at e2⟩⟩
  xObj := fun H i h b _ hb => by simp at hb
  item := fun A hA E s H st i v target Q hc _ S _ hi hv hQ => by
    have hlt : i < m := by
      have := (List.getElem?_eq_some_iff.mp hv).1
      simpa [rng] using this
    have hv' : v = .int (a + (i : Int) * c) := by
      simp [rng, hlt] at hv; exact hv.symm
    subst hv'
    refine wpAny_pyNext_range_item hi (by omega) fun h' hi' hs => ⟨_, rfl, letGo_rangeiter hi' ?_⟩
    have kp : ∀ b o, b ∉ [I] → s.heap.get? b = some o → h'.get? b = some o := fun b o hb e => hs.extBut b o (by simpa using hb) e
    refine hQ _ h' _ ?_ kp (.int ..)
    have e1 : a + (i : Int) * c + c = a + ((i + 1 : Nat) : Int) * c := by rw [Int.natCast_succ, Int.add_mul]; omega
    have e2 : (m : Int) - (i : Int) - 1 = (m : Int) - ((i + 1 : Nat) : Int) := by omega
    rw [e1, e2] at hi'
    exact hi'
  done := fun A hA E s H st Q hc S _ hi hQ => by
    refine wpAny_pyNext_range_end hA.hd hi (by simp [rng]) fun h' hs => ⟨rfl, hQ h' s.toks fun b o hb e => hs b o (by simpa using hb) e⟩
  self := fun A hA E s H i Q hi hQ => wpAny_pyIter_rangeiter hi hQ

/-- the iterable of a for or of a comprehension, and its iterator -/
def PI (B : Bs) (n : Nat) (env : Env) (ρ : Str → Option V) (st : Store) (e : Expr) (vs : List V) (Cond : Store → Prop) (Tg : Expr → Prop) (plain : Bool) : Prop :=
  ∀ A, Rm n A → ∀ E s H, Sim B env ρ st H s.heap →
    wpAny (model B.prog B.w) A (eval e env) (fun x s₁ => KT B s s₁ ∧ wpAny (model B.prog B.w) A (pyIter x) (fun it s₂ => KT B s s₂ ∧
      ∃ X wr fp St, Iter B n it vs Cond Tg X wr fp St ∧ Cond st ∧ (plain = true → X = []) ∧ St ⟨H.hs, X ++ H.xs⟩ 0 s₂.heap ∧ ∀ b, b ∈ fp ∨ b ∈ X → s.heap.get? b = none) E s₁) E s

section
variable {B : Bs} {n : Nat} {env : Env} {ρ : Str → Option V} {st : Store}

theorem new_none {s s' : Shared} (k : KT B s s') {a : Addr} (ha : s'.heap.objs.size ≤ a) : s.heap.get? a = none := by
  cases e : s.heap.get? a with
  | none => rfl
  | some o => obtain ⟨o', e'⟩ := (kp_get k).live _ _ e; exact absurd (Heap.lt_size e') (Nat.not_lt.mpr ha)

theorem pi_list {e : Expr} {a : V} {l : List V} (h1 : PE B n env ρ st e a) (hl : lis st a = some l) : PI B n env ρ st e l (fun st => lis st a = some l) AnyT true := fun A hA E s H S => by
  refine wpAny_mono (h1 A hA E s H S) (fun x s₁ ⟨k1, r1⟩ => ⟨k1, ?_⟩) fun _ _ e => e
  obtain ⟨ad, vs, m, rfl, ho, hr⟩ := lis_at (B := B) (S.keeps (kp_get k1)).sto r1 hl
  refine wpAny_pyIter_list (isList_of ho) ⟨kp_trans k1 (kp_push ..), [], _, _, _, iter_list (ad := ad), hl, fun _ => rfl, ⟨⟨_, Heap.get?_push_size _ rfl, rfl, rfl⟩, r1.ext (kp_dk (B := B) (kp_push s₁ _) H)⟩, fun b hb => ?_⟩
  rcases hb with hb | hb
  · cases List.mem_singleton.mp hb; exact new_none k1 (Nat.le_refl _)
  · simp at hb
end
end Mine

-- part Gw6
namespace Mine

section
variable {B : Bs} {n : Nat} {env : Env} {ρ : Str → Option V} {st : Store}

/-- the call of a class of the interpreter's by its name: what is shown of the class's call -/
theorem callT {A : Around} (hA : Rm n A) {E : Value → Shared → Prop} {s : Shared} {H : Hd} {x : Str} {np pos : Pos} {e : Expr} {es : List Expr} {T : String} {as : List V} {Q : Value → Shared → Prop} (S : Sim B env ρ st H s.heap)
    (hv : (B.mg x).or (B.mb x) = some (.type T)) (hk : env.kindOf x = some .globalImplicit) (h1 : PEs B n env ρ st (e :: es) as)
    (h2 : ∀ xs s₁, KT B s s₁ → RepAll H s₁.heap xs as → wpAny (model B.prog B.w) A (call (.type T) xs) Q E s₁) (hd : (x == ("__debug__" : Str)) = false := by kernel_rfl)
    (he : starEach (e :: es) env = (false, eval e env) :: starEach es env := by rfl) (hplain : ∀ pos, (backTo pos (starEach es env)).any (·.1) = false := by intro _; rfl) :
    wpAny (model B.prog B.w) A (eval (.Call (.Name x np) (e :: es) [] pos) env) Q E s := by
  refine wpAny_Call_ofName (ld_glob S hk hv ?_ hd)
  exact callWith_type1 (wpAny_mono (h1 A hA E s H pos S) (fun xs s₁ ⟨k1, r1⟩ => h2 xs s₁ k1 r1) fun _ _ e => e) he (hplain pos)

theorem rangeSize_one (a b : Int) : Builtin.Range.rangeSize a b 1 = ((b - a).toNat : Int) := by
  unfold Builtin.Range.rangeSize
  simp only [show (1 : Int) > 0 from by decide, if_true]
  split <;> omega

/-- a range object's iterator -/
theorem range_iter {A : Around} (hA : Rm n A) {E : Value → Shared → Prop} {s s₁ : Shared} {H : Hd} {r : Addr} {a b c : Int} {t u v : Tok} {m : Nat} (k1 : KT B s s₁) (hr : IsRange s₁.heap r a b c t u v) (hsmall : Builtin.Range.small a b c = true) (hm : Builtin.Range.rangeSize a b c = m) :
    wpAny (model B.prog B.w) A (pyIter (.ref r)) (fun it s₂ => KT B s s₂ ∧
      ∃ X wr fp St, Iter B n it ((rng a c m).map V.int) (fun _ => True) AnyT X wr fp St ∧ True ∧ (true = true → X = []) ∧ St ⟨H.hs, X ++ H.xs⟩ 0 s₂.heap ∧ ∀ b, b ∈ fp ∨ b ∈ X → s.heap.get? b = none) E s₁ := by
  refine wpAny_pyIter_range hr hsmall ⟨kp_trans k1 (kp_push ..), [], _, _, _, iter_range, trivial, fun _ => rfl, ?_, fun b hb => ?_⟩
  · show IsRangeIter _ _ _ _ _
    rw [hm]
    simpa using Heap.get?_push_size _ rfl
  · rcases hb with hb | hb
    · cases List.mem_singleton.mp hb; exact new_none k1 (Nat.le_refl _)
    · simp at hb

theorem kp_pushT (s : Shared) (o : Obj) (k : Nat) : KT B s { s with heap := s.heap.push o, toks := k } := ⟨_, _, rfl, .of fun _ _ e => Heap.get?_push_of_some _ e⟩

theorem pi_range1 {np pos : Pos} {e : Expr} {b : Int} (h1 : PE B n env ρ st e (.int b)) (hb : -(2 ^ 62) ≤ b ∧ b < 2 ^ 62)
    (hv : (B.mg "range").or (B.mb "range") = some (.type "range")) (hk : env.kindOf "range" = some .globalImplicit)
    (he : starEach [e] env = [(false, eval e env)] := by rfl) :
    PI B n env ρ st (.Call (.Name "range" np) [e] [] pos) ((rng 0 1 b.toNat).map V.int) (fun _ => True) AnyT true := fun A hA E s H S => by
  refine callT hA S hv hk (pes_cons h1 pes_nil he) (fun xs s₁ k1 r1 => ?_) (by decide) he (fun _ => rfl)
  cases r1 with
  | cons r1 r => cases r; cases r1; exact call_range_1 ⟨kp_trans k1 (kp_pushT ..), range_iter hA (kp_trans k1 (kp_pushT ..)) (Heap.get?_push_size _ rfl) (small_one (by omega) (by omega) hb.1 hb.2) (by rw [rangeSize_one]; simp)⟩
theorem pi_range2 {np pos : Pos} {e f : Expr} {a b : Int} (h1 : PE B n env ρ st e (.int a)) (h2 : PE B n env ρ st f (.int b)) (ha : -(2 ^ 62) ≤ a ∧ a < 2 ^ 62) (hb : -(2 ^ 62) ≤ b ∧ b < 2 ^ 62)
    (hv : (B.mg "range").or (B.mb "range") = some (.type "range")) (hk : env.kindOf "range" = some .globalImplicit)
    (he : starEach [e, f] env = [(false, eval e env), (false, eval f env)] := by rfl) (he' : starEach [f] env = [(false, eval f env)] := by rfl) :
    PI B n env ρ st (.Call (.Name "range" np) [e, f] [] pos) ((rng a 1 (b - a).toNat).map V.int) (fun _ => True) AnyT true := fun A hA E s H S => by
  refine callT hA S hv hk (pes_cons h1 (pes_cons h2 pes_nil he') (by rw [he, he'])) (fun xs s₁ k1 r1 => ?_) (by decide) (by rw [he, he']) (fun _ => by rw [he']; rfl)
  cases r1 with
  | cons r1 r => cases r with | cons r2 r => cases r; cases r1; cases r2; exact call_range_2 ⟨kp_trans k1 (kp_pushT ..), range_iter hA (kp_trans k1 (kp_pushT ..)) (Heap.get?_push_size _ rfl) (small_one ha.1 ha.2 hb.1 hb.2) (by rw [rangeSize_one])⟩

def zipV (l m : List V) : List V := List.zipWith (fun a b => V.tup [a, b]) l m

theorem iter_zip {z TI TO i1 i2 l1 l2 : Addr} {a1 a2 : V} {l m : List V} (D : ZipApart z TI TO i1 i2 l1 l2) : Iter B n (.ref z) (zipV l m) (fun st => lis st a1 = some l ∧ lis st a2 = some m) IsTupT [TO] [z, TO, i1, i2] [z, TO, i1, i2, TI]
    (fun H i h => IsZip h z TI TO .none ∧ IsPair h TI (.ref i1) (.ref i2) ∧ (∃ a b, IsPair h TO a b) ∧ h.IsListIter i1 l1 i ∧ h.IsListIter i2 l2 i ∧ Rep H h (.ref l1) a1 ∧ Rep H h (.ref l2) a2) where
  sub := fun b hb => by simp only [List.mem_cons] at hb ⊢; rcases hb with h | h | h | h | h <;> simp_all
  frame := fun H H' i h h' ⟨c1, c2, ⟨a, b, c3⟩, c4, c5, c6, c7⟩ dk hk => ⟨hk z (by simp) _ c1, hk TI (by simp) _ c2, ⟨a, b, hk TO (by simp) _ c3⟩, c4.at fun o e => hk i1 (by simp) o e, c5.at fun o e => hk i2 (by simp) o e, c6.ext dk, c7.ext dk⟩
  wrObj := fun H i h b ⟨c1, c2, ⟨x, y, c3⟩, ⟨o4, c4, _, d4⟩, ⟨o5, c5, _, d5⟩, c6, c7⟩ hb => by
    simp only [List.mem_cons, List.not_mem_nil, or_false] at hb
    rcases hb with rfl | rfl | rfl | rfl | rfl
    · exact ⟨_, c1, fun _ _ => ⟨⟨_, rfl⟩, fun ⟨vs, q, t, e1, e2⟩ => by cases e1; simp at e2⟩⟩
    · exact ⟨_, c3, fun _ hx => absurd (List.mem_singleton.mpr rfl) hx⟩
    · exact ⟨_, c4, fun _ _ => ⟨⟨_, d4⟩, fun ⟨vs, q, t, e1, e2⟩ => by rw [d4] at e1; cases e1; simp at e2⟩⟩
    · exact ⟨_, c5, fun _ _ => ⟨⟨_, d5⟩, fun ⟨vs, q, t, e1, e2⟩ => by rw [d5] at e1; cases e1; simp at e2⟩⟩
    · refine ⟨_, c2, fun hw hx => ?_⟩
      simp only [List.mem_cons, List.not_mem_nil, or_false] at hw
      rcases hw with e | e | e | e
      · exact absurd e D.TIz
      · exact absurd e D.TITO
      · exact absurd e D.TIi1
      · exact absurd e D.TIi2
  xObj := fun H i h b ⟨c1, c2, ⟨x, y, c3⟩, _⟩ hb => by
    cases List.mem_singleton.mp hb
    exact ⟨_, c3, _, _, rfl⟩
  item := fun A hA E s H st i v target Q hc htg S hX ⟨c1, c2, ⟨x, y, c3⟩, c4, c5, c6, c7⟩ hv hQ => by
    obtain ⟨ad1, vs1, m1, e, ho1, hr1⟩ := lis_at (B := B) S.sto c6 hc.1
    cases e
    obtain ⟨ad2, vs2, m2, e, ho2, hr2⟩ := lis_at (B := B) S.sto c7 hc.2
    cases e
    obtain ⟨es, k, p, rfl⟩ := htg
    have hv' : ∃ a b, l[i]? = some a ∧ m[i]? = some b ∧ v = .tup [a, b] := by
      rw [zipV, List.getElem?_zipWith] at hv
      cases hl : l[i]? with
      | none => rw [hl] at hv; simp at hv
      | some a =>
        cases hm : m[i]? with
        | none => rw [hl, hm] at hv; simp at hv
        | some b => rw [hl, hm] at hv; simp at hv; exact ⟨a, b, rfl, rfl, hv.symm⟩
    obtain ⟨a, b, hla, hmb, rfl⟩ := hv'
    obtain ⟨xa, hxa, ra⟩ := hr1.get hla
    obtain ⟨xb, hxb, rb⟩ := hr2.get hmb
    refine wpAny_pyNext_zip_item D c1 c2 c3 c4 c5 (isList_of ho1) (isList_of ho2) (by simpa using hxa) (by simpa using hxb) fun h' d1 d2 d3 d4 d5 d6 kp => ⟨_, rfl, ?_⟩
    refine wpAny_letOwnedTupleGo_zip d1 fun h'' g1 hs => ?_
    have kp2 : ∀ b o, b ∉ [z, TO, i1, i2] → s.heap.get? b = some o → h''.get? b = some o := fun b o hb e => by
      simp only [List.mem_cons, List.not_mem_nil, or_false, not_or] at hb
      exact hs.extBut b o hb.1 (kp b o hb.1 hb.2.1 hb.2.2.1 hb.2.2.2 e)
    have dk : DKeep H s.heap H h'' := ⟨⟨[], by simp⟩, fun _ h1 h2 => absurd h1 h2, fun b o hb hq e => kp2 b o (by
      simp only [List.mem_cons, List.not_mem_nil, or_false, not_or]
      refine ⟨?_, ?_, ?_, ?_⟩
      · rintro rfl; rw [c1] at e; cases e; obtain ⟨_, _, hq⟩ := hq; cases hq
      · rintro rfl; exact hb (hX _ (by simp))
      · rintro rfl; obtain ⟨o', ho', _, hd'⟩ := c4; rw [e] at ho'; cases ho'; obtain ⟨_, _, hq⟩ := hq; rw [hq] at hd'; cases hd'
      · rintro rfl; obtain ⟨o', ho', _, hd'⟩ := c5; rw [e] at ho'; cases ho'; obtain ⟨_, _, hq⟩ := hq; rw [hq] at hd'; cases hd') e⟩
    have hzs : s.heap.objs.size ≠ z := Nat.ne_of_gt (Heap.lt_size c1)
    refine hQ _ h'' s.toks ⟨g1, hs.extBut _ _ D.TIz (kp _ _ D.TIz D.TITO D.TIi1 D.TIi2 c2), ⟨_, _, hs.extBut _ _ D.TOz d2⟩, d3.extBut hs.extBut D.i1z, d4.extBut hs.extBut D.i2z, c6.ext dk, c7.ext dk⟩ kp2 ?_
    exact .tup (vs := #[xa, xb]) (n := 0) (notMem_size S.sto) (hs.extBut _ _ hzs d5) (.cons (ra.ext dk) (.cons (rb.ext dk) .nil))
  done := fun A hA E s H st Q hc S hX ⟨c1, c2, ⟨x, y, c3⟩, c4, c5, c6, c7⟩ hQ => by
    obtain ⟨ad1, vs1, m1, e, ho1, hr1⟩ := lis_at (B := B) S.sto c6 hc.1
    cases e
    obtain ⟨ad2, vs2, m2, e, ho2, hr2⟩ := lis_at (B := B) S.sto c7 hc.2
    cases e
    have e1 := hr1.size
    have e2 := hr2.size
    refine wpAny_pyNext_zip_end hA.hd D c1 c2 c3 c4 c5 (isList_of ho1) (isList_of ho2) ?_ fun h' kp => ⟨rfl, hQ h' s.toks fun b o hb e => ?_⟩
    · simp only [zipV, List.length_zipWith]
      rcases Nat.le_total l.length m.length with h | h
      · left; simp; omega
      · right; simp; omega
    · simp only [List.mem_cons, List.not_mem_nil, or_false, not_or] at hb
      exact kp b o hb.1 hb.2.1 hb.2.2.1 hb.2.2.2 e
  self := fun A hA E s H i Q ⟨c1, _⟩ hQ => wpAny_pyIter_zip c1 hQ

theorem pi_zip {np pos : Pos} {e f : Expr} {a b : V} {l m : List V} (h1 : PE B n env ρ st e a) (h2 : PE B n env ρ st f b) (hl : lis st a = some l) (hm : lis st b = some m)
    (hv : (B.mg "zip").or (B.mb "zip") = some (.type "zip")) (hk : env.kindOf "zip" = some .globalImplicit)
    (he : starEach [e, f] env = [(false, eval e env), (false, eval f env)] := by rfl) (he' : starEach [f] env = [(false, eval f env)] := by rfl) :
    PI B n env ρ st (.Call (.Name "zip" np) [e, f] [] pos) (zipV l m) (fun st => lis st a = some l ∧ lis st b = some m) IsTupT false := fun A hA E s H S => by
  refine callT hA S hv hk (pes_cons h1 (pes_cons h2 pes_nil he') (by rw [he, he'])) (fun xs s₁ k1 r1 => ?_) (by decide) (by rw [he, he']) (fun _ => by rw [he']; rfl)
  cases r1 with
  | cons r1 r =>
    cases r with
    | cons r2 r =>
      cases r
      have S1 := S.keeps (kp_get k1)
      obtain ⟨ad1, vs1, m1, rfl, ho1, hr1⟩ := lis_at (B := B) S1.sto r1 hl
      obtain ⟨ad2, vs2, m2, rfl, ho2, hr2⟩ := lis_at (B := B) S1.sto r2 hm
      have q1 := Nat.lt_of_lt_of_le (Heap.lt_size ho1) (Nat.le_refl _)
      have q2 := Nat.lt_of_lt_of_le (Heap.lt_size ho2) (Nat.le_refl _)
      refine call_zip_2 (isList_of ho1) (isList_of ho2) fun h' c1 c2 c3 c4 c5 c6 kp => ?_
      have k2 : KT B s₁ { s₁ with heap := h' } := kp_heap kp
      refine ⟨kp_trans k1 k2, wpAny_pyIter_zip c1 ⟨kp_trans k1 k2, [s₁.heap.objs.size + 3], _, _, _, iter_zip (z := s₁.heap.objs.size + 4) (TI := s₁.heap.objs.size + 2) (TO := s₁.heap.objs.size + 3) (i1 := s₁.heap.objs.size) (i2 := s₁.heap.objs.size + 1) (l1 := ad1) (l2 := ad2) (a1 := a) (a2 := b) ?_, ⟨hl, hm⟩, fun h => (nomatch h), ?_, fun b hb => ?_⟩⟩
      · constructor <;> first | exact Nat.ne_of_lt (by omega) | exact Nat.ne_of_gt (by omega)
      · have dk : DKeep H s₁.heap ⟨H.hs, [s₁.heap.objs.size + 3] ++ H.xs⟩ h' := ⟨⟨[], by simp⟩, fun a ha hn => by
          rcases ha with ha | ha
          · exact absurd (.inl ha) hn
          · rcases List.mem_cons.mp ha with e | ha
            · subst e
              cases e : s₁.heap.get? (s₁.heap.objs.size + 3) with
              | none => rfl
              | some o => exact absurd (Heap.lt_size e) (Nat.not_lt.mpr (by omega))
            · exact absurd (.inr ha) hn, fun b o _ _ e => kp b o e⟩
        exact ⟨c1, c2, ⟨_, _, c3⟩, c4, c5, r1.ext dk, r2.ext dk⟩
      · refine new_none k1 ?_
        simp only [List.mem_cons, List.not_mem_nil, or_false] at hb
        rcases hb with (rfl | rfl | rfl | rfl | rfl) | rfl <;> first | exact Nat.le_refl _ | exact Nat.le_add_right _ _
end
end Mine

-- part Gw7
namespace Mine

def nodupB : List Str → Bool
  | [] => true
  | x :: r => !r.contains x && nodupB r
def okScope (env : Env) (scope : Scope) : Bool :=
  scope.kind == .function && nodupB (scope.names.map (·.1)) && scope.names.all (fun x => x.2 != .free || env.kindOf x.1 == some .cell || env.kindOf x.1 == some .free)

theorem nodupB_iff : ∀ {l : List Str}, nodupB l = true → l.Nodup
  | [], _ => List.nodup_nil
  | x :: r, h => by
    simp only [nodupB, Bool.and_eq_true, Bool.not_eq_eq_eq_not, Bool.not_true] at h
    refine List.nodup_cons.mpr ⟨fun hm => ?_, nodupB_iff h.2⟩
    rw [List.contains_iff_mem.mpr hm] at h; cases h.1

/-- of distinct names the lookup finds each -/
theorem lookup_of_mem : ∀ {l : List (Str × NameKind)} {x : Str} {k : NameKind}, (l.map (·.1)).Nodup → (x, k) ∈ l → l.lookup x = some k
  | (y, j) :: r, x, k, hn, hm => by
    simp only [List.map_cons, List.nodup_cons] at hn
    rcases List.mem_cons.mp hm with e | hm
    · cases e; simp [List.lookup_cons]
    · have hne : x ≠ y := fun e => hn.1 (e ▸ List.mem_map.mpr ⟨(x, k), hm, rfl⟩)
      rw [List.lookup_cons, beq_false_of_ne hne]
      exact lookup_of_mem hn.2 hm

def closOf (env : Env) : List (Str × NameKind) → List (Str × Addr) → List (Str × Addr)
  | [], acc => acc
  | (n, k) :: r, acc => if k == .free then closOf env r ((n, (env.cells.lookup n).getD 0) :: acc) else closOf env r acc

theorem closureFor_eq {env : Env} {scope : Scope} (h : ∀ x ∈ scope.names, x.2 = .free → ∃ c, env.cells.lookup x.1 = some c) : closureFor scope env = pure (closOf env scope.names []) := by
  unfold closureFor
  have key : ∀ (l : List (Str × NameKind)) (acc : List (Str × Addr)), (∀ x ∈ l, x.2 = .free → ∃ c, env.cells.lookup x.1 = some c) →
      (forIn l acc (fun x r => if (x.2 == NameKind.free) = true then (do let a ← cellOf env x.1; pure (ForInStep.yield ((x.1, a) :: r))) else (do pure PUnit.unit; pure (ForInStep.yield r)) : Str × NameKind → List (Str × Addr) → Sem (ForInStep (List (Str × Addr))))) = pure (closOf env l acc) := by
    intro l
    induction l with
    | nil => intro acc _; rfl
    | cons x r ih =>
      intro acc hx
      obtain ⟨m, k⟩ := x
      rw [List.forIn_cons]
      by_cases hk : (k == NameKind.free) = true
      · have : k = .free := by simpa using hk
        subst this
        obtain ⟨c, hc⟩ := hx (m, .free) (by simp) rfl
        simp only [hk, if_true, closOf, hc, Option.getD_some]
        have : cellOf env m = pure c := by unfold cellOf; rw [hc]
        rw [this]
        show (forIn r ((m, c) :: acc) _ : Sem _) = _
        exact ih _ fun y hy => hx y (List.mem_cons_of_mem _ hy)
      · simp only [hk, closOf]
        exact ih _ fun y hy => hx y (List.mem_cons_of_mem _ hy)
  have := key scope.names [] h
  first
    | exact this
    | (simp only [bind_pure_comp] at this ⊢; simpa using this)
    | simpa using this

theorem closOf_app (env : Env) : ∀ (l : List (Str × NameKind)) (acc : List (Str × Addr)), closOf env l acc = closOf env l [] ++ acc
  | [], acc => rfl
  | (m, k) :: r, acc => by
    unfold closOf
    split
    · rw [closOf_app env r (_ :: acc), closOf_app env r [_], List.append_assoc]; rfl
    · exact closOf_app env r acc

theorem closOf_mem {env : Env} : ∀ {l : List (Str × NameKind)} {x : Str} {c : Addr}, (x, c) ∈ closOf env l [] → (x, NameKind.free) ∈ l ∧ c = (env.cells.lookup x).getD 0
  | (m, k) :: r, x, c, h => by
    unfold closOf at h
    split at h
    · rename_i hk
      have : k = .free := by simpa using hk
      subst this
      rw [closOf_app] at h
      rcases List.mem_append.mp h with h | h
      · exact ⟨List.mem_cons_of_mem _ (closOf_mem h).1, (closOf_mem h).2⟩
      · cases List.mem_singleton.mp h; exact ⟨List.mem_cons_self, rfl⟩
    · exact ⟨List.mem_cons_of_mem _ (closOf_mem h).1, (closOf_mem h).2⟩

theorem closOf_lookup {env : Env} : ∀ {l : List (Str × NameKind)} {x : Str}, (l.map (·.1)).Nodup → (x, NameKind.free) ∈ l → (closOf env l []).lookup x = some ((env.cells.lookup x).getD 0)
  | (m, k) :: r, x, hn, h => by
    simp only [List.map_cons, List.nodup_cons] at hn
    unfold closOf
    rcases List.mem_cons.mp h with e | h
    · obtain ⟨e1, e2⟩ := Prod.mk.inj e
      subst e1; subst e2
      simp only [beq_self_eq_true, if_true]
      rw [closOf_app, List.lookup_append]
      have : (closOf env r []).lookup x = none := by
        cases hq : (closOf env r []).lookup x with
        | none => rfl
        | some c => exact absurd (List.mem_map.mpr ⟨(x, .free), (closOf_mem (mem_of_lookup hq)).1, rfl⟩) hn.1
      rw [this]; simp [List.lookup_cons]
    · split
      · rw [closOf_app, List.lookup_append, closOf_lookup hn.2 h]; rfl
      · exact closOf_lookup hn.2 h

theorem cellsFrom_app : ∀ (m : Nat) (l : List (Str × NameKind)) (acc : List (Str × Addr)), cellsFrom m l acc = cellsFrom m l [] ++ acc
  | m, [], acc => rfl
  | m, (x, k) :: r, acc => by
    unfold cellsFrom
    split
    · rw [cellsFrom_app (m + 1) r (_ :: acc), cellsFrom_app (m + 1) r [_], List.append_assoc]; rfl
    · exact cellsFrom_app m r acc
theorem cellsFrom_mem : ∀ {m : Nat} {l : List (Str × NameKind)} {x : Str} {c : Addr}, (x, c) ∈ cellsFrom m l [] → (x, NameKind.cell) ∈ l
  | m, (y, k) :: r, x, c, h => by
    unfold cellsFrom at h
    split at h
    · rename_i hk
      have : k = .cell := by simpa using hk
      subst this
      rw [cellsFrom_app] at h
      rcases List.mem_append.mp h with h | h
      · exact List.mem_cons_of_mem _ (cellsFrom_mem h)
      · cases List.mem_singleton.mp h; exact List.mem_cons_self
    · exact List.mem_cons_of_mem _ (cellsFrom_mem h)
theorem cellsFrom_has : ∀ {m : Nat} {l : List (Str × NameKind)} {x : Str}, (x, NameKind.cell) ∈ l → ∃ c, (cellsFrom m l []).lookup x = some c
  | m, (y, k) :: r, x, h => by
    unfold cellsFrom
    rcases List.mem_cons.mp h with e | h
    · obtain ⟨e1, e2⟩ := Prod.mk.inj e
      subst e1; subst e2
      simp only [beq_self_eq_true, if_true]
      rw [cellsFrom_app, List.lookup_append]
      cases hq : (cellsFrom (m + 1) r []).lookup x with
      | none => exact ⟨m, by simp [List.lookup_cons]⟩
      | some c => exact ⟨c, rfl⟩
    · split
      · obtain ⟨c, hc⟩ := cellsFrom_has (m := m + 1) h
        rw [cellsFrom_app, List.lookup_append, hc]; exact ⟨c, rfl⟩
      · exact cellsFrom_has h

/-- the names that a comprehension sees of the frame around it -/
def restr (scope : Scope) (ρ : Str → Option V) : Str → Option V := fun x => if scope.names.lookup x = some .free then ρ x else none

/-- a comprehension's frame -/
def cEnv (scope : Scope) (C : Addr) (env : Env) : Env :=
  { scope := relabel scope env, locals := C, globals := env.globals, cells := cellsFrom (C + 1) scope.names (closOf env scope.names []), qual := env.qual, func := none, code := env.code, frame := env.frame, builtins := env.builtins }

theorem relabel_lookup {scope : Scope} {env : Env} : ∀ {x : Str} {k : NameKind}, (relabel scope env).names.lookup x = some k → k ≠ .cell → scope.names.lookup x = some k := by
  unfold relabel
  generalize scope.names = l
  intro x k
  induction l with
  | nil => intro h; simp at h
  | cons y r ih =>
    obtain ⟨m, j⟩ := y
    intro h hk
    by_cases hx : (x == m) = true
    · rw [List.map_cons, List.lookup_cons] at h
      rw [List.lookup_cons, hx]
      by_cases hc : (j == NameKind.free && env.scope.kind == .function && env.kindOf m == some .cell) = true
      · simp only [hc, if_true, hx] at h; cases h; exact absurd rfl hk
      · simp only [hc, Bool.false_eq_true, if_false, hx] at h; simpa using h
    · have hx' : (x == m) = false := by simpa using hx
      rw [List.lookup_cons, hx']
      refine ih ?_ hk
      rw [List.map_cons, List.lookup_cons] at h
      by_cases hc : (j == NameKind.free && env.scope.kind == .function && env.kindOf m == some .cell) = true
      · simp only [hc, if_true, hx'] at h; exact h
      · simp only [hc, Bool.false_eq_true, if_false, hx'] at h; exact h
theorem relabel_cell {scope : Scope} {env : Env} : ∀ {x : Str}, (relabel scope env).names.lookup x = some .cell → scope.names.lookup x = some .cell ∨ scope.names.lookup x = some .free := by
  unfold relabel
  generalize scope.names = l
  intro x
  induction l with
  | nil => intro h; simp at h
  | cons y r ih =>
    obtain ⟨m, j⟩ := y
    intro h
    by_cases hx : (x == m) = true
    · rw [List.map_cons, List.lookup_cons] at h
      simp only [List.lookup_cons, hx]
      by_cases hc : (j == NameKind.free && env.scope.kind == .function && env.kindOf m == some .cell) = true
      · simp only [Bool.and_eq_true, beq_iff_eq] at hc
        right; rw [hc.1.1]
      · simp only [hc, Bool.false_eq_true, if_false, hx] at h; left; simpa using h
    · have hx' : (x == m) = false := by simpa using hx
      simp only [List.lookup_cons, hx']
      refine ih ?_
      rw [List.map_cons, List.lookup_cons] at h
      by_cases hc : (j == NameKind.free && env.scope.kind == .function && env.kindOf m == some .cell) = true
      · simp only [hc, if_true, hx'] at h; exact h
      · simp only [hc, Bool.false_eq_true, if_false, hx'] at h; exact h

theorem mem_of_lookupK : ∀ {l : List (Str × NameKind)} {x : Str} {k : NameKind}, l.lookup x = some k → (x, k) ∈ l := fun h => mem_of_lookup h

theorem okScope_facts {env : Env} {scope : Scope} (h : okScope env scope = true) : scope.kind = .function ∧ (scope.names.map (·.1)).Nodup ∧ ∀ x, (x, NameKind.free) ∈ scope.names → env.kindOf x = some .cell ∨ env.kindOf x = some .free := by
  simp only [okScope, Bool.and_eq_true, beq_iff_eq, List.all_eq_true] at h
  refine ⟨h.1.1, nodupB_iff h.1.2, fun x hx => ?_⟩
  have := h.2 _ hx
  simpa using this

theorem env_comp {env : Env} {scope : Scope} {ρ : Str → Option V} {H : Hd} {h h' : Heap} {C : Addr} (E : EnvRep env ρ H h) (ok : okScope env scope = true) (hk : ∀ b o, h.get? b = some o → h'.get? b = some o) (hC : h.objs.size ≤ C)
    (hn : h'.Ns C (fun _ => none)) (hcs : CellsOk h' (C + 1) (cellsFrom (C + 1) scope.names [])) : EnvRep (cEnv scope C env) (restr scope ρ) H h' := by
  obtain ⟨f1, f2, f3⟩ := okScope_facts ok
  have E' := E.full hk
  have clo : ∀ x c, (x, c) ∈ closOf env scope.names [] → env.cells.lookup x = some c ∧ ∃ v, h.IsCell c v := fun x c hm => by
    obtain ⟨h1, h2⟩ := closOf_mem hm
    obtain ⟨c', hc'⟩ := E.has x (f3 x h1)
    rw [hc'] at h2
    have : c = c' := h2
    subst this
    exact ⟨hc', E.cells x c (mem_of_lookup hc')⟩
  have loo : ∀ x, scope.names.lookup x = some .free → (cEnv scope C env).cells.lookup x = env.cells.lookup x := fun x hx => by
    show (cellsFrom (C + 1) scope.names (closOf env scope.names [])).lookup x = _
    rw [cellsFrom_app, List.lookup_append]
    have h1 : (cellsFrom (C + 1) scope.names []).lookup x = none := by
      cases hq : (cellsFrom (C + 1) scope.names []).lookup x with
      | none => rfl
      | some c =>
        have := lookup_of_mem f2 (cellsFrom_mem (mem_of_lookup hq))
        rw [hx] at this; cases this
    rw [h1, closOf_lookup f2 (mem_of_lookup hx)]
    obtain ⟨c', hc'⟩ := E.has x (f3 x (mem_of_lookup hx))
    rw [hc']; rfl
  refine ⟨by simp [cEnv, relabel, f1], E.gl, E.bi, ⟨_, hn, fun x v hx hv => ?_⟩, fun x v hx hv => ?_, fun x c hm => ?_, fun x hx => ?_, ?_⟩
  · have : scope.names.lookup x = some .local := relabel_lookup hx (by simp)
    simp [restr, this] at hv
  · have hf : scope.names.lookup x = some .free := by
      unfold restr at hv
      split at hv
      · assumption
      · cases hv
    simp only [restr, hf, if_true] at hv
    obtain ⟨c, y, h1, h2, h3⟩ := E'.cell x v (f3 x (mem_of_lookup hf)) hv
    exact ⟨c, y, (loo x hf).trans h1, h2, h3⟩
  · have hm : (x, c) ∈ cellsFrom (C + 1) scope.names (closOf env scope.names []) := hm
    rw [cellsFrom_app] at hm
    rcases List.mem_append.mp hm with hm | hm
    · exact ⟨_, (hcs.empty x c hm).1⟩
    · obtain ⟨_, v, hv⟩ := clo x c hm
      exact ⟨v, hv.keeps hk⟩
  · have hx' : scope.names.lookup x = some .cell ∨ scope.names.lookup x = some .free := by
      rcases hx with hx | hx
      · exact relabel_cell hx
      · exact .inr (relabel_lookup hx (by simp))
    rcases hx' with hx' | hx'
    · obtain ⟨c, hc⟩ := cellsFrom_has (m := C + 1) (mem_of_lookup hx')
      refine ⟨c, ?_⟩
      show (cellsFrom (C + 1) scope.names (closOf env scope.names [])).lookup x = _
      rw [cellsFrom_app, List.lookup_append, hc]; rfl
    · obtain ⟨c, hc⟩ := E.has x (f3 x (mem_of_lookup hx'))
      exact ⟨c, (loo x hx').trans hc⟩
  · show (cellsFrom (C + 1) scope.names (closOf env scope.names [])).Pairwise _
    rw [cellsFrom_app]
    refine List.pairwise_append.mpr ⟨hcs.apart, ?_, fun x hx y hy e => ?_⟩
    · have : ∀ (l : List (Str × NameKind)) (acc : List (Str × Addr)), (l.map (·.1)).Nodup → (∀ x ∈ l, x ∈ scope.names) → acc.Pairwise (fun x y => x.2 ≠ y.2) → (∀ p ∈ acc, p.1 ∉ l.map (·.1) ∧ env.cells.lookup p.1 = some p.2) → (closOf env l acc).Pairwise (fun x y => x.2 ≠ y.2) := by
        intro l
        induction l with
        | nil => intro acc _ _ hp _; exact hp
        | cons y r ih =>
          obtain ⟨m, k⟩ := y
          intro acc hn hs hp ha
          simp only [List.map_cons, List.nodup_cons] at hn
          unfold closOf
          split
          · rename_i hk'
            have : k = .free := by simpa using hk'
            subst this
            obtain ⟨c, hc⟩ := E.has m (f3 m (hs _ List.mem_cons_self))
            rw [hc]
            refine ih _ hn.2 (fun z hz => hs z (List.mem_cons_of_mem _ hz)) (List.pairwise_cons.mpr ⟨fun z hz e => ?_, hp⟩) fun p hp' => ?_
            · obtain ⟨z1, z2⟩ := ha z hz
              have e' : c = z.2 := e
              have := name_of_addr E.apart (mem_of_lookup hc) (e' ▸ mem_of_lookup z2)
              exact z1 (by rw [← this]; simp)
            · rcases List.mem_cons.mp hp' with rfl | hp'
              · exact ⟨hn.1, hc⟩
              · exact ⟨fun hm => (ha p hp').1 (by simp [hm]), (ha p hp').2⟩
          · exact ih acc hn.2 (fun z hz => hs z (List.mem_cons_of_mem _ hz)) hp fun p hp' => ⟨fun hm => (ha p hp').1 (by simp [hm]), (ha p hp').2⟩
      exact this scope.names [] f2 (fun x hx => hx) List.Pairwise.nil fun p hp => (nomatch hp)
    · obtain ⟨_, h1⟩ := hcs.empty x.1 x.2 hx
      obtain ⟨_, v, hv⟩ := clo y.1 y.2 hy
      have := hv.lt
      exact absurd (Nat.lt_of_lt_of_le this hC) (Nat.not_lt.mpr (Nat.le_trans (Nat.le_succ C) (e ▸ h1)))
end Mine

-- part Gw8
namespace Mine

theorem turn_b (elt t0 i0 t1 i1 : Expr) (f0 f1 : List Expr) (scope : Scope) (pos : Pos) (it acc : Value) (env : Env) :
    compTurn (.ListComp elt [⟨t0, i0, f0, 0⟩, ⟨t1, i1, f1, 0⟩] scope pos) 1 it acc env = (do
      standAt i1.pos
      match ← pyNext it with
      | none => pure (.done .next)
      | some v =>
        letOwnedTupleGo t1 it v
        assign t1 env v
        let mut ok := true
        for c in f1 do
          if ok then ok ← isTrue c env (eval c env)
        if ok then
          (do let _ ← call (.builtin "list.append") [acc, ← eval elt env])
        again (.compLoop (.ListComp elt [⟨t0, i0, f0, 0⟩, ⟨t1, i1, f1, 0⟩] scope pos) 1 it acc env)) := by rfl

theorem turn_c (elt t0 i0 t1 i1 : Expr) (f0 f1 : List Expr) (scope : Scope) (pos : Pos) (it acc : Value) (env : Env) :
    compTurn (.ListComp elt [⟨t0, i0, f0, 0⟩, ⟨t1, i1, f1, 0⟩] scope pos) 0 it acc env = (do
      standAt i0.pos
      match ← pyNext it with
      | none => pure (.done .next)
      | some v =>
        letOwnedTupleGo t0 it v
        assign t0 env v
        let mut ok := true
        for c in f0 do
          if ok then ok ← isTrue c env (eval c env)
        if ok then
          let x ← eval i1 env
          standAt i1.pos
          let x ← foldedSetIterable i1 env x
          let _ ← runOwn (.compStart (.ListComp elt [⟨t0, i0, f0, 0⟩, ⟨t1, i1, f1, 0⟩] scope pos) 1 (← holding [x] (pyIter x)) acc env) env
        again (.compLoop (.ListComp elt [⟨t0, i0, f0, 0⟩, ⟨t1, i1, f1, 0⟩] scope pos) 0 it acc env)) := by rfl

/-- the list that grows -/
def AccAt (D : Addr) (ys : List V) (H : Hd) (h : Heap) : Prop := ∃ vs n, h.get? D = some (lisObj vs n) ∧ RepAll H h vs.toList ys

/-- the tests of a comprehension's clause -/
def PTs (B : Bs) (n : Nat) (env : Env) (ρ : Str → Option V) (st : Store) (ifs : List Expr) (b : Bool) : Prop :=
  ∀ A, Rm n A → ∀ E s H, Sim B env ρ st H s.heap →
    wpAny (model B.prog B.w) A (forIn ifs true fun c r => if r = true then do let ok ← isTrue c env (eval c env); pure (ForInStep.yield ok) else pure (ForInStep.yield r)) (fun x s' => x = b ∧ KT B s s') E s

/-- what a turn does behind the assignment of its target: it puts `out` onto the list D -/
def CBody (B : Bs) (n : Nat) (cenv : Env) (xs : List Str) (D : Addr) (st : Store) (ρ ρ₀ : Str → Option V) (t : Sem Unit) (out : List V) : Prop :=
  ∀ A, Rm n A → Own B cenv xs → ∀ E s H ys, D ∈ H.xs → ¬ wrt cenv xs D → Sim B cenv ρ st H s.heap → AccAt D ys H s.heap → ys.length + out.length ≤ sizeLine →
    wpAny (model B.prog B.w) A t (fun _ s' => ∃ h' tk, s' = { s with heap := h', toks := tk } ∧ Sim B cenv ρ₀ st H h' ∧ AccAt D (ys ++ out) H h' ∧ ∀ b o, b ≠ D → ¬ wrt cenv xs b → s.heap.get? b = some o → h'.get? b = some o) E s

theorem EnvRep.weaken {env : Env} {ρ ρ₀ : Str → Option V} {H : Hd} {h : Heap} (x : EnvRep env ρ H h) (hw : ∀ y v, ρ₀ y = some v → ρ y = some v) : EnvRep env ρ₀ H h :=
  ⟨x.kind, x.gl, x.bi, let ⟨m, hm, hr⟩ := x.loc; ⟨m, hm, fun y v hy hv => hr y v hy (hw y v hv)⟩, fun y v hy hv => x.cell y v hy (hw y v hv), x.cells, x.has, x.apart⟩
theorem Sim.weaken {B : Bs} {env : Env} {ρ ρ₀ : Str → Option V} {st : Store} {H : Hd} {h : Heap} (x : Sim B env ρ st H h) (hw : ∀ y v, ρ₀ y = some v → ρ y = some v) : Sim B env ρ₀ st H h := ⟨x.base, x.sto, x.en.weaken hw⟩

/-- only non-sequences and opaque things were written -/
theorem sim_wr {B : Bs} {env : Env} {ρ : Str → Option V} {st : Store} {H : Hd} {h h' : Heap} {X wr : List Addr} (S : Sim B env ρ st H h) (hX : ∀ a ∈ X, a ∈ H.xs ∧ a ∉ H.hs)
    (hwr : ∀ b ∈ wr, b ∉ X → ∃ o fs, h.get? b = some o ∧ o.data = .fields fs ∧ ¬ CodeO o) (hXl : ∀ b ∈ X, (∃ o, h.get? b = some o ∧ IsSeq o) ∧ ∃ o, h'.get? b = some o ∧ IsSeq o) (hnew : ∀ b ∈ wr, B.free b)
    (kp : ∀ b o, b ∉ wr → h.get? b = some o → h'.get? b = some o) : Sim B env ρ st H h' ∧ DKeep H h H h' := by
  have noF : ∀ b o, h.get? b = some o → b ∉ X → (∀ fs, o.data ≠ .fields fs) → b ∉ wr := fun b o ho hb hn hw => by
    obtain ⟨o', fs, ho', hd, _⟩ := hwr b hw hb
    rw [ho] at ho'; cases ho'; exact hn fs hd
  have noC : ∀ b o, b ∈ wr → h.get? b = some o → ¬ CodeO o := fun b o hw e => by
    by_cases hx : b ∈ X
    · obtain ⟨⟨o', ho', hs'⟩, _⟩ := hXl b hx; rw [e] at ho'; cases ho'; exact seq_notCode hs'
    · obtain ⟨o', fs, ho', _, hc⟩ := hwr b hw hx
      rw [e] at ho'; cases ho'; exact hc
  have seqNF : ∀ {o : Obj}, IsSeq o → ∀ fs, o.data ≠ .fields fs := fun ⟨_, _, e⟩ fs e' => by rw [e] at e'; cases e'
  have dk : DKeep H h H h' := ⟨⟨[], by simp⟩, fun _ h1 h2 => absurd h1 h2, fun b o hb hq e => kp b o (noF b o e (fun hx => hb (.inr (hX b hx).1)) (seqNF hq)) e⟩
  have notX : ∀ {b : Addr} {o : Obj}, h.get? b = some o → ¬ IsSeq o → b ∉ X := fun ho hn hx => by
    obtain ⟨⟨o', ho', hs'⟩, _⟩ := hXl _ hx
    rw [ho] at ho'; cases ho'; exact hn hs'
  have kc : ∀ {c : Addr} {v : Option Value}, h.IsCell c v → h'.IsCell c v := fun ⟨o, ho, hd⟩ => ⟨o, kp _ o (noF _ o ho (notX ho (by rintro ⟨_, _, e⟩; rw [hd] at e; cases e)) (by intro fs e; rw [hd] at e; cases e)) ho, hd⟩
  refine ⟨⟨base_ne S.base (W := (· ∈ wr)) kp hnew noC, ⟨S.sto.len, S.sto.nd, fun k a l ha hl => ?_, fun a ha => ?_, S.sto.dj⟩, S.en.kind, S.en.gl, S.en.bi, ?_, fun y v hy hv => ?_, fun y c hc => ?_, S.en.has, S.en.apart⟩, dk⟩
  · obtain ⟨vs, m, ho, hr⟩ := S.sto.at_ k a l ha hl
    exact ⟨vs, m, kp a _ (noF a _ ho (fun hx => (hX a hx).2 (List.mem_of_getElem? ha)) (seqNF (isSeq_lis ..))) ho, hr.ext dk⟩
  · obtain ⟨o, ho, hs⟩ := S.sto.live a ha
    by_cases hx : a ∈ X
    · exact (hXl a hx).2
    · exact ⟨o, kp a o (noF a o ho hx (seqNF hs)) ho, hs⟩
  · obtain ⟨m, hm, hr⟩ := S.en.loc
    refine ⟨m, hm.at' fun o e => kp _ o ?_ e, fun y v hy hv => let ⟨z, hz, r⟩ := hr y v hy hv; ⟨z, hz, r.ext dk⟩⟩
    obtain ⟨o', es, ep, ho', hd, _⟩ := hm
    rw [e] at ho'; cases ho'
    exact noF _ o e (notX e (by rintro ⟨_, _, e⟩; rw [hd] at e; cases e)) (by intro fs e; rw [hd] at e; cases e)
  · obtain ⟨c, z, h1, h2, h3⟩ := S.en.cell y v hy hv
    exact ⟨c, z, h1, kc h2, h3.ext dk⟩
  · obtain ⟨v, hv⟩ := S.en.cells y c hc
    exact ⟨v, kc hv⟩

-- fewer opaque things
mutual
theorem Rep.less {H H' : Hd} {h : Heap} (e : H'.hs = H.hs) (hx : ∀ a ∈ H'.xs, a ∈ H.xs) : ∀ {y : Value} {v : V}, Rep H h y v → Rep H' h y v
  | _, _, .none => .none
  | _, _, .bool b => .bool b
  | _, _, .int i t => .int i t
  | _, _, .str s t => .str s t
  | _, _, .tup ha ho hr => .tup (fun hm => ha (hm.elim (fun h => .inl (e ▸ h)) fun h => .inr (hx _ h))) ho (RepAll.less e hx hr)
  | _, _, .lst ha ho hr => .lst (fun hm => ha (hm.elim (fun h => .inl (e ▸ h)) fun h => .inr (hx _ h))) ho (RepAll.less e hx hr)
  | _, _, .ref hk => .ref (e ▸ hk)
  | _, _, .val y => .val y
theorem RepAll.less {H H' : Hd} {h : Heap} (e : H'.hs = H.hs) (hx : ∀ a ∈ H'.xs, a ∈ H.xs) : ∀ {ys : List Value} {vs : List V}, RepAll H h ys vs → RepAll H' h ys vs
  | _, _, .nil => .nil
  | _, _, .cons hy hr => .cons (Rep.less e hx hy) (RepAll.less e hx hr)
end

theorem Rep.dropX {H : Hd} {X : List Addr} {h : Heap} {y : Value} {v : V} (r : Rep ⟨H.hs, X ++ H.xs⟩ h y v) : Rep H h y v := Rep.less (H := ⟨H.hs, X ++ H.xs⟩) (H' := H) rfl (fun _ ha => List.mem_append_right _ ha) r
theorem RepAll.dropX {H : Hd} {X : List Addr} {h : Heap} {y : List Value} {v : List V} (r : RepAll ⟨H.hs, X ++ H.xs⟩ h y v) : RepAll H h y v := RepAll.less (H := ⟨H.hs, X ++ H.xs⟩) (H' := H) rfl (fun _ ha => List.mem_append_right _ ha) r

/-- as sim_wr, the opaque things are dropped -/
theorem sim_wr0 {B : Bs} {env : Env} {ρ : Str → Option V} {st : Store} {H : Hd} {h h' : Heap} {X wr : List Addr} (S : Sim B env ρ st ⟨H.hs, X ++ H.xs⟩ h) (hX : ∀ a ∈ X, ¬ H.has a)
    (hwr : ∀ b ∈ wr, b ∉ X → ∃ o fs, h.get? b = some o ∧ o.data = .fields fs ∧ ¬ CodeO o) (hnew : ∀ b ∈ wr, B.free b)
    (kp : ∀ b o, b ∉ wr → h.get? b = some o → h'.get? b = some o) : Sim B env ρ st H h' ∧ DKeep ⟨H.hs, X ++ H.xs⟩ h ⟨H.hs, X ++ H.xs⟩ h' := by
  have noF : ∀ b o, h.get? b = some o → b ∉ X → (∀ fs, o.data ≠ .fields fs) → b ∉ wr := fun b o ho hb hn hw => by
    obtain ⟨o', fs, ho', hd, _⟩ := hwr b hw hb
    rw [ho] at ho'; cases ho'; exact hn fs hd
  have noC : ∀ b o, b ∈ wr → h.get? b = some o → ¬ CodeO o := fun b o hw e => by
    by_cases hx : b ∈ X
    · obtain ⟨o', ho', hs'⟩ := S.sto.live _ (.inr (List.mem_append_left _ hx)); rw [e] at ho'; cases ho'; exact seq_notCode hs'
    · obtain ⟨o', fs, ho', _, hc⟩ := hwr b hw hx
      rw [e] at ho'; cases ho'; exact hc
  have seqNF : ∀ {o : Obj}, IsSeq o → ∀ fs, o.data ≠ .fields fs := fun ⟨_, _, e⟩ fs e' => by rw [e] at e'; cases e'
  have dk : DKeep ⟨H.hs, X ++ H.xs⟩ h ⟨H.hs, X ++ H.xs⟩ h' := ⟨⟨[], by simp⟩, fun _ h1 h2 => absurd h1 h2, fun b o hb hq e => kp b o (noF b o e (fun hx => hb (.inr (List.mem_append_left _ hx))) (seqNF hq)) e⟩
  have le : ∀ a ∈ H.xs, a ∈ X ++ H.xs := fun a ha => List.mem_append_right _ ha
  have notX : ∀ {b : Addr} {o : Obj}, h.get? b = some o → ¬ IsSeq o → b ∉ X := fun ho hn hx => by
    obtain ⟨o', ho', hs'⟩ := S.sto.live _ (.inr (List.mem_append_left _ hx))
    rw [ho] at ho'; cases ho'; exact hn hs'
  have kc : ∀ {c : Addr} {v : Option Value}, h.IsCell c v → h'.IsCell c v := fun ⟨o, ho, hd⟩ => ⟨o, kp _ o (noF _ o ho (notX ho (by rintro ⟨_, _, e⟩; rw [hd] at e; cases e)) (by intro fs e; rw [hd] at e; cases e)) ho, hd⟩
  refine ⟨⟨⟨fun b o e => kp b o (fun hw => (hnew b hw).no e) (S.base.keep b o e), fun a ha => S.base.new a (ha.elim .inl fun h => .inr (le a h)), tabs_ne S.base.tab (W := (· ∈ wr)) kp (fun b hb => (hnew b hb).2) noC⟩, ⟨S.sto.len, S.sto.nd, fun k a l ha hl => ?_, fun a ha => ?_, fun a ha => S.sto.dj a (le a ha)⟩, S.en.kind, S.en.gl, S.en.bi, ?_, fun y v hy hv => ?_, fun y c hc => ?_, S.en.has, S.en.apart⟩, dk⟩
  · obtain ⟨vs, m, ho, hr⟩ := S.sto.at_ k a l ha hl
    exact ⟨vs, m, kp a _ (noF a _ ho (fun hx => hX a hx (.inl (List.mem_of_getElem? ha))) (seqNF (isSeq_lis ..))) ho, (hr.ext dk).dropX⟩
  · obtain ⟨o, ho, hs⟩ := S.sto.live a (ha.elim .inl fun h => .inr (le a h))
    exact ⟨o, kp a o (noF a o ho (fun hx => hX a hx ha) (seqNF hs)) ho, hs⟩
  · obtain ⟨m, hm, hr⟩ := S.en.loc
    refine ⟨m, hm.at' fun o e => kp _ o ?_ e, fun y v hy hv => let ⟨z, hz, r⟩ := hr y v hy hv; ⟨z, hz, (r.ext dk).dropX⟩⟩
    obtain ⟨o', es, ep, ho', hd, _⟩ := hm
    rw [e] at ho'; cases ho'
    exact noF _ o e (notX e (by rintro ⟨_, _, e⟩; rw [hd] at e; cases e)) (by intro fs e; rw [hd] at e; cases e)
  · obtain ⟨c, z, h1, h2, h3⟩ := S.en.cell y v hy hv
    exact ⟨c, z, h1, kc h2, (h3.ext dk).dropX⟩
  · obtain ⟨v, hv⟩ := S.en.cells y c hc
    exact ⟨v, kc hv⟩

/-- more opaque things -/
theorem sim_more {B : Bs} {st : Store} {H : Hd} {h h' : Heap} {Y : List Addr} (S : SB B st H h) (kp : KH B h h') (hnew : ∀ a ∈ Y, h.get? a = none) (hlive : ∀ a ∈ Y, ∃ o, h'.get? a = some o ∧ IsSeq o) :
    SB B st ⟨H.hs, Y ++ H.xs⟩ h' ∧ DKeep H h ⟨H.hs, Y ++ H.xs⟩ h' := by
  have dk : DKeep H h ⟨H.hs, Y ++ H.xs⟩ h' := ⟨⟨[], by simp⟩, fun a ha hn => by
    rcases ha with ha | ha
    · exact absurd (.inl ha) hn
    · rcases List.mem_append.mp ha with ha | ha
      · exact hnew a ha
      · exact absurd (.inr ha) hn, fun b o _ hs e => kp.seq hs e⟩
  refine ⟨⟨⟨fun b o e => kp.keep b o (ex_h0 e) (S.base.keep b o e), fun a ha => ?_, kp.tab S.base.tab⟩, S.sto.len, S.sto.nd, fun k a l ha hl => ?_, fun a ha => ?_, fun a ha => ?_⟩, dk⟩
  · rcases ha with ha | ha
    · exact S.base.new a (.inl ha)
    · rcases List.mem_append.mp ha with ha | ha
      · exact S.base.free (hnew a ha)
      · exact S.base.new a (.inr ha)
  · obtain ⟨vs, m, ho, hr⟩ := S.sto.at_ k a l ha hl
    exact ⟨vs, m, kp.seq (isSeq_lis ..) ho, hr.ext dk⟩
  · rcases ha with ha | ha
    · obtain ⟨o, ho, hs⟩ := S.sto.live a (.inl ha); exact ⟨o, kp.seq hs ho, hs⟩
    · rcases List.mem_append.mp ha with ha | ha
      · exact hlive a ha
      · obtain ⟨o, ho, hs⟩ := S.sto.live a (.inr ha); exact ⟨o, kp.seq hs ho, hs⟩
  · rcases List.mem_append.mp ha with ha | ha
    · intro hm
      obtain ⟨o, ho, _⟩ := S.sto.live a (.inl hm)
      rw [hnew a ha] at ho; cases ho
    · exact S.sto.dj a ha
theorem EnvRep.ext {B : Bs} {env : Env} {ρ : Str → Option V} {H H' : Hd} {h h' : Heap} (x : EnvRep env ρ H h) (kp : KH B h h') (dk : DKeep H h H' h') : EnvRep env ρ H' h' :=
  ⟨x.kind, x.gl, x.bi, let ⟨m, hm, hr⟩ := x.loc; ⟨m, kp.ns hm, fun n v hn hv => let ⟨y, hy, r⟩ := hr n v hn hv; ⟨y, hy, r.ext dk⟩⟩,
    fun n v hn hv => let ⟨c, y, h1, h2, h3⟩ := x.cell n v hn hv; ⟨c, y, h1, kp.cell h2, h3.ext dk⟩, fun n c hn => let ⟨v, h2⟩ := x.cells n c hn; ⟨v, kp.cell h2⟩, x.has, x.apart⟩

theorem upd_lis {h : Heap} {l : Addr} {vs : Array Value} {n : Nat} (ho : h.get? l = some (lisObj vs n)) (f : Array Value → Array Value) : ∃ n', (h.update l (Obj.mapSeq f)).get? l = some (lisObj (f vs) n') :=
  ⟨_, Heap.get?_update_self _ ho rfl⟩

theorem wpAny_append_lis {prog : Program} {w : World} {A : Around} {E : Value → Shared → Prop} {s : Shared} {l : Addr} {items : Array Value} {n : Nat} {x : Value} {Q : Value → Shared → Prop} (ho : s.heap.get? l = some (lisObj items n)) (hsz : items.size ≤ sizeLine)
    (hQ : ∀ h' n', h'.get? l = some (lisObj (items.push x) n') → Heap.SameBut l s.heap h' → Q .none { s with heap := h' }) :
    wpAny (model prog w) A (call (.builtin "list.append") [.ref l, x]) Q E s := by
  refine wpAny_call_entry slot_list_append (isList_of ho).typeIs entry_list_append ?_ (args_list_append _ _)
  show wpAny _ _ (updateSeq l (·.push x) >>= fun _ => ret .none) _ _ s
  refine wpAny_bind ?_
  obtain ⟨n', hn'⟩ := upd_lis ho (·.push x)
  exact wpAny_updateSeq ho rfl (wpAny_pure ⟨.none, rfl, hQ _ n' hn' (Heap.SameBut.update ..)⟩)

/-- an opaque list was changed -/
theorem sim_acc {B : Bs} {env : Env} {ρ : Str → Option V} {st : Store} {H : Hd} {h h' : Heap} {D : Addr} {vs ws : Array Value} {n m : Nat} (S : Sim B env ρ st H h) (hD : D ∈ H.xs) (ho : h.get? D = some (lisObj vs n)) (ho' : h'.get? D = some (lisObj ws m))
    (kp : ∀ b o, b ≠ D → h.get? b = some o → h'.get? b = some o) : Sim B env ρ st H h' := by
  have dk : DKeep H h H h' := ⟨⟨[], by simp⟩, fun _ h1 h2 => absurd h1 h2, fun b o hb hq e => kp b o (fun e' => hb (e' ▸ .inr hD)) e⟩
  have ne : ∀ {b : Addr} {o : Obj}, h.get? b = some o → ¬ IsSeq o → b ≠ D := fun hb hn e => by subst e; rw [ho] at hb; cases hb; exact hn (isSeq_lis ..)
  have kc : ∀ {c : Addr} {v : Option Value}, h.IsCell c v → h'.IsCell c v := fun ⟨o, ho, hd⟩ => ⟨o, kp _ o (ne ho (by rintro ⟨_, _, e⟩; rw [hd] at e; cases e)) ho, hd⟩
  refine ⟨base_ne S.base (W := (· = D)) (fun b o hb e => kp b o hb e) (fun b hb => hb ▸ S.base.new _ (.inr hD)) (fun b o hb e => by subst hb; rw [ho] at e; cases e; exact seq_notCode (isSeq_lis ..)), ⟨S.sto.len, S.sto.nd, fun k a l ha hl => ?_, fun a ha => ?_, S.sto.dj⟩, S.en.kind, S.en.gl, S.en.bi, ?_, fun y v hy hv => ?_, fun y c hc => ?_, S.en.has, S.en.apart⟩
  · obtain ⟨us, q, ho, hr⟩ := S.sto.at_ k a l ha hl
    exact ⟨us, q, kp a _ (fun e => S.sto.dj _ hD (e ▸ List.mem_of_getElem? ha)) ho, hr.ext dk⟩
  · by_cases e : a = D
    · subst e; exact ⟨_, ho', isSeq_lis ..⟩
    · obtain ⟨o, ho, hs⟩ := S.sto.live a ha; exact ⟨o, kp a o e ho, hs⟩
  · obtain ⟨q, hm, hr⟩ := S.en.loc
    refine ⟨q, hm.at' fun o e => kp _ o ?_ e, fun y v hy hv => let ⟨z, hz, r⟩ := hr y v hy hv; ⟨z, hz, r.ext dk⟩⟩
    obtain ⟨o', es, ep, ho', hd, _⟩ := hm
    rw [e] at ho'; cases ho'
    exact ne e (by rintro ⟨_, _, e⟩; rw [hd] at e; cases e)
  · obtain ⟨c, z, h1, h2, h3⟩ := S.en.cell y v hy hv
    exact ⟨c, z, h1, kc h2, h3.ext dk⟩
  · obtain ⟨v, hv⟩ := S.en.cells y c hc
    exact ⟨v, kc hv⟩

theorem new_comp {prog : Program} {w : World} {A : Around} {E : Value → Shared → Prop} {s : Shared} {scope : Scope} {env : Env} {cl : List (Str × Addr)} {Q : Env → Shared → Prop}
    (hQ : ∀ h', h'.Ns s.heap.objs.size (fun _ => none) → CellsOk h' (s.heap.objs.size + 1) (cellsFrom (s.heap.objs.size + 1) scope.names []) → (∀ b o, s.heap.get? b = some o → h'.get? b = some o) →
      Q { scope, locals := s.heap.objs.size, globals := env.globals, cells := cellsFrom (s.heap.objs.size + 1) scope.names cl, qual := env.qual, func := none, code := env.code, frame := env.frame, builtins := env.builtins } { s with heap := h' }) :
    wpAny (model prog w) A (newFunctionEnv scope env.globals cl [] env.qual none .none (some env)) Q E s := by
  simp only [newFunctionEnv, Option.isSome_some, if_true]
  refine wpAny_bind (wpAny_alloc ?_)
  refine wpAny_bind (wpAny_layCells _ (fun name kind cells => by cases hkc : kind == NameKind.cell <;> simp [hkc]) _ _ _ _ ?_)
  have ok := cellsFrom_ok scope.names (s.heap.push { cls := .type "dict", data := .dict #[] }) (s.heap.objs.size + 1) [] ⟨fun _ _ hm => (nomatch hm), List.Pairwise.nil⟩ (by rw [Heap.size_push]; exact Nat.le_refl _)
  rw [Heap.size_push] at ok
  rw [show ({ s with heap := s.heap.push { cls := .type "dict", data := .dict #[] } } : Shared).heap.objs.size = s.heap.objs.size + 1 from Heap.size_push ..]
  refine wpAny_bind ?_
  rw [List.forIn_nil]
  refine wpAny_pure (wpAny_pure (hQ _ ((Heap.Ns.new s.heap (.type "dict")).keeps (pushCells_keeps _ _)) ok fun b o e => pushCells_keeps _ _ b o (Heap.get?_push_of_some _ e)))
end Mine

-- part Gw9
namespace Mine

/-- as CBody, the turn's rest with its `again` -/
def RBody (B : Bs) (n : Nat) (cenv : Env) (xs : List Str) (D : Addr) (st : Store) (ρ ρ₀ : Str → Option V) (t : Sem PySem.Fin) (c : Code) (out : List V) : Prop :=
  ∀ A, Rm n A → Own B cenv xs → ∀ E s H ys, D ∈ H.xs → ¬ wrt cenv xs D → Sim B cenv ρ st H s.heap → AccAt D ys H s.heap → ys.length + out.length ≤ sizeLine →
    wpAny (model B.prog B.w) A t (fun fin s' => fin = .again c ∧ ∃ h' tk, s' = { s with heap := h', toks := tk } ∧ Sim B cenv ρ₀ st H h' ∧ AccAt D (ys ++ out) H h' ∧ ∀ b o, b ≠ D → ¬ wrt cenv xs b → ¬ Ex B b o → s.heap.get? b = some o → h'.get? b = some o) E s

section
variable {B : Bs} {n : Nat} {st : Store}

theorem AccAt.ext {D : Addr} {ys : List V} {H : Hd} {h h' : Heap} (x : AccAt D ys H h) (dk : DKeep H h H h') (hD : ∀ o, IsSeq o → h.get? D = some o → h'.get? D = some o) : AccAt D ys H h' :=
  let ⟨vs, m, ho, hr⟩ := x; ⟨vs, m, hD _ (isSeq_lis ..) ho, hr.ext dk⟩

theorem comp_loop {A : Around} (hA : Rm n A) {R : Result → Shared → Prop} {s : Shared} {c : Code} {p : Pos} {target : Expr} {it : Value} {cenv : Env} {rest : Sem PySem.Fin} {vs : List V} {Cond : Store → Prop} {Tg : Expr → Prop} {X wr fp : List Addr} {St : Hd → Nat → Heap → Prop} {xs : List Str} {D : Addr} {H : Hd} {ρ₀ : Str → Option V} {ys₀ : List V}
    (hq : c.quiet = true)
    (hden : ∀ (Q : PySem.Fin → Shared → Prop) (E : Value → Shared → Prop) s, wpAny (model B.prog B.w) A ((do
      standAt p
      match ← pyNext it with
      | none => pure (.done .next)
      | some v => do
        letOwnedTupleGo target it v
        assign target cenv v
        rest : Sem PySem.Fin).onRaise (fun x => do noteFrame x cenv; theTreesLotGoes x)) Q E s → wpAny (model B.prog B.w) (A.under c) ((model B.prog B.w).den c) Q E s)
    (IT : Iter B n it vs Cond Tg X wr fp St) (hc : Cond st) (htg : Tg target) (outs : List (List V)) (hlen : outs.length = vs.length)
    (turn : ∀ (i : Nat) v out, vs[i]? = some v → outs[i]? = some out → ∃ ρ', PA B n cenv st target v xs ρ₀ ρ' ∧ RBody B n cenv xs D st ρ' ρ₀ rest c out)
    (O : Own B cenv xs) (hD : D ∈ H.xs) (hDw : ¬ wrt cenv xs D) (hDfp : D ∉ fp) (hX : ∀ a ∈ X, ¬ H.has a) (hfpw : ∀ b ∈ fp, ¬ wrt cenv xs b) (hfpT : ∀ b ∈ fp, ¬ B.isT b) (hnew : ∀ b ∈ wr, B.free b)
    (S : Sim B cenv ρ₀ st ⟨H.hs, X ++ H.xs⟩ s.heap) (acc : AccAt D ys₀ ⟨H.hs, X ++ H.xs⟩ s.heap) (hst : St ⟨H.hs, X ++ H.xs⟩ 0 s.heap) (hsz : (ys₀ ++ outs.flatten).length ≤ sizeLine)
    (hR : ∀ h' tk, Sim B cenv ρ₀ st H h' → AccAt D (ys₀ ++ outs.flatten) H h' → (∀ b o, b ≠ D → b ∉ wr → ¬ wrt cenv xs b → ¬ Ex B b o → s.heap.get? b = some o → h'.get? b = some o) → R (.ok .next) { s with heap := h', toks := tk }) :
    codeAny (model B.prog B.w) A c R s := by
  refine codeAny_loop hq (fun k s' => ∃ h tk i, s' = { s with heap := h, toks := tk } ∧ k = vs.length + 1 - i ∧ i ≤ vs.length ∧ Sim B cenv ρ₀ st ⟨H.hs, X ++ H.xs⟩ h ∧ St ⟨H.hs, X ++ H.xs⟩ i h ∧ AccAt D (ys₀ ++ (outs.take i).flatten) ⟨H.hs, X ++ H.xs⟩ h ∧
    ∀ b o, b ≠ D → b ∉ wr → ¬ wrt cenv xs b → ¬ Ex B b o → s.heap.get? b = some o → h.get? b = some o) ?_ (vs.length + 1) ⟨s.heap, s.toks, 0, rfl, rfl, Nat.zero_le _, S, hst, by simpa using acc, fun _ _ _ _ _ _ e => e⟩
  rintro k s' ⟨h, tk, i, rfl, rfl, hi, S', hst', acc', kp⟩
  refine hden _ _ _ (wpAny_noted (wpAny_bind (wpAny_standAt (wpAny_bind ?_))))
  have hwr : ∀ b ∈ wr, b ∉ X → ∃ o fs, h.get? b = some o ∧ o.data = .fields fs ∧ ¬ CodeO o := fun b hb hx => by
    obtain ⟨o, ho, hf⟩ := IT.wrObj _ _ _ b hst' (IT.sub b hb)
    obtain ⟨⟨fs, hfs⟩, hc⟩ := hf hb hx
    exact ⟨o, fs, ho, hfs, hc⟩
  have hDwr : D ∉ wr := fun hw => hDfp (IT.sub D hw)
  have hXH : ∀ a ∈ X, (⟨H.hs, X ++ H.xs⟩ : Hd).has a := fun a ha => .inr (List.mem_append_left _ ha)
  have le : ∀ a ∈ H.xs, a ∈ X ++ H.xs := fun a ha => List.mem_append_right _ ha
  cases hv : vs[i]? with
  | none =>
    have hlen : i = vs.length := Nat.le_antisymm hi (List.getElem?_eq_none_iff.mp hv)
    subst hlen
    refine wpAny_mono (IT.done A hA _ { s with heap := h, toks := tk } ⟨H.hs, X ++ H.xs⟩ st (fun s₁ => R (.ok .next) s₁) hc S'.sb hXH hst' fun h' tk' kp' => ?_) (fun r s₁ ⟨e, q⟩ => ?_) fun _ _ e => e
    · obtain ⟨S₁, dk⟩ := sim_wr0 S' hX hwr hnew kp'
      refine hR h' tk' S₁ ?_ fun b o hb hw ht hx e => kp' b o hw (kp b o hb hw ht hx e)
      obtain ⟨zs, m, ho, hr⟩ := acc'
      rw [← hlen, List.take_length] at hr
      exact ⟨zs, m, kp' D _ hDwr ho, (hr.ext dk).dropX⟩
    · subst e; exact wpAny_pure q
  | some v =>
    have hlt : i < vs.length := (List.getElem?_eq_some_iff.mp hv).1
    have hout : outs[i]? = some (outs[i]'(hlen ▸ hlt)) := List.getElem?_eq_getElem _
    generalize outs[i]'(hlen ▸ hlt) = out at hout
    obtain ⟨ρ', pa, rb⟩ := turn i v out hv hout
    have htake : outs.take (i + 1) = outs.take i ++ [out] := by rw [List.take_add_one, hout]; rfl
    have key : ∀ (Post : PySem.Fin → Shared → Prop) (EE : Value → Shared → Prop), (∀ h₃ tk₃, Sim B cenv ρ₀ st ⟨H.hs, X ++ H.xs⟩ h₃ → St ⟨H.hs, X ++ H.xs⟩ (i + 1) h₃ → AccAt D (ys₀ ++ (outs.take (i + 1)).flatten) ⟨H.hs, X ++ H.xs⟩ h₃ →
        (∀ b o, b ≠ D → b ∉ wr → ¬ wrt cenv xs b → ¬ Ex B b o → h.get? b = some o → h₃.get? b = some o) → Post (.again c) { s with heap := h₃, toks := tk₃ }) →
        wpAny (model B.prog B.w) A (pyNext it) (fun r s₁ => ∃ x, r = some x ∧ wpAny (model B.prog B.w) A (letOwnedTupleGo target it x) (fun _ s₂ => wpAny (model B.prog B.w) A (assign target cenv x) (fun _ s₃ => wpAny (model B.prog B.w) A rest Post EE s₃) EE s₂) EE s₁) EE { s with heap := h, toks := tk } := by
      intro Post EE hp
      refine IT.item A hA EE { s with heap := h, toks := tk } ⟨H.hs, X ++ H.xs⟩ st i v target (fun x s₂ => wpAny (model B.prog B.w) A (assign target cenv x) (fun _ s₃ => wpAny (model B.prog B.w) A rest Post EE s₃) EE s₂) hc htg S'.sb hXH hst' hv fun x h₁ tk₁ hst₁ kp₁ r₁ => ?_
      have hXl : ∀ b ∈ X, (∃ o, h.get? b = some o ∧ IsSeq o) ∧ ∃ o, h₁.get? b = some o ∧ IsSeq o := fun b hb => ⟨IT.xObj _ _ _ b hst' hb, IT.xObj _ _ _ b hst₁ hb⟩
      obtain ⟨S₁, dk₁⟩ := sim_wr S' (X := X) (fun a ha => ⟨List.mem_append_left _ ha, fun hm => hX a ha (.inl hm)⟩) hwr hXl hnew kp₁
      have acc₁ := acc'.ext dk₁ (fun o _ e => kp₁ D o hDwr e)
      refine wpAny_mono (pa A hA O _ _ _ x S₁ r₁) (fun _ s₂ q₂ => ?_) fun _ _ e => e
      obtain ⟨h₂, tk₂, rfl, S₂, kp₂⟩ := q₂
      have dk₂ := wrt_dk S₁.en kp₂
      have acc₂ := acc₁.ext dk₂ (fun o _ e => kp₂ D o hDw e)
      have hst₂ := IT.frame _ _ _ _ _ hst₁ dk₂ fun b hb o e => kp₂ b o (hfpw b hb) e
      refine wpAny_mono (rb A hA O _ _ _ _ (le D hD) hDw S₂ acc₂ ?_) (fun fin s₃ q₃ => ?_) fun _ _ e => e
      · have e1 : (outs.flatten).length = ((outs.take (i + 1)).flatten).length + ((outs.drop (i + 1)).flatten).length := by
          rw [← List.length_append, ← List.flatten_append, List.take_append_drop]
        rw [htake, List.flatten_append, List.length_append] at e1
        simp only [List.flatten_cons, List.flatten_nil, List.append_nil, List.length_append] at e1 hsz ⊢
        omega
      · obtain ⟨rfl, h₃, tk₃, rfl, S₃, acc₃, kp₃⟩ := q₃
        refine hp h₃ tk₃ S₃ ?_ ?_ fun b o hb hw ht hx e => kp₃ b o hb ht hx (kp₂ b o ht (kp₁ b o hw e))
        · refine IT.frame _ _ _ _ _ hst₂ ?_ fun b hb o e => kp₃ b o (fun e' => hDfp (e' ▸ hb)) (hfpw b hb) (fun hx => hfpT b hb hx.1) e
          exact ⟨⟨[], by simp⟩, fun _ h1 h2 => absurd h1 h2, fun b o hb hq e => kp₃ b o (fun e' => hb (e' ▸ .inr (le D hD))) (fun hw => S₂.en.notSeq hw e hq) (ex_seq hq) e⟩
        · rw [htake, List.flatten_append, ← List.append_assoc]
          simpa using acc₃
    have key2 := key (fun fin s' => ∃ h₃ tk₃, fin = .again c ∧ s' = { s with heap := h₃, toks := tk₃ } ∧ Sim B cenv ρ₀ st ⟨H.hs, X ++ H.xs⟩ h₃ ∧ St ⟨H.hs, X ++ H.xs⟩ (i + 1) h₃ ∧ AccAt D (ys₀ ++ (outs.take (i + 1)).flatten) ⟨H.hs, X ++ H.xs⟩ h₃ ∧ (∀ b o, b ≠ D → b ∉ wr → ¬ wrt cenv xs b → ¬ Ex B b o → h.get? b = some o → h₃.get? b = some o)) (notedBy (model B.prog B.w) A cenv fun e s' => R (Except.error e) s') fun h₃ tk₃ S₃ hst₃ acc₃ kp₃ => ⟨h₃, tk₃, rfl, rfl, S₃, hst₃, acc₃, kp₃⟩
    refine wpAny_mono key2 (fun r s₁ hr => ?_) fun _ _ e => e
    obtain ⟨x, e, q⟩ := hr
    subst e
    refine wpAny_bind (wpAny_mono q (fun _ s₂ q₂ => wpAny_bind (wpAny_mono q₂ (fun _ s₃ q₃ => wpAny_mono q₃ (fun fin s₄ q₄ => ?_) fun _ _ e => e) fun _ _ e => e)) fun _ _ e => e)
    obtain ⟨h₃, tk₃, rfl, rfl, S₃, hst₃, acc₃, kp₃⟩ := q₄
    exact ⟨rfl, vs.length + 1 - (i + 1), by omega, h₃, tk₃, i + 1, rfl, rfl, hlt, S₃, hst₃, acc₃, fun b o hb hw ht hx e => kp₃ b o hb hw ht hx (kp b o hb hw ht hx e)⟩

/-- tests, then the element is put onto the list -/
theorem rb_emit {cenv : Env} {xs : List Str} {D : Addr} {ρ ρ₀ : Str → Option V} {ifs : List Expr} {elt : Expr} {c : Code} {p : Bool} {v : V} (h1 : PTs B n cenv ρ st ifs p) (h2 : p = true → PE B n cenv ρ st elt v) (hw : ∀ y v, ρ₀ y = some v → ρ y = some v) :
    RBody B n cenv xs D st ρ ρ₀ (do
        let mut ok := true
        for c in ifs do
          if ok then ok ← isTrue c cenv (eval c cenv)
        if ok then
          (do let _ ← call (.builtin "list.append") [.ref D, ← eval elt cenv])
        again c) c (if p then [v] else []) := fun A hA O E s H ys hD hDw S acc hsz => by
  refine wpAny_bind (wpAny_mono (h1 A hA _ s H S) (fun ok s₁ ⟨e, k1⟩ => ?_) fun _ _ e => e)
  subst e
  have S₁ := S.keeps (kp_get k1)
  have acc₁ := acc.ext (kp_dk k1 H) (fun o hs e => (kp_get k1).seq hs e)
  cases ok with
  | false =>
    obtain ⟨h', tk, rfl, kp⟩ := k1
    exact wpAny_pure ⟨rfl, h', tk, rfl, S₁.weaken hw, by simpa using acc₁, fun b o _ _ hx e => kp.keep b o hx e⟩
  | true =>
    refine wpAny_bind (wpAny_bind (wpAny_mono (h2 rfl A hA _ s₁ H S₁) (fun x s₂ ⟨k2, r2⟩ => ?_) fun _ _ e => e))
    have S₂ := S₁.keeps (kp_get k2)
    obtain ⟨vs, m, ho, hr⟩ := acc₁.ext (kp_dk k2 H) (fun o hs e => (kp_get k2).seq hs e)
    have hsize := hr.size
    have ho' : s₂.heap.IsList D vs := isList_of ho
    have hszv : vs.size ≤ sizeLine := by simp at hsz; omega
    refine wpAny_bind (wpAny_append_lis ho hszv fun h₃ m' ho₃ hs₃ => wpAny_pure (wpAny_pure ⟨rfl, ?_⟩))
    obtain ⟨h₂, tk₂, e2, kp⟩ := kp_trans k1 k2
    subst e2
    have dk : DKeep H h₂ H h₃ := ⟨⟨[], by simp⟩, fun _ h1 h2 => absurd h1 h2, fun b o hb hq e => hs₃.extBut b o (fun e' => hb (e' ▸ .inr hD)) e⟩
    have kp3 : ∀ b o, b ≠ D → h₂.get? b = some o → h₃.get? b = some o := fun b o hb e => hs₃.extBut b o hb e
    refine ⟨h₃, tk₂, rfl, ?_, ?_, fun b o hb _ hx e => kp3 b o hb (kp.keep b o hx e)⟩
    · exact (sim_acc S₂ hD ho ho₃ kp3).weaken hw
    · exact ⟨vs.push x, m', ho₃, by simpa using (hr.append (RepAll.one r2)).ext dk⟩
end
end Mine

-- part Gw10
namespace Mine

theorem relabel_own {scope : Scope} {env : Env} {x : Str} {k : NameKind} (hx : scope.names.lookup x = some k) (hk : k ≠ .free) : (relabel scope env).names.lookup x = some k := by
  unfold relabel
  revert hx
  generalize scope.names = l
  induction l with
  | nil => intro h; simp at h
  | cons y r ih =>
    obtain ⟨m, j⟩ := y
    intro h
    by_cases hx : (x == m) = true
    · rw [List.lookup_cons, hx] at h
      cases h
      have hj : (k == NameKind.free && env.scope.kind == .function && env.kindOf m == some .cell) = false := by
        have : (k == NameKind.free) = false := by simpa using hk
        rw [this]; rfl
      rw [List.map_cons]
      simp only [hj, Bool.false_eq_true, if_false, List.lookup_cons, hx]
    · have hx' : (x == m) = false := by simpa using hx
      rw [List.lookup_cons, hx'] at h
      rw [List.map_cons]
      by_cases hc : (j == NameKind.free && env.scope.kind == .function && env.kindOf m == some .cell) = true
      · simp only [hc, if_true, List.lookup_cons, hx']; exact ih h
      · simp only [hc, Bool.false_eq_true, if_false, List.lookup_cons, hx']; exact ih h

theorem wrt_comp {scope : Scope} {env : Env} {C : Addr} {xs : List Str} (f2 : (scope.names.map (·.1)).Nodup) (hxs : ∀ x ∈ xs, scope.names.lookup x = some .local ∨ scope.names.lookup x = some .cell) {h' : Heap} (hcs : CellsOk h' (C + 1) (cellsFrom (C + 1) scope.names [])) {b : Addr}
    (hb : wrt (cEnv scope C env) xs b) : C ≤ b := by
  rcases hb with e | ⟨x, hx, hk, hc⟩
  · exact e ▸ Nat.le_refl _
  · rcases hxs x hx with h | h
    · have : (cEnv scope C env).kindOf x = some .local := relabel_own h (by simp)
      rw [hk] at this; cases this
    · have hc' : (cellsFrom (C + 1) scope.names (closOf env scope.names [])).lookup x = some b := hc
      rw [cellsFrom_app, List.lookup_append] at hc'
      obtain ⟨c, hcc⟩ := cellsFrom_has (m := C + 1) (mem_of_lookup h)
      rw [hcc] at hc'
      cases hc'
      exact Nat.le_trans (Nat.le_succ _) (hcs.empty x b (mem_of_lookup hcc)).2

section
variable {B : Bs} {n : Nat} {env : Env} {ρ : Str → Option V} {st : Store}

/-- a comprehension with one clause, up to its end -/
theorem comp_block1 {A : Around} (hA : Rm n A) {E : Value → Shared → Prop} {s : Shared} {H : Hd} {elt target iter : Expr} {ifs : List Expr} {scope : Scope} {pos : Pos} {RR : Value → Addr → Result → Shared → Prop} {vs : List V} {Cond : Store → Prop} {Tg : Expr → Prop} {pl : Bool} {xs : List Str}
    (S : Sim B env ρ st H s.heap) (hiter : PI B n env ρ st iter vs Cond Tg pl) (htg : Tg target) (ok : okScope env scope = true) (hxs : ∀ x ∈ xs, scope.names.lookup x = some .local ∨ scope.names.lookup x = some .cell) (outs : List (List V)) (hlen : outs.length = vs.length)
    (hturn : ∀ (i : Nat) v out, vs[i]? = some v → outs[i]? = some out → ∀ C, ∃ ρ' p w, PA B n (cEnv scope C env) st target v xs (restr scope ρ) ρ' ∧ PTs B n (cEnv scope C env) ρ' st ifs p ∧ (p = true → PE B n (cEnv scope C env) ρ' st elt w) ∧ out = (if p then [w] else []) ∧ ∀ y u, restr scope ρ y = some u → ρ' y = some u)
    (hsz : (outs.flatten).length ≤ sizeLine)
    (hRR : ∀ D C h' tk m, s.heap.get? D = none → s.heap.get? C = none → D ≠ C → h'.Ns C m → AccAt D (outs.flatten) ⟨H.hs, [D] ++ H.xs⟩ h' → KH B s.heap h' → RR (.ref D) C (.ok .next) { s with heap := h', toks := tk }) :
    wpAny (model B.prog B.w) A (eval iter env) (fun xv s₁ => wpAny (model B.prog B.w) A (pyIter xv) (fun it s₂ => wpAny (model B.prog B.w) A (newList []) (fun acc s₃ => wpAny (model B.prog B.w) A (newFunctionEnv scope env.globals (closOf env scope.names []) [] env.qual none .none (some env)) (fun cenv s₄ =>
      codeAny (model B.prog B.w) A (.compStart (.ListComp elt [⟨target, iter, ifs, 0⟩] scope pos) 0 it acc { cenv with scope := relabel scope env }) (RR acc cenv.locals) s₄) E s₃) E s₂) E s₁) E s := by
  refine wpAny_mono (hiter A hA E s H S) (fun xv s₁ ⟨k1, q1⟩ => wpAny_mono q1 (fun it s₂ q2 => ?_) fun _ _ e => e) fun _ _ e => e
  obtain ⟨k2, X, wr, fp, St, IT, hc, _, hst, hnew⟩ := q2
  obtain ⟨f1, f2, f3⟩ := okScope_facts ok
  refine wpAny_newObj_type (new_comp fun h₄ hns hcs kp4 => ?_) (Nat.zero_le _)
  have k3 := kp_push (B := B) s₂ { cls := .type "list", data := .seq ([] : List Value).toArray }
  have hszp : (s₂.heap.push { cls := .type "list", data := .seq ([] : List Value).toArray }).objs.size = s₂.heap.objs.size + 1 := Heap.size_push ..
  generalize hC : (s₂.heap.push { cls := .type "list", data := .seq ([] : List Value).toArray }).objs.size = C at hns hcs hszp ⊢
  have kp24 : ∀ b o, s₂.heap.get? b = some o → h₄.get? b = some o := fun b o e => kp4 b o (Heap.get?_push_of_some _ e)
  have kp04 : KH B s.heap h₄ := (kp_get k2).trans (.of kp24)
  have hDacc : h₄.get? s₂.heap.objs.size = some (lisObj #[] 0) := kp4 _ _ (Heap.get?_push_size _ rfl)
  have none2 : ∀ a, s₂.heap.objs.size ≤ a → s.heap.get? a = none := fun a ha => new_none k2 ha
  have lt2 : ∀ b o, s₂.heap.get? b = some o → b ≠ s₂.heap.objs.size ∧ b < C := fun b o e => ⟨Nat.ne_of_lt (Heap.lt_size e), by rw [hszp]; exact Nat.lt_succ_of_lt (Heap.lt_size e)⟩
  -- the store with the iterator's opaque things and the growing list
  have live2 : ∀ b, b ∈ fp ∨ b ∈ X → ∃ o, s₂.heap.get? b = some o := fun b hb => by
    rcases hb with hb | hb
    · obtain ⟨o, ho, _⟩ := IT.wrObj _ _ _ b hst hb; exact ⟨o, ho⟩
    · obtain ⟨o, ho, _⟩ := IT.xObj _ _ _ b hst hb; exact ⟨o, ho⟩
  have dist : ∀ b, b ∈ fp ∨ b ∈ X → b ≠ s₂.heap.objs.size ∧ b < C := fun b hb => by
    obtain ⟨o, ho⟩ := live2 b hb; exact lt2 b o ho
  obtain ⟨SB1, dk1⟩ := sim_more (Y := X ++ [s₂.heap.objs.size]) S.sb kp04 (fun a ha => by
      rcases List.mem_append.mp ha with ha | ha
      · exact hnew a (.inr ha)
      · cases List.mem_singleton.mp ha; exact none2 _ (Nat.le_refl _)) (fun a ha => by
      rcases List.mem_append.mp ha with ha | ha
      · obtain ⟨o, ho, hs⟩ := IT.xObj _ _ _ a hst ha
        exact ⟨o, kp24 _ _ ho, hs⟩
      · cases List.mem_singleton.mp ha; exact ⟨_, hDacc, isSeq_lis ..⟩)
  rw [List.append_assoc] at SB1 dk1
  have E1 : EnvRep (cEnv scope C env) (restr scope ρ) ⟨H.hs, X ++ ([s₂.heap.objs.size] ++ H.xs)⟩ h₄ := by
    refine env_comp (C := C) (h := s₂.heap) (h' := h₄) (H := ⟨H.hs, X ++ ([s₂.heap.objs.size] ++ H.xs)⟩) (S.en.ext (kp_get k2) ?_) ok kp24 (by rw [hszp]; exact Nat.le_succ _) hns hcs
    exact ⟨dk1.pre, dk1.new, fun b o _ hs e => (kp_get k2).seq hs e⟩
  have hcenv : ({ scope := relabel scope env, locals := C, globals := env.globals, cells := cellsFrom (C + 1) scope.names (closOf env scope.names []), qual := env.qual, func := none, code := env.code, frame := env.frame, builtins := env.builtins } : Env) = cEnv scope C env := rfl
  have own : Own B (cEnv scope C env) xs := ⟨fun b hb => by
    have hge := wrt_comp f2 hxs hcs hb
    refine (S.keeps (kp_get k2)).base.free ?_
    cases e : s₂.heap.get? b with
    | none => rfl
    | some o => exact absurd (Nat.lt_of_lt_of_le (lt2 b o e).2 hge) (Nat.lt_irrefl _)⟩
  have hDw : ¬ wrt (cEnv scope C env) xs s₂.heap.objs.size := fun hb => by
    have hge := wrt_comp f2 hxs hcs hb
    rw [hszp] at hge
    exact Nat.not_succ_le_self _ hge
  have hst4 : St ⟨H.hs, X ++ ([s₂.heap.objs.size] ++ H.xs)⟩ 0 h₄ := by
    refine IT.frame _ _ _ _ _ hst ?_ fun b hb o e => kp24 b o e
    refine ⟨⟨[], by simp⟩, fun a ha hn => ?_, fun b o _ _ e => kp24 b o e⟩
    rcases ha with ha | ha
    · exact absurd (.inl ha) hn
    · rcases List.mem_append.mp ha with ha | ha
      · exact absurd (.inr (List.mem_append_left _ ha)) hn
      · rcases List.mem_append.mp ha with ha | ha
        · cases List.mem_singleton.mp ha
          cases e : s₂.heap.get? s₂.heap.objs.size with
          | none => rfl
          | some o => exact absurd (Heap.lt_size e) (Nat.lt_irrefl _)
        · exact absurd (.inr (List.mem_append_right _ ha)) hn
  have loop : ∀ s₄ : Shared, s₄ = { s₂ with heap := h₄ } → codeAny (model B.prog B.w) A (.compLoop (.ListComp elt [⟨target, iter, ifs, 0⟩] scope pos) 0 it (.ref s₂.heap.objs.size) (cEnv scope C env)) (RR (.ref s₂.heap.objs.size) C) s₄ := by
    rintro s₄ rfl
    refine comp_loop (H := ⟨H.hs, [s₂.heap.objs.size] ++ H.xs⟩) (ys₀ := []) (D := s₂.heap.objs.size) (ρ₀ := restr scope ρ) (cenv := cEnv scope C env) (xs := xs) hA rfl (p := iter.pos) (rest := do
        let mut ok := true
        for c in ifs do
          if ok then ok ← isTrue c (cEnv scope C env) (eval c (cEnv scope C env))
        if ok then
          (do let _ ← call (.builtin "list.append") [.ref s₂.heap.objs.size, ← eval elt (cEnv scope C env)])
        again (.compLoop (.ListComp elt [⟨target, iter, ifs, 0⟩] scope pos) 0 it (.ref s₂.heap.objs.size) (cEnv scope C env))) (fun Q E s h => ?_) IT hc htg outs hlen (fun i v out hv ho => ?_) own (List.mem_append_left _ (List.mem_singleton.mpr rfl)) hDw (fun hm => (dist _ (.inl hm)).1 rfl) (fun a ha hh => ?_) (fun b hb hw => ?_) (fun b hb => ?_) (fun b hb => ?_) ⟨SB1.base, SB1.sto, E1⟩ ⟨#[], 0, hDacc, .nil⟩ hst4 (by simpa using hsz) (fun h' tk S' acc' kp' => ?_)
    · show wpAny _ A ((compTurn (.ListComp elt [⟨target, iter, ifs, 0⟩] scope pos) 0 it (.ref s₂.heap.objs.size) (cEnv scope C env)).onRaise (fun x => do noteFrame x (cEnv scope C env); theTreesLotGoes x)) _ _ _
      rw [compTurn_list]
      exact h
    · obtain ⟨ρ', p, w, h1, h2, h3, h4, h5⟩ := hturn i v out hv ho C
      exact ⟨ρ', h1, h4 ▸ rb_emit h2 h3 h5⟩
    · have d := dist a (.inr ha)
      have n := hnew a (.inr ha)
      rcases hh with hh | hh
      · obtain ⟨o, ho, _⟩ := S.sto.live a (.inl hh); rw [n] at ho; cases ho
      · rcases List.mem_append.mp hh with hh | hh
        · exact d.1 (List.mem_singleton.mp hh)
        · obtain ⟨o, ho, _⟩ := S.sto.live a (.inr hh); rw [n] at ho; cases ho
    · exact absurd (Nat.lt_of_lt_of_le (dist b (.inl hb)).2 (wrt_comp f2 hxs hcs hw)) (Nat.lt_irrefl _)
    · exact (S.base.free (hnew b (.inl hb))).2
    · exact S.base.free (hnew b (.inl (IT.sub b hb)))
    · obtain ⟨m, hm, _⟩ := S'.en.loc
      obtain ⟨h2', tk2, e2, _⟩ := id k2
      subst e2
      refine hRR _ C h' tk m (none2 _ (Nat.le_refl _)) (none2 _ (by rw [hszp]; exact Nat.le_succ _)) (by rw [hszp]; exact Nat.ne_of_lt (Nat.lt_succ_self _)) hm (by simpa using acc') ?_
      have kk : ∀ b o, ¬ Ex B b o → s.heap.get? b = some o → h'.get? b = some o := fun b o hx e => ?_
      · refine ⟨kk, fun _ => S'.base.tab, fun b o e => ?_⟩
        by_cases hx : Ex B b o
        · obtain ⟨⟨t, ht, rfl⟩, _⟩ := hx
          obtain ⟨ps, h1, _⟩ := S'.base.tab t ht
          exact ⟨_, h1⟩
        · exact ⟨o, kk b o hx e⟩
      have e4 := kp04.keep b o hx e
      have l2 := lt2 b o ((kp_get k2).keep _ _ hx e)
      refine kp' b o l2.1 (fun hw => ?_) (fun hw => ?_) hx e4
      · rw [hnew b (.inl (IT.sub b hw))] at e; cases e
      · exact absurd (Nat.lt_of_lt_of_le l2.2 (wrt_comp f2 hxs hcs hw)) (Nat.lt_irrefl _)
  show codeAny (model B.prog B.w) A (.compStart (.ListComp elt [⟨target, iter, ifs, 0⟩] scope pos) 0 it (.ref s₂.heap.objs.size) (cEnv scope C env)) _ _
  refine codeAny_compStart_list (loop _ rfl) (IT.self A hA _ _ ⟨H.hs, X ++ ([s₂.heap.objs.size] ++ H.xs)⟩ 0 _ hst4 (loop _ rfl))

theorem hnames_of {scope : Scope} (f2 : (scope.names.map (·.1)).Nodup) : ∀ x ∈ scope.names, x.2 = .local → scope.names.lookup x.1 = some .local := fun x hx hk => by
  obtain ⟨y, k⟩ := x
  have : k = .local := hk
  subst this
  exact lookup_of_mem f2 hx

theorem hclos_of {scope : Scope} {H : Hd} {h : Heap} (e : EnvRep env ρ H h) (ok : okScope env scope = true) : closureFor scope env = pure (closOf env scope.names []) :=
  closureFor_eq fun x hx hk => by
    obtain ⟨y, k⟩ := x
    have : k = .free := hk
    subst this
    exact e.has y ((okScope_facts ok).2.2 y hx)

theorem accAt_end {H : Hd} {s : Shared} {st : Store} {D C : Addr} {h' h'' : Heap} {m : Str → Option Value} {out : List V} (S : SimH H st s.heap) (hD : s.heap.get? D = none) (hDC : D ≠ C) (hn : h'.Ns C m) (acc : AccAt D out ⟨H.hs, [D] ++ H.xs⟩ h') (hs : Heap.SameBut C h' h'') :
    AccAt D out ⟨H.hs, [D] ++ H.xs⟩ h'' ∧ ¬ H.has D := by
  obtain ⟨vs, q, ho, hr⟩ := acc
  refine ⟨⟨vs, q, hs.extBut _ _ hDC ho, hr.ext ⟨⟨[], by simp⟩, fun _ h1 h2 => absurd h1 h2, fun b o _ hq e => hs.extBut b o (fun e' => ?_) e⟩⟩, fun hh => ?_⟩
  · subst e'
    obtain ⟨o', es, ep, ho', hd, _⟩ := hn
    rw [e] at ho'; cases ho'
    obtain ⟨_, _, hq⟩ := hq
    rw [hd] at hq; cases hq
  · obtain ⟨o, ho, _⟩ := S.live D hh
    rw [hD] at ho; cases ho

/-- a list comprehension with one clause -/
theorem pe_comp0 {elt target iter : Expr} {ifs : List Expr} {scope : Scope} {pos : Pos} {vs : List V} {Cond : Store → Prop} {Tg : Expr → Prop} {pl : Bool} {xs : List Str} (hiter : PI B n env ρ st iter vs Cond Tg pl) (htg : Tg target) (ok : okScope env scope = true) (hxs : ∀ x ∈ xs, scope.names.lookup x = some .local ∨ scope.names.lookup x = some .cell)
    (outs : List (List V)) (hlen : outs.length = vs.length)
    (hturn : ∀ (i : Nat) v out, vs[i]? = some v → outs[i]? = some out → ∀ C, ∃ ρ' p w, PA B n (cEnv scope C env) st target v xs (restr scope ρ) ρ' ∧ PTs B n (cEnv scope C env) ρ' st ifs p ∧ (p = true → PE B n (cEnv scope C env) ρ' st elt w) ∧ out = (if p then [w] else []) ∧ ∀ y u, restr scope ρ y = some u → ρ' y = some u)
    (hsz : (outs.flatten).length ≤ sizeLine) (hs : ∀ x, foldedSetIterable iter env x = pure x := by intro _; rfl) :
    PE B n env ρ st (.ListComp elt [⟨target, iter, ifs, 0⟩] scope pos) (.lst outs.flatten) := fun A hA E s H S => by
  obtain ⟨f1, f2, f3⟩ := okScope_facts ok
  rw [eval_ListComp]
  refine wpAny_comprehension_free (use := none) rfl hs (hclos_of S.en ok) f1 (hnames_of f2) (comp_block1 (RR := fun acc C => compPost (model B.prog B.w) A E none _ acc C) hA S hiter htg ok hxs outs hlen hturn hsz ?_)
  intro D C h' tk m hD hC hDC hn acc kp
  refine ⟨m, hn, fun h'' hs'' => ?_⟩
  obtain ⟨⟨vs', q, ho, hr⟩, hDH⟩ := accAt_end S.sto hD hDC hn acc hs''
  exact ⟨⟨h'', tk, rfl, kp.but hC hn hs''⟩, .lst hDH ho hr.dropX⟩

theorem pts_nil : PTs B n env ρ st [] true := fun A _ E s H _ => wpAny_tests_nil ⟨rfl, kp_refl _⟩
theorem pts_one {c : Expr} {b : Bool} (h : PT B n env ρ st c b) : PTs B n env ρ st [c] b := fun A hA E s H S => wpAny_tests_one (h A hA E s H S)

theorem flatten_if {α : Type} (p : α → Bool) (f : α → V) : ∀ as : List α, (as.map fun a => if p a then [f a] else []).flatten = (as.filter p).map f
  | [] => rfl
  | a :: as => by
    rw [List.map_cons, List.flatten_cons, flatten_if p f as]
    cases h : p a <;> simp [h]

/-- a comprehension over things of a type, with a test -/
theorem pe_compIf {α : Type} {elt target iter : Expr} {ifs : List Expr} {scope : Scope} {pos : Pos} {Cond : Store → Prop} {Tg : Expr → Prop} {pl : Bool} (xs : List Str) (as : List α) (c : α → V) (ρ' : α → Str → Option V) (p : α → Bool) (f : α → V) {vs : List V} (hiter : PI B n env ρ st iter vs Cond Tg pl) (hvs : vs = as.map c) (htg : Tg target) (ok : okScope env scope = true)
    (hxs : ∀ x ∈ xs, scope.names.lookup x = some .local ∨ scope.names.lookup x = some .cell)
    (hpa : ∀ a ∈ as, ∀ C, PA B n (cEnv scope C env) st target (c a) xs (restr scope ρ) (ρ' a)) (hw : ∀ a ∈ as, ∀ y u, restr scope ρ y = some u → ρ' a y = some u)
    (hp : ∀ a ∈ as, ∀ C, PTs B n (cEnv scope C env) (ρ' a) st ifs (p a)) (hf : ∀ a ∈ as, p a = true → ∀ C, PE B n (cEnv scope C env) (ρ' a) st elt (f a))
    (hsz : as.length ≤ sizeLine) (hs : ∀ x, foldedSetIterable iter env x = pure x := by intro _; rfl) :
    PE B n env ρ st (.ListComp elt [⟨target, iter, ifs, 0⟩] scope pos) (.lst ((as.filter p).map f)) := by
  subst hvs
  rw [← flatten_if]
  refine pe_comp0 hiter htg ok hxs _ (by simp) (fun i v out hv ho C => ?_) ?_ hs
  · rw [List.getElem?_map] at hv ho
    cases ha : as[i]? with
    | none => rw [ha] at hv; cases hv
    | some a =>
      rw [ha] at hv ho
      cases hv; cases ho
      have hm := List.mem_of_getElem? ha
      exact ⟨ρ' a, p a, f a, hpa a hm C, hp a hm C, fun h => hf a hm h C, rfl, hw a hm⟩
  · rw [flatten_if, List.length_map]; exact Nat.le_trans (List.length_filter_le _ _) hsz

theorem upd_weak {scope : Scope} {x : Str} {v : V} (hx : scope.names.lookup x = some .local ∨ scope.names.lookup x = some .cell) {ρ' : Str → Option V} (h : ∀ y u, restr scope ρ y = some u → ρ' y = some u) : ∀ y u, restr scope ρ y = some u → upd ρ' x v y = some u := fun y u hy => by
  unfold upd
  by_cases e : y = x
  · subst e
    unfold restr at hy
    rcases hx with hx | hx <;> simp [hx] at hy
  · rw [if_neg e]; exact h y u hy

theorem kind_comp {scope : Scope} {x : Str} {C : Addr} (hx : scope.names.lookup x = some .local ∨ scope.names.lookup x = some .cell) : (cEnv scope C env).kindOf x = some .local ∨ (cEnv scope C env).kindOf x = some .cell := by
  rcases hx with h | h
  · exact .inl (relabel_own h (by simp))
  · exact .inr (relabel_own h (by simp))

/-- one name as the target -/
theorem pe_compName {α : Type} {elt iter : Expr} {x : Str} {px : Pos} {ifs : List Expr} {scope : Scope} {pos : Pos} {Cond : Store → Prop} {Tg : Expr → Prop} {pl : Bool} (as : List α) (c : α → V) (p : α → Bool) (f : α → V) {vs : List V} (hiter : PI B n env ρ st iter vs Cond Tg pl) (hvs : vs = as.map c) (htg : Tg (.Name x px)) (ok : okScope env scope = true)
    (hx : scope.names.lookup x = some .local ∨ scope.names.lookup x = some .cell)
    (hp : ∀ a ∈ as, ∀ C, PTs B n (cEnv scope C env) (upd (restr scope ρ) x (c a)) st ifs (p a)) (hf : ∀ a ∈ as, p a = true → ∀ C, PE B n (cEnv scope C env) (upd (restr scope ρ) x (c a)) st elt (f a))
    (hsz : as.length ≤ sizeLine) (hs : ∀ x, foldedSetIterable iter env x = pure x := by intro _; rfl) :
    PE B n env ρ st (.ListComp elt [⟨.Name x px, iter, ifs, 0⟩] scope pos) (.lst ((as.filter p).map f)) :=
  pe_compIf [x] as c (fun a => upd (restr scope ρ) x (c a)) p f hiter hvs htg ok (fun y hy => by cases List.mem_singleton.mp hy; exact hx) (fun a _ C => pa_name (List.mem_singleton.mpr rfl) (kind_comp hx)) (fun a _ => upd_weak hx fun _ _ h => h) hp hf hsz hs
/-- two names as the target -/
theorem pe_compTwo {α : Type} {elt iter : Expr} {x y : Str} {px py pt : Pos} {kt : Nat} {ifs : List Expr} {scope : Scope} {pos : Pos} {Cond : Store → Prop} {Tg : Expr → Prop} {pl : Bool} (as : List α) (c d : α → V) (p : α → Bool) (f : α → V) {vs : List V} (hiter : PI B n env ρ st iter vs Cond Tg pl) (hvs : vs = as.map fun a => V.tup [c a, d a]) (htg : Tg (.Tuple [.Name x px, .Name y py] kt pt)) (ok : okScope env scope = true)
    (hx : scope.names.lookup x = some .local ∨ scope.names.lookup x = some .cell) (hy : scope.names.lookup y = some .local ∨ scope.names.lookup y = some .cell)
    (hp : ∀ a ∈ as, ∀ C, PTs B n (cEnv scope C env) (upd (upd (restr scope ρ) x (c a)) y (d a)) st ifs (p a)) (hf : ∀ a ∈ as, p a = true → ∀ C, PE B n (cEnv scope C env) (upd (upd (restr scope ρ) x (c a)) y (d a)) st elt (f a))
    (hsz : as.length ≤ sizeLine) (hs : ∀ x, foldedSetIterable iter env x = pure x := by intro _; rfl) :
    PE B n env ρ st (.ListComp elt [⟨.Tuple [.Name x px, .Name y py] kt pt, iter, ifs, 0⟩] scope pos) (.lst ((as.filter p).map f)) :=
  pe_compIf [x, y] as _ (fun a => upd (upd (restr scope ρ) x (c a)) y (d a)) p f hiter hvs htg ok (fun z hz => by simp at hz; rcases hz with rfl | rfl <;> assumption)
    (fun a _ C => pa_tuple (pas_cons (pa_name (by simp) (kind_comp hx)) (pas_cons (pa_name (by simp) (kind_comp hy)) pas_nil))) (fun a _ => upd_weak hy (upd_weak hx fun _ _ h => h)) hp hf hsz hs
end
end Mine

-- part Gw11
namespace Mine

/-- a call's or an expression's change: the handles from m on may be written -/
structure CS (B : Bs) (m : Nat) (H : Hd) (h : Heap) (H' : Hd) (h' : Heap) : Prop where
  pre : ∃ N, H'.hs = H.hs ++ N
  xs : H'.xs = H.xs
  new : ∀ a, H'.has a → ¬ H.has a → h.get? a = none
  keep : ∀ b o, (∀ k, m ≤ k → H.hs[k]? ≠ some b) → ¬ Ex B b o → h.get? b = some o → h'.get? b = some o

def own (env : Env) : List Addr := env.locals :: env.cells.map (·.2)

/-- a statement's change -/
structure ES (B : Bs) (env : Env) (m : Nat) (H : Hd) (h : Heap) (H' : Hd) (h' : Heap) : Prop where
  pre : ∃ N, H'.hs = H.hs ++ N
  xs : H'.xs = H.xs
  new : ∀ a, H'.has a → ¬ H.has a → h.get? a = none
  keep : ∀ b o, b ∉ own env → (∀ k, m ≤ k → H.hs[k]? ≠ some b) → ¬ Ex B b o → h.get? b = some o → h'.get? b = some o

theorem CS.refl {B : Bs} (m : Nat) (H : Hd) (h : Heap) : CS B m H h H h := ⟨⟨[], by simp⟩, rfl, fun _ a b => absurd a b, fun _ _ _ _ e => e⟩
theorem CS.of_keeps {B : Bs} {m : Nat} {H : Hd} {h h' : Heap} (kp : KH B h h') : CS B m H h H h' := ⟨⟨[], by simp⟩, rfl, fun _ a b => absurd a b, fun b o _ hx e => kp.keep b o hx e⟩
theorem SB.sb {B : Bs} {st : Store} {H : Hd} {h : Heap} (x : SB B st H h) : SB B st H h := x
theorem tab_live {B : Bs} {h : Heap} (T : TabsOk B h) {b : Addr} {o : Obj} (hx : Ex B b o) : ∃ o', h.get? b = some o' := by obtain ⟨⟨t, ht, rfl⟩, _⟩ := hx; obtain ⟨ps, h1, _⟩ := T t ht; exact ⟨_, h1⟩
theorem CS.es {B : Bs} {env : Env} {m : Nat} {H H' : Hd} {h h' : Heap} (x : CS B m H h H' h') : ES B env m H h H' h' := ⟨x.pre, x.xs, x.new, fun b o _ hm hx e => x.keep b o hm hx e⟩
theorem CS.dk {B : Bs} {m : Nat} {H H' : Hd} {h h' : Heap} (x : CS B m H h H' h') : DKeep H h H' h' := ⟨x.pre, x.new, fun b o hb hs e => x.keep b o (fun k _ hk => hb (.inl (List.mem_of_getElem? hk))) (ex_seq hs) e⟩

theorem later {m : Nat} {H H' : Hd} {h h' : Heap} {st' : Store} (pre : ∃ N, H'.hs = H.hs ++ N) (xs : H'.xs = H.xs) (new : ∀ a, H'.has a → ¬ H.has a → h.get? a = none) (S : SimH H' st' h') {b : Addr} {o : Obj} (hm : ∀ k, m ≤ k → H.hs[k]? ≠ some b) (e : h.get? b = some o) : ∀ k, m ≤ k → H'.hs[k]? ≠ some b := fun k hk he => by
  obtain ⟨N, hN⟩ := pre
  by_cases hlt : k < H.hs.length
  · rw [hN, List.getElem?_append_left hlt] at he; exact hm k hk he
  · have hb' : b ∉ H.hs := fun hb => by
      obtain ⟨j, hj⟩ := List.getElem?_of_mem hb
      have hjl := (List.getElem?_eq_some_iff.mp hj).1
      have hj' : H'.hs[j]? = some b := by rw [hN, List.getElem?_append_left hjl]; exact hj
      have hkl := (List.getElem?_eq_some_iff.mp he).1
      have := (List.getElem?_inj hkl S.nd).mp (he.trans hj'.symm)
      omega
    have hx : b ∉ H.xs := fun hx => S.dj b (xs ▸ hx) (List.mem_of_getElem? he)
    have := new b (.inl (List.mem_of_getElem? he)) (fun hh => hh.elim hb' hx)
    rw [e] at this; cases this

theorem CS.trans {B : Bs} {m : Nat} {H H' H'' : Hd} {h h' h'' : Heap} {st' : Store} (x : CS B m H h H' h') (y : CS B m H' h' H'' h'') (S : SB B st' H' h') : CS B m H h H'' h'' := by
  refine ⟨?_, y.xs.trans x.xs, fun a ha hn => ?_, fun b o hm hx e => y.keep b o (later x.pre x.xs x.new S.sto hm e) hx (x.keep b o hm hx e)⟩
  · obtain ⟨N, e⟩ := x.pre
    obtain ⟨N', e'⟩ := y.pre
    exact ⟨N ++ N', by rw [e', e, List.append_assoc]⟩
  · by_cases h1 : H'.has a
    · exact x.new a h1 hn
    · have q := y.new a ha h1
      cases e : h.get? a with
      | none => rfl
      | some o =>
        by_cases hx : Ex B a o
        · obtain ⟨o', e'⟩ := tab_live S.base.tab hx
          rw [q] at e'; cases e'
        · have := x.keep a o (fun k _ hk => hn (.inl (List.mem_of_getElem? hk))) hx e
          rw [q] at this; cases this

theorem ES.trans {B : Bs} {env : Env} {m : Nat} {H H' H'' : Hd} {h h' h'' : Heap} {st' : Store} (x : ES B env m H h H' h') (y : ES B env m H' h' H'' h'') (S : SB B st' H' h') (lv : ∀ a ∈ own env, ∃ o, h'.get? a = some o) : ES B env m H h H'' h'' := by
  refine ⟨?_, y.xs.trans x.xs, fun a ha hn => ?_, fun b o hb hm hx e => y.keep b o hb (later x.pre x.xs x.new S.sto hm e) hx (x.keep b o hb hm hx e)⟩
  · obtain ⟨N, e⟩ := x.pre
    obtain ⟨N', e'⟩ := y.pre
    exact ⟨N ++ N', by rw [e', e, List.append_assoc]⟩
  · by_cases h1 : H'.has a
    · exact x.new a h1 hn
    · have q := y.new a ha h1
      by_cases ho : a ∈ own env
      · obtain ⟨o, e⟩ := lv a ho
        rw [q] at e; cases e
      · cases e : h.get? a with
        | none => rfl
        | some o =>
          by_cases hx : Ex B a o
          · obtain ⟨o', e'⟩ := tab_live S.base.tab hx
            rw [q] at e'; cases e'
          · have := x.keep a o ho (fun k _ hk => hn (.inl (List.mem_of_getElem? hk))) hx e
            rw [q] at this; cases this

theorem EnvRep.live {env : Env} {ρ : Str → Option V} {H : Hd} {h : Heap} (x : EnvRep env ρ H h) : ∀ a ∈ own env, ∃ o, h.get? a = some o := fun a ha => by
  rcases List.mem_cons.mp ha with rfl | ha
  · obtain ⟨m, ⟨o, _, _, ho, _⟩, _⟩ := x.loc; exact ⟨o, ho⟩
  · obtain ⟨p, hp, rfl⟩ := List.mem_map.mp ha
    obtain ⟨v, o, ho, _⟩ := x.cells p.1 p.2 hp
    exact ⟨o, ho⟩
theorem EnvRep.ownNotSeq {env : Env} {ρ : Str → Option V} {H : Hd} {h : Heap} (x : EnvRep env ρ H h) {b : Addr} (hb : b ∈ own env) {o : Obj} (ho : h.get? b = some o) : ¬ IsSeq o := by
  rintro ⟨vs, n, hd⟩
  rcases List.mem_cons.mp hb with rfl | hb
  · obtain ⟨m, ⟨o', es, ep, ho', hd', _⟩, _⟩ := x.loc
    rw [ho] at ho'; cases ho'; rw [hd] at hd'; cases hd'
  · obtain ⟨p, hp, rfl⟩ := List.mem_map.mp hb
    obtain ⟨v, o', ho', hd'⟩ := x.cells p.1 p.2 hp
    rw [ho] at ho'; cases ho'; rw [hd] at hd'; cases hd'
theorem ES.dk {B : Bs} {env : Env} {ρ : Str → Option V} {m : Nat} {H H' : Hd} {h h' : Heap} (x : ES B env m H h H' h') (e : EnvRep env ρ H h) : DKeep H h H' h' :=
  ⟨x.pre, x.new, fun b o hb hq e' => x.keep b o (fun ho => e.ownNotSeq ho e' hq) (fun k _ hk => hb (.inl (List.mem_of_getElem? hk))) (ex_seq hq) e'⟩

theorem wrt_own {env : Env} {xs : List Str} {b : Addr} (h : wrt env xs b) : b ∈ own env := by
  rcases h with rfl | ⟨x, _, _, hc⟩
  · exact List.mem_cons_self
  · exact List.mem_cons_of_mem _ (List.mem_map.mpr ⟨_, mem_of_lookup hc, rfl⟩)

/-- the frame's objects are new upon the base -/
def OwnF (B : Bs) (env : Env) : Prop := ∀ b ∈ own env, B.free b
theorem OwnF.own {B : Bs} {env : Env} (h : OwnF B env) (xs : List Str) : Own B env xs := ⟨fun b hb => h b (wrt_own hb)⟩

inductive Fl where
  | next | brk | cont
  | ret (v : V)
inductive FlRep (H : Hd) (h : Heap) : Flow → Fl → Prop
  | next : FlRep H h .next .next
  | brk : FlRep H h .brk .brk
  | cont : FlRep H h .cont .cont
  | ret {x v} : Rep H h x v → FlRep H h (.ret x) (.ret v)

abbrev Nm := Str → Option V

/-- an expression that may make or change mutable lists -/
def PM (B : Bs) (n : Nat) (env : Env) (m : Nat) (ρ : Nm) (st : Store) (e : Expr) (Ψ : V → Store → Prop) : Prop :=
  ∀ A, Rm n A → ∀ E s H, Sim B env ρ st H s.heap →
    wpAny (model B.prog B.w) A (eval e env) (fun x s' => ∃ v st' H' h' tk, s' = { s with heap := h', toks := tk } ∧ Ψ v st' ∧ Sim B env ρ st' H' h' ∧ CS B m H s.heap H' h' ∧ Rep H' h' x v) E s

/-- a statement -/
def EX1 (B : Bs) (n : Nat) (env : Env) (m : Nat) (ρ : Nm) (st : Store) (c : Stmt) (Φ : Fl → Nm → Store → Prop) : Prop :=
  ∀ A, Rm n A → OwnF B env → ∀ E s H, Sim B env ρ st H s.heap →
    wpAny (model B.prog B.w) A (exec c env) (fun f s' => ∃ fl ρ' st' H' h' tk, s' = { s with heap := h', toks := tk } ∧ Φ fl ρ' st' ∧ FlRep H' h' f fl ∧ Sim B env ρ' st' H' h' ∧ ES B env m H s.heap H' h') E s
/-- statements -/
def EX (B : Bs) (n : Nat) (env : Env) (m : Nat) (ρ : Nm) (st : Store) (cs : List Stmt) (Φ : Fl → Nm → Store → Prop) : Prop :=
  ∀ A, Rm n A → OwnF B env → ∀ E s H, Sim B env ρ st H s.heap →
    wpAny (model B.prog B.w) A (execs cs env) (fun f s' => ∃ fl ρ' st' H' h' tk, s' = { s with heap := h', toks := tk } ∧ Φ fl ρ' st' ∧ FlRep H' h' f fl ∧ Sim B env ρ' st' H' h' ∧ ES B env m H s.heap H' h') E s

section
variable {B : Bs} {n : Nat} {env : Env} {m : Nat} {ρ : Nm} {st : Store} {Φ : Fl → Nm → Store → Prop}

theorem ES.refl (env : Env) (m : Nat) (H : Hd) (h : Heap) : ES B env m H h H h := (CS.refl m H h).es

theorem PE.pm {e : Expr} {v : V} {Ψ : V → Store → Prop} (h : PE B n env ρ st e v) (hp : Ψ v st) : PM B n env m ρ st e Ψ := fun A hA E s H S => by
  refine wpAny_mono (h A hA E s H S) (fun x s₁ ⟨k, r⟩ => ?_) fun _ _ e => e
  have S₁ := S.keeps (kp_get k)
  obtain ⟨h', tk, rfl, kp⟩ := k
  exact ⟨v, st, H, h', tk, rfl, hp, S₁, .of_keeps kp, r⟩

theorem ex_nil (h : Φ .next ρ st) : EX B n env m ρ st [] Φ := fun A hA O E s H S => wpAny_execs_nil ⟨.next, ρ, st, H, s.heap, s.toks, rfl, h, .next, S, .refl ..⟩

/-- what follows a statement -/
def Then (B : Bs) (n : Nat) (env : Env) (m : Nat) (rest : List Stmt) (Φ : Fl → Nm → Store → Prop) : Fl → Nm → Store → Prop
  | .next, ρ, st => EX B n env m ρ st rest Φ
  | f, ρ, st => Φ f ρ st

theorem ex_cons {c : Stmt} {rest : List Stmt} (h : EX1 B n env m ρ st c (Then B n env m rest Φ)) : EX B n env m ρ st (c :: rest) Φ := fun A hA O E s H S => by
  refine wpAny_execs_cons (wpAny_mono (h A hA O E s H S) (fun f s₁ q => ?_) fun _ _ e => e)
  obtain ⟨fl, ρ', st', H', h', tk, rfl, hp, hf, S', es⟩ := q
  cases hf with
  | next =>
    refine wpAny_mono (hp A hA O E _ H' S') (fun f s₂ q => ?_) fun _ _ e => e
    obtain ⟨fl, ρ'', st'', H'', h'', tk', rfl, hp', hf', S'', es'⟩ := q
    exact ⟨fl, ρ'', st'', H'', h'', tk', rfl, hp', hf', S'', es.trans es' S'.sb S'.en.live⟩
  | brk => exact ⟨_, ρ', st', H', h', tk, rfl, hp, .brk, S', es⟩
  | cont => exact ⟨_, ρ', st', H', h', tk, rfl, hp, .cont, S', es⟩
  | ret r => exact ⟨_, ρ', st', H', h', tk, rfl, hp, .ret r, S', es⟩

theorem EX.mono {cs : List Stmt} {Φ' : Fl → Nm → Store → Prop} (h : EX B n env m ρ st cs Φ) (hp : ∀ f ρ st, Φ f ρ st → Φ' f ρ st) : EX B n env m ρ st cs Φ' := fun A hA O E s H S =>
  wpAny_mono (h A hA O E s H S) (fun f s₁ ⟨fl, ρ', st', H', h', tk, e, hq, r⟩ => ⟨fl, ρ', st', H', h', tk, e, hp _ _ _ hq, r⟩) fun _ _ e => e

theorem x_pass {pos : Pos} (h : Φ .next ρ st) : EX1 B n env m ρ st (.Pass pos) Φ := fun A hA O E s H S =>
  wpAny_bind (wpAny_standAt (wpAny_pure ⟨.next, ρ, st, H, s.heap, s.toks, rfl, h, .next, S, .refl ..⟩))
theorem x_continue {pos : Pos} (h : Φ .cont ρ st) : EX1 B n env m ρ st (.Continue pos) Φ := fun A hA O E s H S =>
  wpAny_bind (wpAny_standAt (wpAny_pure ⟨.cont, ρ, st, H, s.heap, s.toks, rfl, h, .cont, S, .refl ..⟩))
theorem x_break {pos : Pos} (h : Φ .brk ρ st) : EX1 B n env m ρ st (.Break pos) Φ := fun A hA O E s H S =>
  wpAny_bind (wpAny_standAt (wpAny_pure ⟨.brk, ρ, st, H, s.heap, s.toks, rfl, h, .brk, S, .refl ..⟩))
theorem x_return {e : Expr} {pos : Pos} (h : PM B n env m ρ st e (fun v st' => Φ (.ret v) ρ st')) : EX1 B n env m ρ st (.Return (some e) pos) Φ := fun A hA O E s H S => by
  refine wpAny_Return_some (wpAny_mono (h A hA E s H S) (fun x s₁ q => ?_) fun _ _ e => e)
  obtain ⟨v, st', H', h', tk, rfl, hp, S', cs, r⟩ := q
  exact ⟨.ret v, ρ, st', H', h', tk, rfl, hp, .ret r, S', cs.es⟩
theorem x_return0 {pos : Pos} (h : Φ (.ret .none) ρ st) : EX1 B n env m ρ st (.Return none pos) Φ := fun A hA O E s H S =>
  wpAny_Return_none ⟨.ret .none, ρ, st, H, s.heap, s.toks, rfl, h, .ret .none, S, .refl ..⟩

theorem x_if {t : Expr} {b o : List Stmt} {pos : Pos} {c : Bool} (h1 : PT B n env ρ st t c) (h2 : c = true → EX B n env m ρ st b Φ) (h3 : c = false → EX B n env m ρ st o Φ) : EX1 B n env m ρ st (.If t b o pos) Φ := fun A hA O E s H S => by
  refine wpAny_If (wpAny_mono (h1 A hA E s H S) (fun x s₁ ⟨e1, k1⟩ => ?_) fun _ _ e => e)
  subst e1
  have S₁ := S.keeps (kp_get k1)
  obtain ⟨h', tk, rfl, kp⟩ := k1
  have fin : ∀ cs, EX B n env m ρ st cs Φ → wpAny (model B.prog B.w) A (execs cs env) (fun f s' => ∃ fl ρ' st' H' h' tk, s' = { s with heap := h', toks := tk } ∧ Φ fl ρ' st' ∧ FlRep H' h' f fl ∧ Sim B env ρ' st' H' h' ∧ ES B env m H s.heap H' h') E { s with heap := h', toks := tk } := fun cs hx =>
    wpAny_mono (hx A hA O E _ H S₁) (fun f s₂ q => by
      obtain ⟨fl, ρ'', st'', H'', h'', tk', rfl, hp', hf', S'', es'⟩ := q
      exact ⟨fl, ρ'', st'', H'', h'', tk', rfl, hp', hf', S'', (CS.of_keeps kp).es.trans es' S₁.sb S₁.en.live⟩) fun _ _ e => e
  cases x with
  | true => exact fin b (h2 rfl)
  | false => exact fin o (h3 rfl)

/-- a store of a name -/
theorem es_wrt {H : Hd} {h h' : Heap} {xs : List Str} (kp : ∀ b o, ¬ wrt env xs b → h.get? b = some o → h'.get? b = some o) : ES B env m H h H h' :=
  ⟨⟨[], by simp⟩, rfl, fun _ a b => absurd a b, fun b o hb _ _ e => kp b o (fun hw => hb (wrt_own hw)) e⟩

theorem x_assign {x : Str} {px pos : Pos} {e : Expr} (h : PM B n env m ρ st e (fun v st' => Φ .next (upd ρ x v) st')) (hk : env.kindOf x = some .local ∨ env.kindOf x = some .cell) (hs : swapsWith e (some (.Name x px)) pos.line env = pure false := by rfl) :
    EX1 B n env m ρ st (.Assign [.Name x px] e pos) Φ := fun A hA O E s H S => by
  refine wpAny_Assign_Name (wpAny_mono (h A hA E s H S) (fun y s₁ q => ?_) fun _ _ e => e) hs
  obtain ⟨v, st', H', h', tk, rfl, hp, S', cs, r⟩ := q
  exact st_name (xs := [x]) S' (O.own _) (by simp) hk r fun h'' tk' S'' kp => ⟨.next, _, st', H', h'', tk', rfl, hp, .next, S'', cs.es.trans (es_wrt kp) S'.sb S'.en.live⟩

/-- targets that are no plain name, and the value's own store -/
theorem x_assignT {t : Expr} {pos : Pos} {e : Expr} {xs : List Str} (h : PM B n env m ρ st e (fun v st' => ∃ ρ', PA B n env st' t v xs ρ ρ' ∧ Φ .next ρ' st'))
    (he : (assignEach [t] env).map (·.2) = [assign t env] := by rfl) (hs : swapsWithSole [t] e pos.line env = pure false := by rfl) (hw : swappedStores [t] e env = pure none := by rfl) : EX1 B n env m ρ st (.Assign [t] e pos) Φ := fun A hA O E s H S => by
  refine wpAny_Assign_stores (wpAny_mono (h A hA E s H S) (fun y s₁ q => ?_) fun _ _ e => e) hs hw
  obtain ⟨v, st', H', h', tk, rfl, ⟨ρ', pa, hp⟩, S', cs, r⟩ := q
  rw [he]
  show wpAny _ A (assign t env y) _ _ _
  refine wpAny_mono (pa A hA (O.own _) E _ H' y S' r) (fun _ s₂ q => ?_) fun _ _ e => e
  obtain ⟨h'', tk', rfl, S'', kp⟩ := q
  exact ⟨.next, _, st', H', h'', tk', rfl, hp, .next, S'', cs.es.trans (es_wrt kp) S'.sb S'.en.live⟩

/-- a while by an invariant and a measure -/
theorem x_while {t : Expr} {body : List Stmt} {pos : Pos} (I : Nm → Store → Prop) (μ : Nm → Store → Nat) (h0 : I ρ st)
    (turn : ∀ ρ st, I ρ st → ∃ c, PT B n env ρ st t c ∧ (c = true → EX B n env m ρ st body (fun f ρ' st' => match f with | .next | .cont => I ρ' st' ∧ μ ρ' st' < μ ρ st | .brk => Φ .next ρ' st' | .ret v => Φ (.ret v) ρ' st')) ∧ (c = false → Φ .next ρ st)) :
    EX1 B n env m ρ st (.While t body [] pos) Φ := fun A hA O E s H S => by
  refine wpAny_While (codeAny_whileLoop (fun k s' => ∃ ρ' st' H' h' tk, s' = { s with heap := h', toks := tk } ∧ I ρ' st' ∧ k = μ ρ' st' ∧ Sim B env ρ' st' H' h' ∧ ES B env m H s.heap H' h') ?_ (μ ρ st) ⟨ρ, st, H, s.heap, s.toks, rfl, h0, rfl, S, .refl ..⟩)
  rintro k s' ⟨ρ', st', H', h', tk, rfl, hI, rfl, S', es⟩
  obtain ⟨c, h1, h2, h3⟩ := turn ρ' st' hI
  refine wpAny_mono (h1 A hA _ _ H' S') (fun b s₁ ⟨e1, k1⟩ => ?_) fun _ _ e => e
  subst e1
  have S₁ := S'.keeps (kp_get k1)
  obtain ⟨h₁, tk₁, rfl, kp⟩ := k1
  have es₁ := es.trans ((CS.of_keeps kp).es) S'.sb S'.en.live
  cases b with
  | false => exact wpAny_execs_nil ⟨.next, ρ', st', H', h₁, tk₁, rfl, h3 rfl, .next, S₁, es₁⟩
  | true =>
    refine wpAny_mono (h2 rfl A hA O _ _ H' S₁) (fun f s₂ q => ?_) fun _ _ e => e
    obtain ⟨fl, ρ'', st'', H'', h'', tk', rfl, hp', hf', S'', es'⟩ := q
    have es₂ := es₁.trans es' S₁.sb S₁.en.live
    cases hf' with
    | next => exact ⟨_, hp'.2, ρ'', st'', H'', h'', tk', rfl, hp'.1, rfl, S'', es₂⟩
    | cont => exact ⟨_, hp'.2, ρ'', st'', H'', h'', tk', rfl, hp'.1, rfl, S'', es₂⟩
    | brk => exact ⟨.next, ρ'', st'', H'', h'', tk', rfl, hp', .next, S'', es₂⟩
    | ret r => exact ⟨_, ρ'', st'', H'', h'', tk', rfl, hp', .ret r, S'', es₂⟩
end
end Mine

-- part Gw12
namespace Mine

theorem codeAny_forT {prog : Program} {w : World} {A : Around} {s : Shared} {R : Result → Shared → Prop} {target : Expr} {it : Value} {body orelse : List Stmt} {env : Env} (I : Nat → Shared → Prop)
    (turn : ∀ n s, I n s → wpAny (model prog w) A (pyNext it) (fun r s₁ => match r with
      | none => wpAny (model prog w) A (execs orelse env) (fun f s₃ => R (.ok f) s₃) (notedBy (model prog w) A env fun e s' => R (.error e) s') s₁
      | some v => wpAny (model prog w) A (letOwnedTupleGo target it v) (fun _ s₁ => wpAny (model prog w) A (assign target env v) (fun _ s₂ => wpAny (model prog w) A (execs body env) (fun f s₃ => match f with
          | .next | .cont => ∃ m, m < n ∧ I m s₃
          | .brk => R (.ok .next) s₃
          | .ret v => R (.ok (.ret v)) s₃) (notedBy (model prog w) A env fun e s' => R (.error e) s') s₂) (notedBy (model prog w) A env fun e s' => R (.error e) s') s₁) (notedBy (model prog w) A env fun e s' => R (.error e) s') s₁) (notedBy (model prog w) A env fun e s' => R (.error e) s') s)
    (n : Nat) (h : I n s) : codeAny (model prog w) A (.forLoop target it body orelse env) R s := by
  refine codeAny_loop' rfl I (fun n s hI => ?_) n h
  show wpAny _ _ ((forTurn target it body orelse env).onRaise (fun x => do noteFrame x env; theTreesLotGoes x)) _ _ s
  refine wpAny_noted ?_
  simp only [forTurn]
  refine wpAny_bind (wpAny_standAt (wpAny_bind (wpAny_onRaise (wpAny_mono (turn n s hI) (fun r s₁ h₁ => ?_) fun _ _ h' => wpAny_standAt h'))))
  cases r with
  | none => exact wpAny_pure (.inr ⟨rfl, codeAny_block h₁⟩)
  | some v =>
    refine wpAny_bind (wpAny_mono h₁ (fun _ s₂ h₁ => wpAny_bind (wpAny_mono h₁ (fun _ s₂ h₂ => wpAny_bind (wpAny_mono h₂ (fun f s₃ h₃ => ?_) fun _ _ h' => h')) fun _ _ h' => h')) fun _ _ h' => h')
    cases f with
    | next => exact wpAny_pure (.inl ⟨rfl, h₃⟩)
    | cont => exact wpAny_pure (.inl ⟨rfl, h₃⟩)
    | brk => exact wpAny_pure h₃
    | ret v => exact wpAny_pure h₃

-- an opaque thing becomes a handle
mutual
theorem Rep.move {H : Hd} {a : Addr} {h : Heap} : ∀ {y : Value} {v : V}, Rep ⟨H.hs, [a] ++ H.xs⟩ h y v → Rep ⟨H.hs ++ [a], H.xs⟩ h y v
  | _, _, .none => .none
  | _, _, .bool b => .bool b
  | _, _, .int i t => .int i t
  | _, _, .str s t => .str s t
  | _, _, .tup ha ho hr => .tup (fun hm => ha (hm.elim (fun h => (List.mem_append.mp h).elim .inl fun h => .inr (List.mem_append_left _ h)) fun h => .inr (List.mem_append_right _ h))) ho (RepAll.move hr)
  | _, _, .lst ha ho hr => .lst (fun hm => ha (hm.elim (fun h => (List.mem_append.mp h).elim .inl fun h => .inr (List.mem_append_left _ h)) fun h => .inr (List.mem_append_right _ h))) ho (RepAll.move hr)
  | _, _, .ref hk => .ref (by
      have hk' : H.hs[_]? = some _ := hk
      have := (List.getElem?_eq_some_iff.mp hk').1
      show (H.hs ++ [a])[_]? = _
      rw [List.getElem?_append_left this]; exact hk')
  | _, _, .val y => .val y
theorem RepAll.move {H : Hd} {a : Addr} {h : Heap} : ∀ {ys : List Value} {vs : List V}, RepAll ⟨H.hs, [a] ++ H.xs⟩ h ys vs → RepAll ⟨H.hs ++ [a], H.xs⟩ h ys vs
  | _, _, .nil => .nil
  | _, _, .cons hy hr => .cons (Rep.move hy) (RepAll.move hr)
end

section
variable {B : Bs} {n : Nat} {env : Env} {m : Nat} {ρ : Nm} {st : Store} {Φ : Fl → Nm → Store → Prop}

/-- a for over a list or a range, by an invariant -/
theorem x_for {target iter : Expr} {body : List Stmt} {pos : Pos} {vs : List V} {Cond : Store → Prop} {Tg : Expr → Prop} {xs : List Str} (hiter : PI B n env ρ st iter vs Cond Tg true) (htg : Tg target) (I : Nat → Nm → Store → Prop) (h0 : I 0 ρ st)
    (turn : ∀ i v ρ st, vs[i]? = some v → I i ρ st → Cond st ∧ ∃ ρ', PA B n env st target v xs ρ ρ' ∧ EX B n env m ρ' st body (fun f ρ' st' => match f with | .next | .cont => I (i + 1) ρ' st' | .brk => Φ .next ρ' st' | .ret v => Φ (.ret v) ρ' st'))
    (done : ∀ ρ st, I vs.length ρ st → Cond st ∧ Φ .next ρ st) (hs : ∀ x, foldedSetIterable iter env x = pure x := by intro _; rfl) :
    EX1 B n env m ρ st (.For target iter body [] pos) Φ := fun A hA O E s H S => by
  refine wpAny_For (wpAny_mono (hiter A hA E s H S) (fun xv s₁ ⟨k1, q1⟩ => wpAny_mono q1 (fun it s₂ q2 => ?_) fun _ _ e => e) fun _ _ e => e) hs
  obtain ⟨k2, X, wr, fp, St, IT, hc, hX, hst, hnew⟩ := q2
  have hX := hX rfl
  subst hX
  have hnewB : ∀ b ∈ fp, B.free b := fun b hb => S.base.free (hnew b (.inl hb))
  have hst0 : St H 0 s₂.heap := hst
  have S₂ := S.keeps (kp_get k2)
  have hfpown : ∀ b ∈ fp, b ∉ own env := fun b hb ho => by
    obtain ⟨o, e⟩ := S.en.live b ho
    rw [hnew b (.inl hb)] at e; cases e
  have hfpH : ∀ b ∈ fp, ¬ H.has b := fun b hb ho => by
    obtain ⟨o, e, _⟩ := S.sto.live b ho
    rw [hnew b (.inl hb)] at e; cases e
  obtain ⟨h₂, tk₂, rfl, kp2⟩ := k2
  have es0 : ES B env m H s.heap H h₂ := (CS.of_keeps kp2).es
  refine codeAny_forT (fun k s' => ∃ i ρ' st' H' h' tk, s' = { s with heap := h', toks := tk } ∧ k = vs.length + 1 - i ∧ i ≤ vs.length ∧ I i ρ' st' ∧ Sim B env ρ' st' H' h' ∧ St H' i h' ∧ ES B env m H s.heap H' h' ∧ (∀ b ∈ fp, ¬ H'.has b)) ?_ (vs.length + 1) ⟨0, ρ, st, H, h₂, tk₂, rfl, rfl, Nat.zero_le _, h0, S₂, hst0, es0, hfpH⟩
  rintro k s' ⟨i, ρ', st', H', h', tk, rfl, rfl, hi, hI, S', hst', es, hfpH'⟩
  have hwr : ∀ b ∈ wr, b ∉ ([] : List Addr) → ∃ o fs, h'.get? b = some o ∧ o.data = .fields fs ∧ ¬ CodeO o := fun b hb hx => by
    obtain ⟨o, ho, hf⟩ := IT.wrObj _ _ _ b hst' (IT.sub b hb)
    obtain ⟨⟨fs, hfs⟩, hc⟩ := hf hb hx
    exact ⟨o, fs, ho, hfs, hc⟩
  have esw : ∀ {h₁ : Heap}, (∀ b o, b ∉ wr → h'.get? b = some o → h₁.get? b = some o) → ES B env m H s.heap H' h₁ := fun {h₁} kp' =>
    ⟨es.pre, es.xs, es.new, fun b o hb hm hx e => kp' b o (fun hw => by rw [hnew b (.inl (IT.sub b hw))] at e; cases e) (es.keep b o hb hm hx e)⟩
  cases hv : vs[i]? with
  | none =>
    have hlen : i = vs.length := Nat.le_antisymm hi (List.getElem?_eq_none_iff.mp hv)
    subst hlen
    obtain ⟨hcond, hfin⟩ := done ρ' st' hI
    refine wpAny_mono (IT.done A hA _ { s with heap := h', toks := tk } H' st' (fun s₁ => ∃ h₁ tk₁, s₁ = { s with heap := h₁, toks := tk₁ } ∧ (∀ b o, b ∉ wr → h'.get? b = some o → h₁.get? b = some o)) hcond S'.sb (by simp) hst' fun h₁ tk₁ kp' => ⟨h₁, tk₁, rfl, kp'⟩) (fun r s₁ q => ?_) fun _ _ e => e
    obtain ⟨rfl, h₁, tk₁, rfl, kp'⟩ := q
    obtain ⟨S₁, dk⟩ := sim_wr S' (X := []) (by simp) hwr (by simp) (fun b hb => hnewB b (IT.sub b hb)) kp'
    exact wpAny_execs_nil ⟨.next, ρ', st', H', h₁, tk₁, rfl, hfin, .next, S₁, esw kp'⟩
  | some v =>
    have hlt : i < vs.length := (List.getElem?_eq_some_iff.mp hv).1
    obtain ⟨hcond, ρ₁, pa, hx⟩ := turn i v ρ' st' hv hI
    refine wpAny_mono (IT.item A hA (notedBy (model B.prog B.w) A env fun e s' => cameBackBy (model B.prog B.w) A env E e s') { s with heap := h', toks := tk } H' st' i v target (fun x s₁ => ∃ h₁ tk₁, s₁ = { s with heap := h₁, toks := tk₁ } ∧ St H' (i + 1) h₁ ∧ (∀ b o, b ∉ wr → h'.get? b = some o → h₁.get? b = some o) ∧ Rep H' h₁ x v) hcond htg S'.sb (by simp) hst' hv fun x h₁ tk₁ a1 a2 a3 => ⟨h₁, tk₁, rfl, a1, a2, a3⟩) (fun r s₁ q => ?_) fun _ _ e => e
    obtain ⟨x, rfl, q⟩ := q
    refine wpAny_mono q (fun _ s₂ q => ?_) fun _ _ e => e
    obtain ⟨h₁, tk₁, rfl, hst₁, kp', r₁⟩ := q
    obtain ⟨S₁, dk₁⟩ := sim_wr S' (X := []) (by simp) hwr (by simp) (fun b hb => hnewB b (IT.sub b hb)) kp'
    refine wpAny_mono (pa A hA (O.own _) _ _ _ x S₁ r₁) (fun _ s₂ q => ?_) fun _ _ e => e
    obtain ⟨h₂', tk₂', rfl, S₂', kp₂⟩ := q
    have es₂ : ES B env m H s.heap H' h₂' := ⟨es.pre, es.xs, es.new, fun b o hb hm hx e => kp₂ b o (fun hw => hb (wrt_own hw)) ((esw kp').keep b o hb hm hx e)⟩
    have hst₂ : St H' (i + 1) h₂' := IT.frame _ _ _ _ _ hst₁ (wrt_dk S₁.en kp₂) fun b hb o e => kp₂ b o (fun hw => hfpown b hb (wrt_own hw)) e
    refine wpAny_mono (hx A hA O _ _ H' S₂') (fun f s₃ q => ?_) fun _ _ e => e
    obtain ⟨fl, ρ₃, st₃, H₃, h₃, tk₃, rfl, hp, hf, S₃, es₃⟩ := q
    have es₄ := es₂.trans es₃ S₂'.sb S₂'.en.live
    have hst₃ : St H₃ (i + 1) h₃ := IT.frame _ _ _ _ _ hst₂ (es₃.dk S₂'.en) fun b hb o e => es₃.keep b o (hfpown b hb) (fun k _ hk => hfpH' b hb (.inl (List.mem_of_getElem? hk))) (fun hx => (hnewB b hb).2 hx.1) e
    have hfp₃ : ∀ b ∈ fp, ¬ H₃.has b := fun b hb hh => by
      obtain ⟨o, ho, _⟩ := IT.wrObj _ _ _ b hst₂ hb
      have := es₃.new b hh (hfpH' b hb)
      rw [ho] at this; cases this
    cases hf with
    | next => exact ⟨vs.length + 1 - (i + 1), by omega, i + 1, ρ₃, st₃, H₃, h₃, tk₃, rfl, rfl, hlt, hp, S₃, hst₃, es₄, hfp₃⟩
    | cont => exact ⟨vs.length + 1 - (i + 1), by omega, i + 1, ρ₃, st₃, H₃, h₃, tk₃, rfl, rfl, hlt, hp, S₃, hst₃, es₄, hfp₃⟩
    | brk => exact ⟨.next, ρ₃, st₃, H₃, h₃, tk₃, rfl, hp, .next, S₃, es₄⟩
    | ret r => exact ⟨_, ρ₃, st₃, H₃, h₃, tk₃, rfl, hp, .ret r, S₃, es₄⟩

/-- a new mutable list: the frame and the store with it -/
theorem sim_new {H : Hd} {h h' : Heap} {a : Addr} {xs : Array Value} {q : Nat} {l : List V} (S : Sim B env ρ st H h) (kp : KH B h h') (ha : h.get? a = none) (ho : h'.get? a = some (lisObj xs q)) (hr : RepAll ⟨H.hs ++ [a], H.xs⟩ h' xs.toList l) :
    Sim B env ρ (st ++ [l]) ⟨H.hs ++ [a], H.xs⟩ h' ∧ CS B m H h ⟨H.hs ++ [a], H.xs⟩ h' ∧ Rep ⟨H.hs ++ [a], H.xs⟩ h' (.ref a) (.ref st.length) := by
  have haH : ¬ H.has a := fun hh => by obtain ⟨o, e, _⟩ := S.sto.live a hh; rw [ha] at e; cases e
  have new : ∀ b, (⟨H.hs ++ [a], H.xs⟩ : Hd).has b → ¬ H.has b → h.get? b = none := fun b hb hn => by
    rcases hb with hb | hb
    · rcases List.mem_append.mp hb with hb | hb
      · exact absurd (.inl hb) hn
      · cases List.mem_singleton.mp hb; exact ha
    · exact absurd (.inr hb) hn
  have cs : CS B m H h ⟨H.hs ++ [a], H.xs⟩ h' := ⟨⟨[a], rfl⟩, rfl, new, fun b o _ hx e => kp.keep b o hx e⟩
  have hat : (H.hs ++ [a])[st.length]? = some a := by rw [← S.sto.len]; simp
  refine ⟨⟨⟨fun b o e => kp.keep b o (ex_h0 e) (S.base.keep b o e), fun b hb => ?_, kp.tab S.base.tab⟩, ⟨by simp [S.sto.len], ?_, fun k b l' hb hl => ?_, fun b hb => ?_, fun b hb => ?_⟩, S.en.ext kp cs.dk⟩, cs, .ref hat⟩
  · by_cases hh : H.has b
    · exact S.base.new b hh
    · exact S.base.free (new b hb hh)
  · refine List.nodup_append.mpr ⟨S.sto.nd, by simp, fun x hx y hy e => ?_⟩
    cases List.mem_singleton.mp hy
    exact haH (.inl (e ▸ hx))
  · by_cases hk : k < H.hs.length
    · have hb' : (H.hs ++ [a])[k]? = some b := hb
      rw [List.getElem?_append_left hk] at hb'
      rw [List.getElem?_append_left (S.sto.len ▸ hk)] at hl
      obtain ⟨vs, q', ho', hr'⟩ := S.sto.at_ k b l' hb' hl
      exact ⟨vs, q', kp.seq (isSeq_lis ..) ho', hr'.ext cs.dk⟩
    · have hb' : (H.hs ++ [a])[k]? = some b := hb
      have hkl := (List.getElem?_eq_some_iff.mp hb').1
      have hke : k = H.hs.length := by simp at hkl; omega
      subst hke
      simp at hb'
      subst hb'
      rw [S.sto.len] at hl
      simp at hl
      subst hl
      exact ⟨xs, q, ho, hr⟩
  · by_cases hh : H.has b
    · obtain ⟨o, e, hs⟩ := S.sto.live b hh; exact ⟨o, kp.seq hs e, hs⟩
    · rcases hb with hb | hb
      · rcases List.mem_append.mp hb with hb | hb
        · exact absurd (.inl hb) hh
        · cases List.mem_singleton.mp hb; exact ⟨_, ho, isSeq_lis ..⟩
      · exact absurd (.inr hb) hh
  · intro hm
    rcases List.mem_append.mp hm with hm | hm
    · exact S.sto.dj b hb hm
    · cases List.mem_singleton.mp hm; exact haH (.inr hb)

/-- a list display as a new mutable list -/
theorem pm_list {es : List Expr} {pos : Pos} {vs : List V} {Ψ : V → Store → Prop} (h1 : PEs B n env ρ st es vs) (hp : Ψ (.ref st.length) (st ++ [vs])) (hsz : vs.length ≤ sizeLine := by simp [sizeLine]) : PM B n env m ρ st (.List es pos) Ψ := fun A hA E s H S => by
  refine List_ (wpAny_mono (h1 A hA E s H pos S) (fun xs s₁ ⟨k1, r1⟩ => ?_) fun _ _ e => e)
  have S1 := S.keeps (kp_get k1)
  have hnone : s₁.heap.get? s₁.heap.objs.size = none := by
    cases e : s₁.heap.get? s₁.heap.objs.size with
    | none => rfl
    | some o => exact absurd (Heap.lt_size e) (Nat.lt_irrefl _)
  refine wpAny_newObj_type ?_ (by show xs.toArray.size ≤ sizeLine; rw [List.size_toArray, r1.length]; exact hsz)
  have kp := kp_get (kp_push (B := B) s₁ { cls := .type "list", data := .seq xs.toArray })
  have hr : RepAll ⟨H.hs ++ [s₁.heap.objs.size], H.xs⟩ (s₁.heap.push { cls := .type "list", data := .seq xs.toArray }) xs vs := r1.ext ⟨⟨[s₁.heap.objs.size], rfl⟩, fun b hb hn => by
    rcases hb with hb | hb
    · rcases List.mem_append.mp hb with hb | hb
      · exact absurd (.inl hb) hn
      · cases List.mem_singleton.mp hb; exact hnone
    · exact absurd (.inr hb) hn, fun b o _ hs e => kp.seq hs e⟩
  obtain ⟨S2, cs, r⟩ := sim_new (m := m) S1 kp hnone (Heap.get?_push_size _ rfl) (l := vs) (by simpa using hr)
  obtain ⟨h₁, tk₁, rfl, kp1⟩ := k1
  exact ⟨_, _, _, _, tk₁, rfl, hp, S2, (CS.of_keeps kp1).trans cs S1.sb, r⟩

/-- a comprehension's list as a new mutable one, assigned to a name; both orders of the stores -/
theorem pm_comp0 {elt target iter : Expr} {ifs : List Expr} {scope : Scope} {pos : Pos} {vs : List V} {Cond : Store → Prop} {Tg : Expr → Prop} {pl : Bool} {xs : List Str} {Ψ : V → Store → Prop} (hiter : PI B n env ρ st iter vs Cond Tg pl) (htg : Tg target) (ok : okScope env scope = true) (hxs : ∀ x ∈ xs, scope.names.lookup x = some .local ∨ scope.names.lookup x = some .cell)
    (outs : List (List V)) (hlen : outs.length = vs.length)
    (hturn : ∀ (i : Nat) v out, vs[i]? = some v → outs[i]? = some out → ∀ C, ∃ ρ' p w, PA B n (cEnv scope C env) st target v xs (restr scope ρ) ρ' ∧ PTs B n (cEnv scope C env) ρ' st ifs p ∧ (p = true → PE B n (cEnv scope C env) ρ' st elt w) ∧ out = (if p then [w] else []) ∧ ∀ y u, restr scope ρ y = some u → ρ' y = some u)
    (hsz : (outs.flatten).length ≤ sizeLine) (hp : Ψ (.ref st.length) (st ++ [outs.flatten])) (hs : ∀ x, foldedSetIterable iter env x = pure x := by intro _; rfl) :
    PM B n env m ρ st (.ListComp elt [⟨target, iter, ifs, 0⟩] scope pos) Ψ := fun A hA E s H S => by
  obtain ⟨f1, f2, f3⟩ := okScope_facts ok
  rw [eval_ListComp]
  refine wpAny_comprehension_free (use := none) rfl hs (hclos_of S.en ok) f1 (hnames_of f2) (comp_block1 (RR := fun acc C => compPost (model B.prog B.w) A E none _ acc C) hA S hiter htg ok hxs outs hlen hturn hsz ?_)
  intro D C h' tk q hD hC hDC hn acc kp
  refine ⟨q, hn, fun h'' hs'' => ?_⟩
  obtain ⟨⟨vs', q, ho, hr⟩, hDH⟩ := accAt_end S.sto hD hDC hn acc hs''
  have kp' : KH B s.heap h'' := kp.but hC hn hs''
  obtain ⟨S2, cs, r⟩ := sim_new (m := m) S kp' hD ho (l := outs.flatten) (hr.move)
  exact ⟨_, _, _, h'', tk, rfl, hp, S2, cs, r⟩
end
end Mine

-- part Gw13
namespace Mine

theorem wpAny_setItem_lis {prog : Program} {w : World} {A : Around} {E : Value → Shared → Prop} {s : Shared} {l : Addr} {vs : Array Value} {n : Nat} {k : Int} {t : Tok} {v : Value} {Q : Unit → Shared → Prop} (ho : s.heap.get? l = some (lisObj vs n)) (h0 : 0 ≤ k) (hfit : k < 2 ^ 63) (hn : k < vs.size)
    (hQ : ∀ h' n', h'.get? l = some (lisObj (vs.setIfInBounds k.toNat v) n') → Heap.SameBut l s.heap h' → Q () { s with heap := h' }) : wpAny (model prog w) A (setItem (.ref l) (.int k t) v) Q E s := by
  have hl := isList_of ho
  unfold setItem
  refine wpAny_holding ?_
  refine wpAny_bind (wpAny_sequenceKey hl.typeIs (by decide) ?_)
  refine wpAny_bind (wpAny_callSpecial?_slot (name := Str.ofString "__setitem__") hl.typeIs slot_list_setitem (wpAny_call_entry slot_list_setitem hl.typeIs entry_list_setitem ?_ (args_list_setitem _ _ _)))
  show wpAny _ _ (Builtin.List.listSubscript? (.int k t) >>= _) _ _ s
  refine wpAny_bind (wpAny_listSubscript_int (fitsIndex_of h0 hfit) ?_)
  obtain ⟨j, rfl⟩ := Int.eq_ofNat_of_zero_le h0
  have hx' : vs[j]? = some (vs[j]'(by omega)) := Array.getElem?_eq_getElem _
  show wpAny _ _ ((seqItemAt l j >>= fun r => pure (r.map (j, ·))) >>= _) _ _ s
  refine wpAny_bind (wpAny_bind (wpAny_seqItemAt ho rfl (wpAny_pure ?_)))
  rw [hx']
  show wpAny _ _ (setSeqItemAt l j v >>= _) _ _ s
  obtain ⟨n', ho'⟩ := upd_lis ho (·.setIfInBounds j v)
  refine wpAny_bind (wpAny_setSeqItemAt ho rfl ?_)
  first
    | exact wpAny_bind (wpAny_pure (wpAny_pure ⟨.none, rfl, wpAny_pure (hQ _ n' ho' (Heap.SameBut.update ..))⟩))
    | exact wpAny_pure ⟨.none, rfl, wpAny_pure (hQ _ n' ho' (Heap.SameBut.update ..))⟩

/-- an operation upon values that may change the store -/
def OM (B : Bs) (n : Nat) (m : Nat) (st : Store) (t : List Value → Sem Value) (vs : List V) (Ψ : V → Store → Prop) : Prop :=
  ∀ A, Rm n A → ∀ E s H xs, SB B st H s.heap → RepAll H s.heap xs vs →
    wpAny (model B.prog B.w) A (t xs) (fun z s' => ∃ v st' H' h' tk, s' = { s with heap := h', toks := tk } ∧ Ψ v st' ∧ SB B st' H' h' ∧ CS B m H s.heap H' h' ∧ Rep H' h' z v) E s

/-- arguments that may make mutable lists -/
def PMs (B : Bs) (n : Nat) (env : Env) (m : Nat) (ρ : Nm) (st : Store) (es : List Expr) (Ψ : List V → Store → Prop) : Prop :=
  ∀ A, Rm n A → ∀ E s H pos, Sim B env ρ st H s.heap →
    wpAny (model B.prog B.w) A (spliced (backTo pos (starEach es env))) (fun xs s' => ∃ vs st' H' h' tk, s' = { s with heap := h', toks := tk } ∧ Ψ vs st' ∧ Sim B env ρ st' H' h' ∧ CS B m H s.heap H' h' ∧ RepAll H' h' xs vs) E s

theorem EnvRep.cs {B : Bs} {env : Env} {ρ : Nm} {m : Nat} {st : Store} {H H' : Hd} {h h' : Heap} (x : EnvRep env ρ H h) (S : SimH H st h) (c : CS B m H h H' h') : EnvRep env ρ H' h' := by
  have kp : ∀ b o, ¬ IsSeq o → ¬ TabO o → h.get? b = some o → h'.get? b = some o := fun b o hn ht e => c.keep b o (fun k _ hk => by
    obtain ⟨o', e', hs⟩ := S.live b (.inl (List.mem_of_getElem? hk))
    rw [e] at e'; cases e'; exact hn hs) (fun hx => ht hx.2) e
  have kc : ∀ {a : Addr} {v : Option Value}, h.IsCell a v → h'.IsCell a v := fun ⟨o, ho, hd⟩ => ⟨o, kp _ o (by rintro ⟨_, _, e⟩; rw [hd] at e; cases e) (by rintro ⟨_, _, e⟩; rw [hd] at e; cases e) ho, hd⟩
  refine ⟨x.kind, x.gl, x.bi, ?_, fun y v hy hv => ?_, fun y a ha => ?_, x.has, x.apart⟩
  · obtain ⟨q, hm, hr⟩ := x.loc
    refine ⟨q, hm.at' fun o e => ?_, fun y v hy hv => let ⟨z, hz, r⟩ := hr y v hy hv; ⟨z, hz, r.ext c.dk⟩⟩
    obtain ⟨o', es, ep, ho', hd, _⟩ := hm
    rw [e] at ho'; cases ho'
    exact kp _ o (by rintro ⟨_, _, e⟩; rw [hd] at e; cases e) (by rintro ⟨_, _, e⟩; rw [hd] at e; cases e) e
  · obtain ⟨a, z, h1, h2, h3⟩ := x.cell y v hy hv
    exact ⟨a, z, h1, kc h2, h3.ext c.dk⟩
  · obtain ⟨v, hv⟩ := x.cells y a ha
    exact ⟨v, kc hv⟩

section
variable {B : Bs} {n : Nat} {env : Env} {m : Nat} {ρ : Nm} {st : Store} {Φ : Fl → Nm → Store → Prop} {Ψ : V → Store → Prop}

theorem PM.mono {e : Expr} {Ψ' : V → Store → Prop} (h : PM B n env m ρ st e Ψ) (hp : ∀ v st, Ψ v st → Ψ' v st) : PM B n env m ρ st e Ψ' := fun A hA E s H S =>
  wpAny_mono (h A hA E s H S) (fun f s₁ ⟨v, st', H', h', tk, e, hq, r⟩ => ⟨v, st', H', h', tk, e, hp _ _ hq, r⟩) fun _ _ e => e

theorem pms_nil {Ψ : List V → Store → Prop} (h : Ψ [] st) : PMs B n env m ρ st [] Ψ := fun A hA E s H pos S => args_nil ⟨[], st, H, s.heap, s.toks, rfl, h, S, .refl .., .nil⟩
theorem pms_cons {e : Expr} {es : List Expr} {Ψ : List V → Store → Prop} (h1 : PM B n env m ρ st e (fun v st' => PMs B n env m ρ st' es (fun vs st'' => Ψ (v :: vs) st'')))
    (he : starEach (e :: es) env = (false, eval e env) :: starEach es env := by rfl) : PMs B n env m ρ st (e :: es) Ψ := fun A hA E s H pos S => by
  refine args_cons (wpAny_mono (h1 A hA E s H S) (fun x s₁ q => ?_) fun _ _ e => e) he
  obtain ⟨v, st', H', h', tk, rfl, hp, S', cs, r⟩ := q
  refine wpAny_mono (hp A hA E _ H' pos S') (fun xs s₂ q => ?_) fun _ _ e => e
  obtain ⟨vs, st'', H'', h'', tk', rfl, hp', S'', cs', r'⟩ := q
  exact ⟨v :: vs, st'', H'', h'', tk', rfl, hp', S'', cs.trans cs' S'.sb, .cons (r.ext cs'.dk) r'⟩
theorem PEs.pms {es : List Expr} {vs : List V} {Ψ : List V → Store → Prop} (h : PEs B n env ρ st es vs) (hp : Ψ vs st) : PMs B n env m ρ st es Ψ := fun A hA E s H pos S => by
  refine wpAny_mono (h A hA E s H pos S) (fun x s₁ ⟨k, r⟩ => ?_) fun _ _ e => e
  have S₁ := S.keeps (kp_get k)
  obtain ⟨h', tk, rfl, kp⟩ := k
  exact ⟨vs, st, H, h', tk, rfl, hp, S₁, .of_keeps kp, r⟩
theorem PL.om {t : List Value → Sem Value} {as : List V} {c : V} (h : PL B n st t as c) (hp : Ψ c st) : OM B n m st t as Ψ := fun A hA E s H xs S r => by
  refine wpAny_mono (h A hA E s H xs S r) (fun x s₁ ⟨k, r⟩ => ?_) fun _ _ e => e
  have S₁ := S.keeps (kp_get k)
  obtain ⟨h', tk, rfl, kp⟩ := k
  exact ⟨c, st, H, h', tk, rfl, hp, S₁, .of_keeps kp, r⟩

theorem pm_tuple {es : List Expr} {k : Nat} {pos : Pos} (h1 : PMs B n env m ρ st es (fun vs st' => vs.length ≤ sizeLine ∧ Ψ (.tup vs) st')) : PM B n env m ρ st (.Tuple es k pos) Ψ := fun A hA E s H S => by
  refine Tuple_ (wpAny_mono (h1 A hA E s H pos S) (fun xs s₁ q => ?_) fun _ _ e => e)
  obtain ⟨vs, st', H', h', tk, rfl, ⟨hsz, hp⟩, S', cs, r⟩ := q
  have kp := kp_get (kp_push (B := B) { s with heap := h', toks := tk } { cls := .type "tuple", data := .seq xs.toArray })
  refine wpAny_newObj_type ⟨.tup vs, st', H', _, tk, rfl, hp, S'.keeps kp, cs.trans (.of_keeps kp) S'.sb, .tup (vs := xs.toArray) (n := 0) (notMem_size S'.sto) (Heap.get?_push_size _ rfl) (r.ext (.of_keeps kp))⟩ (by show xs.toArray.size ≤ sizeLine; rw [List.size_toArray, r.length]; exact hsz)

/-- the call's end under the frame -/
theorem om_pm {A : Around} {E : Value → Shared → Prop} {s : Shared} {H H₁ : Hd} {h₁ : Heap} {tk₁ : Nat} {st₁ : Store} {t : List Value → Sem Value} {vs : List V} {xs : List Value} (hA : Rm n A) (h : OM B n m st₁ t vs Ψ) (S₁ : Sim B env ρ st₁ H₁ h₁) (cs : CS B m H s.heap H₁ h₁) (r : RepAll H₁ h₁ xs vs) :
    wpAny (model B.prog B.w) A (t xs) (fun x s' => ∃ v st' H' h' tk, s' = { s with heap := h', toks := tk } ∧ Ψ v st' ∧ Sim B env ρ st' H' h' ∧ CS B m H s.heap H' h' ∧ Rep H' h' x v) E { s with heap := h₁, toks := tk₁ } := by
  refine wpAny_mono (h A hA E { s with heap := h₁, toks := tk₁ } H₁ xs S₁.sb r) (fun x s₂ q => ?_) fun _ _ e => e
  obtain ⟨v, st', H', h', tk, rfl, hp, SB', cs', r'⟩ := q
  exact ⟨v, st', H', h', tk, rfl, hp, ⟨SB'.base, SB'.sto, S₁.en.cs S₁.sto cs'⟩, cs.trans cs' S₁.sb, r'⟩

/-- a method of a list -/
theorem pm_meth {o : Expr} {name : Str} {apos cpos : Pos} {e : Expr} {es : List Expr} {id : String} {v₀ : V} {l : List V} (ho : PE B n env ρ st o v₀) (hl : lis st v₀ = some l)
    (ha : PMs B n env m ρ st (e :: es) (fun vs st' => OM B n m st' (fun xs => call (.builtin id) xs) (v₀ :: vs) Ψ)) (slot : Slot "list" name id) (hty : typeOf (.builtin id) = pure (.type "method_descriptor"))
    (hbase : attributeBase o name env (eval o env) = eval o env := by rfl)
    (hfew : ((backTo cpos (starEach (e :: es) env)).all (fun x => !x.1) && (backToKw cpos (keywordEach [] env)).all (fun x => x.1.isSome)
      && decide ((e :: es).length + ([] : List Keyword).length + (if ([] : List Keyword).isEmpty then 0 else 1) < 30)) = true := by rfl)
    (hline : (apos.endLine == cpos.line) = true := by rfl) (he : starEach (e :: es) env = (false, eval e env) :: starEach es env := by rfl) (hplain : (backTo cpos (starEach es env)).any (·.1) = false := by rfl) :
    PM B n env m ρ st (.Call (.Attribute o name apos) (e :: es) [] cpos) Ψ := fun A hA E s H S => by
  refine wpAny_Call_method hbase hfew hline F.plainAttrs_list slot hty (wpAny_mono (ho A hA E s H S) (fun ov s₁ ⟨k1, r1⟩ => ?_) fun _ _ e => e)
  have S₁ := S.keeps (kp_get k1)
  obtain ⟨ad, vs, q, rfl, hob, hr⟩ := lis_at (B := B) S₁.sto r1 hl
  refine ⟨(isList_of hob).typeIs, fun a ha => by cases ha; exact ⟨_, hob, rfl⟩, ?_⟩
  refine callWith_method1 (wpAny_mono (ha A hA E s₁ H cpos S₁) (fun xs s₂ q => ?_) fun _ _ e => e) he hplain
  obtain ⟨vs, st', H', h', tk, rfl, hp, S', cs, r⟩ := q
  obtain ⟨h₁, tk₁, rfl, kp⟩ := k1
  exact om_pm (s := s) (xs := .ref ad :: xs) hA hp S' ((CS.of_keeps kp).trans cs S₁.sb) (.cons (r1.ext cs.dk) r)

/-- a handle's list is changed -/
theorem sb_set {H : Hd} {h h' : Heap} {a : Addr} {k : Nat} {ws : Array Value} {q : Nat} {l' : List V} (S : SB B st H h) (hk : H.hs[k]? = some a) (ho' : h'.get? a = some (lisObj ws q)) (kp : ∀ b o, b ≠ a → h.get? b = some o → h'.get? b = some o) (hr : RepAll H h ws.toList l') (hm : m ≤ k) :
    SB B (st.set k l') H h' ∧ CS B m H h H h' := by
  have ha : H.has a := .inl (List.mem_of_getElem? hk)
  have cs : CS B m H h H h' := ⟨⟨[], by simp⟩, rfl, fun _ h1 h2 => absurd h1 h2, fun b o hb _ e => kp b o (fun e' => hb k hm (e' ▸ hk)) e⟩
  refine ⟨⟨base_ne S.base (W := (· = a)) (fun b o hb e => kp b o hb e) (fun b hb => hb ▸ S.base.new _ ha) (fun b o hb e => by subst hb; obtain ⟨o', e', hs'⟩ := S.sto.live _ ha; rw [e] at e'; cases e'; exact seq_notCode hs'), ⟨by simp [S.sto.len], S.sto.nd, fun j b l hj hl => ?_, fun b hb => ?_, S.sto.dj⟩⟩, cs⟩
  · by_cases e : j = k
    · subst e
      rw [hk] at hj; cases hj
      rw [List.getElem?_set_self (by rw [← S.sto.len]; exact (List.getElem?_eq_some_iff.mp hk).1)] at hl
      cases hl
      exact ⟨ws, q, ho', hr.ext cs.dk⟩
    · rw [List.getElem?_set_ne (Ne.symm e)] at hl
      obtain ⟨vs, q', ho, hr'⟩ := S.sto.at_ j b l hj hl
      refine ⟨vs, q', kp b _ (fun e' => e ?_) ho, hr'.ext cs.dk⟩
      subst e'
      exact (List.getElem?_inj (List.getElem?_eq_some_iff.mp hj).1 S.sto.nd).mp (hj.trans hk.symm)
  · by_cases e : b = a
    · subst e; exact ⟨_, ho', isSeq_lis ..⟩
    · obtain ⟨o, ho, hs⟩ := S.sto.live b hb; exact ⟨o, kp b o e ho, hs⟩

theorem om_append {k : Nat} {l : List V} {v : V} (hl : st[k]? = some l) (hm : m ≤ k) (hsz : l.length ≤ sizeLine) (hp : Ψ .none (st.set k (l ++ [v]))) : OM B n m st (fun xs => call (.builtin "list.append") xs) [.ref k, v] Ψ := fun A hA E s H xs S r => by
  cases r with
  | cons r1 r =>
    cases r with
    | cons r2 r =>
      cases r
      cases r1 with
      | ref hk =>
        obtain ⟨vs, q, ho, hr⟩ := S.sto.at_ _ _ _ hk hl
        refine wpAny_append_lis ho (by rw [hr.size]; exact hsz) fun h' q' ho' hs => ?_
        obtain ⟨S', cs⟩ := sb_set (m := m) S hk ho' (fun b o hb e => hs.extBut b o hb e) (l' := l ++ [v]) (by simpa using hr.append (.one r2)) hm
        exact ⟨.none, _, H, h', s.toks, rfl, hp, S', cs, .none⟩

theorem om_insert {k : Nat} {l : List V} {v : V} {i : Int} (hl : st[k]? = some l) (hm : m ≤ k) (hsz : l.length ≤ sizeLine) (h0 : 0 ≤ i) (hi : i ≤ l.length) (hp : Ψ .none (st.set k (l.take i.toNat ++ v :: l.drop i.toNat))) : OM B n m st (fun xs => call (.builtin "list.insert") xs) [.ref k, .int i, v] Ψ := fun A hA E s H xs S r => by
  cases r with
  | cons r1 r =>
    cases r with
    | cons r2 r =>
      cases r with
      | @cons y3 _ _ _ r3 r =>
        cases r
        cases r2
        cases r1 with
        | ref hk =>
          obtain ⟨vs, q, ho, hr⟩ := S.sto.at_ _ _ _ hk hl
          have hsize := hr.size
          have hfit : ¬(!Builtin.List.listFitsIndex i) = true := by
            have : i < 2 ^ 63 := by simp [sizeLine] at hsz; omega
            simp [Builtin.List.listFitsIndex]; omega
          refine call_meets F.slot_list_insert (isList_of ho).typeIs F.entry_list_insert (F.args_list_insert_3 _ _ _) (AutoSeq1.list_insert_list_int_val_1 _ vs q i _ _ hfit (by rw [hsize]; exact hsz)) ⟨ho, ?_⟩
          have hneg : ¬ i < 0 := by omega
          have hmin : min i.toNat vs.size = i.toNat := by rw [hsize]; omega
          obtain ⟨q', ho'⟩ := upd_lis ho (fun xs : Array Value => have k := if i < 0 then (i + (xs.size : Int)).toNat else min i.toNat xs.size; (xs.extract 0 k).push y3 ++ xs.extract k)
          have hrr : RepAll H s.heap ((vs.extract 0 i.toNat).push y3 ++ vs.extract i.toNat).toList (l.take i.toNat ++ v :: l.drop i.toNat) := by
            have e1 : ((vs.extract 0 i.toNat).push y3 ++ vs.extract i.toNat).toList = vs.toList.take i.toNat ++ y3 :: vs.toList.drop i.toNat := by
              simp [Array.toList_extract, List.extract]
              exact List.take_of_length_le (by simp)
            rw [e1]
            exact (hr.take _).append (.cons r3 (hr.drop _))
          have e2 : (fun xs : Array Value => have k := if i < 0 then (i + (xs.size : Int)).toNat else min i.toNat xs.size; (xs.extract 0 k).push y3 ++ xs.extract k) vs = (vs.extract 0 i.toNat).push y3 ++ vs.extract i.toNat := by
            simp only [hneg, if_false, hmin]
          obtain ⟨S', cs⟩ := sb_set (m := m) S hk (ws := (vs.extract 0 i.toNat).push y3 ++ vs.extract i.toNat) (q := q') (by rw [← e2]; exact ho') (fun b o hb e => (Heap.SameBut.update ..).extBut b o hb e) hrr hm
          exact ⟨.none, _, H, _, s.toks, rfl, hp, S', cs, .none⟩

/-- an expression as a statement -/
theorem x_expr {e : Expr} {pos : Pos} (h : PM B n env m ρ st e (fun _ st' => Φ .next ρ st')) (hs : swapsWith e none pos.line env = pure false := by rfl) : EX1 B n env m ρ st (.Expr e pos) Φ := fun A hA O E s H S => by
  refine wpAny_Expr_any (wpAny_mono (h A hA E s H S) (fun x s₁ q => ?_) fun _ _ e => e) (by unfold interactive; rw [S.en.kind]; rfl) hs
  obtain ⟨v, st', H', h', tk, rfl, hp, S', cs, r⟩ := q
  exact ⟨.next, ρ, st', H', h', tk, rfl, hp, .next, S', cs.es⟩

/-- an item is stored: the value first, then the list and the place, which are pure -/
theorem x_setitem {o i e : Expr} {sp pos : Pos} (h : PM B n env m ρ st e (fun v st' => ∃ k l j, PE B n env ρ st' o (.ref k) ∧ st'[k]? = some l ∧ PE B n env ρ st' i (.int j) ∧ 0 ≤ j ∧ j < l.length ∧ l.length < 2 ^ 62 ∧ m ≤ k ∧ Φ .next ρ (st'.set k (l.set j.toNat v))))
    (hs : swapsWith e (some (.Subscript o i sp)) pos.line env = pure false := by rfl) : EX1 B n env m ρ st (.Assign [.Subscript o i sp] e pos) Φ := fun A hA O E s H S => by
  refine wpAny_Assign_Subscript (wpAny_mono (h A hA E s H S) (fun x s₁ q => ?_) fun _ _ e => e) hs
  obtain ⟨v, st', H', h', tk, rfl, ⟨k, l, j, h1, h2, h3, h4, h5, h6, h7, h8⟩, S', cs, r⟩ := q
  refine wpAny_mono (h1 A hA E _ H' S') (fun ov s₁ ⟨k1, r1⟩ => wpAny_mono (h3 A hA E s₁ H' (S'.keeps (kp_get k1))) (fun iv s₂ ⟨k2, r2⟩ => ?_) fun _ _ e => e) fun _ _ e => e
  have kk := kp_trans k1 k2
  have S₂ := S'.keeps (kp_get kk)
  obtain ⟨h₂, tk₂, rfl, kp⟩ := kk
  cases r2
  cases r1 with
  | ref hk =>
    obtain ⟨vs, q, ho, hr⟩ := S₂.sto.at_ _ _ _ hk h2
    have hsize := hr.size
    refine wpAny_setItem_lis ho h4 (by omega) (by rw [hsize]; omega) fun h₃ q' ho₃ hs₃ => ?_
    obtain ⟨S₃, cs₃⟩ := sb_set (m := m) S₂.sb hk ho₃ (fun b o hb e => hs₃.extBut b o hb e) (l' := l.set j.toNat v) (by simpa using hr.set (r.ext (.of_keeps kp))) h7
    have en₃ := S₂.en.cs S₂.sto cs₃
    exact ⟨.next, ρ, _, H', h₃, tk₂, rfl, h8, .next, ⟨S₃.base, S₃.sto, en₃⟩, ((cs.trans (.of_keeps kp) S'.sb).trans cs₃ S₂.sb).es⟩
end
end Mine

-- part Gw14
namespace Mine

theorem bindL_lookup (kindOf : Str → Option NameKind) : ∀ (binds : List (Str × Value)) (m : Str → Option Value) (x : Str), kindOf x = some .local → (binds.map (·.1)).Nodup → bindL kindOf binds m x = (binds.lookup x).or (m x)
  | [], m, x, _, _ => by simp [bindL]
  | (y, v) :: r, m, x, hx, hn => by
    simp only [List.map_cons, List.nodup_cons] at hn
    unfold bindL
    rw [bindL_lookup kindOf r _ x hx hn.2, List.lookup_cons]
    by_cases e : x = y
    · subst e
      have : r.lookup x = none := by
        cases hq : r.lookup x with
        | none => rfl
        | some c => exact absurd (List.mem_map.mpr ⟨_, mem_of_lookup hq, rfl⟩) hn.1
      simp [this, hx]
    · have e' : (x == y) = false := by simpa using e
      rw [e']
      split
      · simp [e]
      · rfl
theorem bindC_lookup (kindOf : Str → Option NameKind) : ∀ (binds : List (Str × Value)) (m : Str → Option Value) (x : Str), kindOf x ≠ some .local → (binds.map (·.1)).Nodup → bindC kindOf binds m x = (binds.lookup x).or (m x)
  | [], m, x, _, _ => by simp [bindC]
  | (y, v) :: r, m, x, hx, hn => by
    simp only [List.map_cons, List.nodup_cons] at hn
    unfold bindC
    rw [bindC_lookup kindOf r _ x hx hn.2, List.lookup_cons]
    by_cases e : x = y
    · subst e
      have : r.lookup x = none := by
        cases hq : r.lookup x with
        | none => rfl
        | some c => exact absurd (List.mem_map.mpr ⟨_, mem_of_lookup hq, rfl⟩) hn.1
      simp [this, hx]
    · have e' : (x == y) = false := by simpa using e
      rw [e']
      split
      · rfl
      · simp [e]

theorem lookup_zip_rep {H : Hd} {h : Heap} : ∀ {names : List Str} {ys : List Value} {ws : List V} {x : Str} {v : V}, RepAll H h ys ws → (names.zip ws).lookup x = some v → ∃ y, (names.zip ys).lookup x = some y ∧ Rep H h y v
  | [], _, _, _, _, _, hl => by simp at hl
  | nm :: names, ys, ws, x, v, hr, hl => by
    cases hr with
    | nil => simp at hl
    | cons r1 r =>
      simp only [List.zip_cons_cons, List.lookup_cons] at hl ⊢
      cases hx : x == nm with
      | true => rw [hx] at hl; cases hl; exact ⟨_, rfl, r1⟩
      | false => rw [hx] at hl; exact lookup_zip_rep r hl

theorem cellsFrom_lookup : ∀ {m : Nat} {l : List (Str × NameKind)} {x : Str} {c : Addr}, (l.map (·.1)).Nodup → (x, c) ∈ cellsFrom m l [] → (cellsFrom m l []).lookup x = some c
  | m, (y, k) :: r, x, c, hn, h => by
    simp only [List.map_cons, List.nodup_cons] at hn
    unfold cellsFrom at h ⊢
    split at h
    · rename_i hk
      rw [if_pos hk]
      rw [cellsFrom_app] at h ⊢
      rw [List.lookup_append]
      rcases List.mem_append.mp h with h | h
      · rw [cellsFrom_lookup hn.2 h]; rfl
      · obtain ⟨e1, e2⟩ := Prod.mk.inj (List.mem_singleton.mp h)
        subst e1; subst e2
        have : (cellsFrom (c + 1) r []).lookup x = none := by
          cases hq : (cellsFrom (c + 1) r []).lookup x with
          | none => rfl
          | some c' => exact absurd (List.mem_map.mpr ⟨_, cellsFrom_mem (mem_of_lookup hq), rfl⟩) hn.1
        rw [this]; simp [List.lookup_cons]
    · rename_i hk
      rw [if_neg hk]
      exact cellsFrom_lookup hn.2 h

/-- a def of the text -/
structure FnOk (B : Bs) (a : Addr) (fd : FuncData) (body : List Stmt) : Prop where
  at_ : ∃ o, B.K.lookup a = some o ∧ o.data = .func fd
  body : fd.body = .stmts body
  clo : fd.closure = []
  gl : fd.globals = mainGlobals
  bi : fd.builtins = builtinsNs
  cd : B.h₀.CodeRec fd.code fd.qualname
  co : fd.scope.isCoroutine = false
  gen : fd.scope.isGenerator = false
  kind : fd.scope.kind = .function
  nd : nodupB (fd.scope.names.map (·.1)) = true
  nofree : (fd.scope.names.all fun x => x.2 != .free) = true

def paramsOk (scope : Scope) (names : List Str) : Bool := nodupB names && names.all fun x => scope.names.lookup x == some .local || scope.names.lookup x == some .cell

section
variable {B : Bs} {n m : Nat} {st : Store} {Ψ : V → Store → Prop}

/-- room, the caller's frame may be the claim's -/
structure Rm0 (n : Nat) (A : Around) : Prop where
  hd : A.handled = none
  dp : A.depth + n ≤ 890
  un : A.units + 20 * n ≤ 9000
  fr : ∃ l, A.frames = some l
theorem Rm.rm0 {A : Around} (x : Rm n A) : Rm0 n A := ⟨x.hd, x.dp, x.un, let ⟨e, l, h, _⟩ := x.fr; ⟨e :: l, h⟩⟩
theorem Rm0.deeper {n : Nat} {A : Around} (x : Rm0 (n + 1) A) (env : Env) (h1 : env.scope.isGenerator = false) (h2 : env.scope.isCoroutine = false) (h3 : env.builtins = builtinsNs) (h4 : env.globals = mainGlobals) : Rm n (A.deeper env) :=
  ⟨x.hd, by have := x.dp; simp only [Around.deeper]; omega, by have := x.un; simp only [Around.deeper]; omega, by
    obtain ⟨l, hf⟩ := x.fr
    exact ⟨env, l, by simp only [Around.deeper, hf]; rfl, h1, h2, h3, h4⟩⟩

/-- what a call hands back -/
def retOf : Fl → V
  | .ret v => v
  | _ => .none

/-- a call of a def: its body under its own frame -/
theorem fn_core {a : Addr} {fd : FuncData} {body : List Stmt} {names : List Str} {vs ws : List V} {kw : List Value → List (Str × Value)} {pos : List Value → List Value} (F : FnOk B a fd body) (hp : paramsOk fd.scope names = true) (hlen : names.length = ws.length)
    (hb : ∀ H h xs, SB B st H h → RepAll H h xs vs → ∃ ys, (∀ S, peek B.K S (bindArgs fd ⟨pos xs, kw xs⟩) = some (names.zip ys)) ∧ RepAll H h ys ws)
    (hx : ∀ L, EX B n (callEnvC fd L a) m (fun x => (names.zip ws).lookup x) st body (fun fl _ st' => Ψ (retOf fl) st')) :
    ∀ A, Rm0 (n + 1) A → ∀ E s H xs, SB B st H s.heap → RepAll H s.heap xs vs →
    wpAny (model B.prog B.w) A (call (.ref a) (pos xs) (kw xs)) (fun z s' => ∃ v st' H' h' tk, s' = { s with heap := h', toks := tk } ∧ Ψ v st' ∧ SB B st' H' h' ∧ CS B m H s.heap H' h' ∧ Rep H' h' z v) E s := fun A hA E s H xs S r => by
  obtain ⟨o, ho, hdat⟩ := F.at_
  obtain ⟨ys, hbind, hr⟩ := hb H s.heap xs S r
  have hKX : B.K.In s.heap := B.KX.keeps S.base.keep
  refine wpAny_call (codeAny_call_function (by have := hA.dp; simp only [recursionLimit]; omega) (hKX _ _ ho) hdat F.co F.gen F.body (F.cd.keeps S.base.keep) ?_)
  refine (Looks.of_peek (M := model B.prog B.w) hKX (hbind _)).here ?_
  have hplen : names.length = ys.length := by rw [hlen, hr.length]
  have hnm : (names.zip ys).map (·.1) = names := List.map_fst_zip (Nat.le_of_eq hplen)
  simp only [paramsOk, Bool.and_eq_true, List.all_eq_true, Bool.or_eq_true, beq_iff_eq] at hp
  have hnd : ((names.zip ys).map (·.1)).Nodup := by rw [hnm]; exact nodupB_iff hp.1
  have hkinds : ∀ x ∈ names.zip ys, fd.scope.names.lookup x.1 = some .local ∨ (fd.scope.names.lookup x.1 = some .cell ∧ ((cellsFrom (s.heap.objs.size + 1) fd.scope.names []).lookup x.1).isSome = true) := fun x hx => by
    have hx' : x.1 ∈ names := by rw [← hnm]; exact List.mem_map.mpr ⟨x, hx, rfl⟩
    rcases hp.2 _ hx' with h | h
    · exact .inl h
    · obtain ⟨c, hc⟩ := cellsFrom_has (m := s.heap.objs.size + 1) (mem_of_lookup h)
      exact .inr ⟨h, by rw [hc]; rfl⟩
  rw [F.clo]
  refine wpAny_newFunctionEnv_cells F.kind hkinds fun env he s₁ x => ?_
  have he' : env = callEnvC fd s.heap.objs.size a := he
  have hLC : env.locals = s.heap.objs.size := by rw [he']; rfl
  have hcells : env.cells = cellsFrom (s.heap.objs.size + 1) fd.scope.names [] := by rw [he']; rfl
  have hscope : env.scope = fd.scope := by rw [he']; rfl
  obtain ⟨h₁, tk₁, e₁⟩ := x.toInCall.same
  have kp : ∀ b o, s.heap.get? b = some o → s₁.heap.get? b = some o := x.toInCall.keep
  have S₁ := S.keeps (.of kp)
  have hkindOf : ∀ y, env.kindOf y = fd.scope.names.lookup y := fun y => by show env.scope.names.lookup y = _; rw [hscope]
  have newo : ∀ b ∈ own env, s.heap.objs.size ≤ b := fun b hb => by
    rcases List.mem_cons.mp hb with rfl | hb
    · rw [hLC]; exact Nat.le_refl _
    · obtain ⟨p, hp, rfl⟩ := List.mem_map.mp hb
      have := x.above p.1 p.2 hp
      rw [hLC] at this
      exact Nat.le_of_lt this
  have none0 : ∀ b ∈ own env, s.heap.get? b = none := fun b hb => by
    cases e : s.heap.get? b with
    | none => rfl
    | some o => exact absurd (Heap.lt_size e) (Nat.not_lt.mpr (newo b hb))
  have en : EnvRep env (fun x => (names.zip ws).lookup x) H s₁.heap := by
    refine ⟨by rw [hscope]; exact F.kind, by rw [he']; exact F.gl, by rw [he']; exact F.bi, ⟨_, x.toInCall.ns, fun y v hy hv => ?_⟩, fun y v hy hv => ?_, fun y c hc => ?_, fun y hy => ?_, x.apart⟩
    · obtain ⟨z, hz, rz⟩ := lookup_zip_rep hr hv
      refine ⟨z, ?_, rz.ext (.of_full kp)⟩
      rw [bindL_lookup _ _ _ _ hy hnd, hz]; rfl
    · obtain ⟨z, hz, rz⟩ := lookup_zip_rep hr hv
      have hmem : y ∈ names := by rw [← hnm]; exact List.mem_map.mpr ⟨_, mem_of_lookup hz, rfl⟩
      have hcell : fd.scope.names.lookup y = some .cell := by
        rcases hp.2 y hmem with h | h
        · rw [hkindOf, h] at hy; rcases hy with hy | hy <;> cases hy
        · exact h
      obtain ⟨c, hc⟩ := cellsFrom_has (m := s.heap.objs.size + 1) (mem_of_lookup hcell)
      rw [← hcells] at hc
      refine ⟨c, z, hc, ?_, rz.ext (.of_full kp)⟩
      have := x.cell y c hc
      rw [bindC_lookup _ _ _ _ (by rw [hkindOf, hcell]; simp) hnd, hz] at this
      exact this
    · have hl : env.cells.lookup y = some c := by
        rw [hcells] at hc ⊢
        exact cellsFrom_lookup (nodupB_iff F.nd) hc
      exact ⟨_, x.cell y c hl⟩
    · have hcell : fd.scope.names.lookup y = some .cell := by
        rw [hkindOf] at hy
        rcases hy with hy | hy
        · exact hy
        · have := List.all_eq_true.mp F.nofree _ (mem_of_lookup hy)
          simp at this
      obtain ⟨c, hc⟩ := cellsFrom_has (m := s.heap.objs.size + 1) (mem_of_lookup hcell)
      exact ⟨c, by rw [hcells]; exact hc⟩
  have hownF : OwnF B env := fun b hb => S.base.free (none0 b hb)
  refine ⟨B.lim.keeps S₁.base.keep, codeAny_func ?_⟩
  have hA' : Rm n (A.deeper env) := hA.deeper env (by rw [hscope]; exact F.gen) (by rw [hscope]; exact F.co) (by rw [he']; exact F.bi) (by rw [he']; exact F.gl)
  rw [he'] at hA' hownF en
  subst e₁
  rw [he']
  refine wpAny_mono (hx s.heap.objs.size (A.deeper _) hA' hownF _ _ H ⟨S₁.base, S₁.sto, en⟩) (fun f s₂ q => ?_) fun _ _ e => e
  obtain ⟨fl, ρ', st', H', h', tk, rfl, hp', hf, S', es⟩ := q
  refine ⟨retOf fl, st', H', h', tk, rfl, hp', S'.sb, ⟨es.pre, es.xs, fun b hb hn => ?_, fun b o hm hx e => es.keep b o (fun ho => ?_) hm hx (kp b o e)⟩, ?_⟩
  · have := es.new b hb hn
    cases e : s.heap.get? b with
    | none => rfl
    | some o => have e' := kp b o e; rw [this] at e'; cases e'
  · have := none0 b (he' ▸ ho)
    rw [e] at this; cases this
  · cases hf with
    | next => exact .none
    | brk => exact .none
    | cont => exact .none
    | ret r => exact r

theorem fn_om {a : Addr} {fd : FuncData} {body : List Stmt} {names : List Str} {vs ws : List V} {kw : List Value → List (Str × Value)} {pos : List Value → List Value} (F : FnOk B a fd body) (hp : paramsOk fd.scope names = true) (hlen : names.length = ws.length)
    (hb : ∀ H h xs, SB B st H h → RepAll H h xs vs → ∃ ys, (∀ S, peek B.K S (bindArgs fd ⟨pos xs, kw xs⟩) = some (names.zip ys)) ∧ RepAll H h ys ws)
    (hx : ∀ L, EX B n (callEnvC fd L a) m (fun x => (names.zip ws).lookup x) st body (fun fl _ st' => Ψ (retOf fl) st')) :
    OM B (n + 1) m st (fun xs => call (.ref a) (pos xs) (kw xs)) vs Ψ := fun A hA E s H xs S r => fn_core F hp hlen hb hx A hA.rm0 E s H xs S r

/-- a call that leaves all that stood before is pure -/
theorem OM.pl {t : List Value → Sem Value} {vs : List V} {c : V} (h : OM B n st.length st t vs (fun v st' => v = c ∧ ∃ N, st' = st ++ N)) (hc : ∀ H H' h x, H'.hs.take H.hs.length = H.hs → H'.xs = H.xs → Rep H' h x c → Rep H h x c) : PL B n st t vs c := fun A hA E s H xs S r => by
  refine wpAny_mono (h A hA E s H xs S r) (fun x s₁ q => ?_) fun _ _ e => e
  obtain ⟨v, st', H', h', tk, rfl, ⟨rfl, N, rfl⟩, S', cs, r'⟩ := q
  have nk : ∀ b, ∀ k, st.length ≤ k → H.hs[k]? ≠ some b := fun b k hk hb => by
    have := (List.getElem?_eq_some_iff.mp hb).1
    rw [S.sto.len] at this; omega
  refine ⟨⟨h', tk, rfl, ⟨fun b o hx e => cs.keep b o (nk b) hx e, fun _ => S'.base.tab, fun b o e => ?_⟩⟩, hc H H' h' x ?_ cs.xs r'⟩
  · by_cases hx : Ex B b o
    · exact tab_live S'.base.tab hx
    · exact ⟨o, cs.keep b o (nk b) hx e⟩
  · obtain ⟨N', e⟩ := cs.pre
    rw [e]; simp

/-- plain data without handles means the same under any handles -/
def flat : V → Bool
  | .none | .bool _ | .int _ | .str _ => true
  | _ => false
theorem flat_rep {H H' : Hd} {h : Heap} {x : Value} {c : V} (hf : flat c = true) (r : Rep H' h x c) : Rep H h x c := by
  cases r <;> first | (simp [flat] at hf; done) | constructor
theorem OM.plFlat {t : List Value → Sem Value} {vs : List V} {c : V} (hf : flat c = true) (h : OM B n st.length st t vs (fun v st' => v = c ∧ ∃ N, st' = st ++ N)) : PL B n st t vs c := h.pl fun _ _ _ _ _ _ r => flat_rep hf r

variable {env : Env} {ρ : Nm}
/-- a def of the text called by its name -/
theorem ld_fn {A : Around} {E : Value → Shared → Prop} {s : Shared} {H : Hd} {x : Str} {np : Pos} {a : Addr} {fd : FuncData} {body : List Stmt} {Q : Value → Shared → Prop} (F : FnOk B a fd body) (S : Sim B env ρ st H s.heap) (hk : env.kindOf x = some .globalImplicit) (hv : B.mg x = some (.ref a)) (h : Q (.ref a) s) (hd : (x == ("__debug__" : Str)) = false := by kernel_rfl) :
    wpAny (model B.prog B.w) A (eval (.Name x np) env) Q E s := ld_glob S hk (by rw [hv]; rfl) h hd

theorem pm_callFn {x : Str} {np pos : Pos} {e : Expr} {es : List Expr} {a : Addr} {fd : FuncData} {body : List Stmt} (F : FnOk B a fd body) (hk : env.kindOf x = some .globalImplicit) (hv : B.mg x = some (.ref a))
    (ha : PMs B n env m ρ st (e :: es) (fun vs st' => OM B n m st' (fun xs => call (.ref a) xs) vs Ψ)) (hd : (x == ("__debug__" : Str)) = false := by kernel_rfl)
    (he : starEach (e :: es) env = (false, eval e env) :: starEach es env := by rfl) : PM B n env m ρ st (.Call (.Name x np) (e :: es) [] pos) Ψ := fun A hA E s H S => by
  obtain ⟨o, ho, hdat⟩ := F.at_
  refine wpAny_Call_ofName (ld_fn F S hk hv ?_ hd)
  refine callWith_def (o := o) (fd := fd) hdat (wpAny_mono (ha A hA E s H pos S) (fun xs s₁ q => ?_) fun _ _ e => e) he
  obtain ⟨vs, st', H', h', tk, rfl, hp, S', cs, r⟩ := q
  exact ⟨B.KX.keeps S'.base.keep _ _ ho, om_pm hA hp S' cs r⟩
theorem pe_callFn {x : Str} {np pos : Pos} {e : Expr} {es : List Expr} {a : Addr} {fd : FuncData} {body : List Stmt} {vs : List V} {c : V} (F : FnOk B a fd body) (hk : env.kindOf x = some .globalImplicit) (hv : B.mg x = some (.ref a))
    (ha : PEs B n env ρ st (e :: es) vs) (h2 : PL B n st (fun xs => call (.ref a) xs) vs c) (hd : (x == ("__debug__" : Str)) = false := by kernel_rfl)
    (he : starEach (e :: es) env = (false, eval e env) :: starEach es env := by rfl) : PE B n env ρ st (.Call (.Name x np) (e :: es) [] pos) c := fun A hA E s H S => by
  obtain ⟨o, ho, hdat⟩ := F.at_
  refine wpAny_Call_ofName (ld_fn F S hk hv ?_ hd)
  refine callWith_def (o := o) (fd := fd) hdat (wpAny_mono (ha A hA E s H pos S) (fun xs s₁ ⟨k1, r1⟩ => ?_) fun _ _ e => e) he
  have S₁ := S.keeps (kp_get k1)
  exact ⟨B.KX.keeps S₁.base.keep _ _ ho, wpAny_mono (h2 A hA E s₁ H xs S₁.sb r1) (fun z s₂ ⟨k2, r2⟩ => ⟨kp_trans k1 k2, r2⟩) fun _ _ e => e⟩
end
end Mine

-- part Gw15
namespace Mine

/-- what a name of the top means -/
def gname (K : Frag) (x : Str) : Option Value := match K.lookup mainGlobals with
  | some ⟨_, _, .dict es _, _⟩ => nsFind es x
  | _ => none
def hasTop (K : Frag) : Bool := match K.lookup mainGlobals with
  | some ⟨_, _, .dict _ _, _⟩ => true
  | _ => false
theorem mg_of {B : Bs} (ht : hasTop B.K = true) (x : Str) : B.mg x = gname B.K x := by
  unfold gname
  unfold hasTop at ht
  split at ht
  · rename_i c d es n sl h
    obtain ⟨o, es', ep, ho, hd, _, hm⟩ := B.g
    have := B.KX _ _ h
    rw [ho] at this
    cases this
    cases hd
    exact (hm x).symm
  · cases ht
theorem glob_b {B : Bs} {x : Str} {v : Value} (ht : hasTop B.K = true) (hg : gname B.K x = none) (hb : bootBuiltins x = some v) (hx : x ≠ "__name__") : (B.mg x).or (B.mb x) = some v := by
  rw [mg_of ht, hg, B.bb x hx, hb]; rfl
theorem glob_g {B : Bs} {x : Str} {v : Value} (ht : hasTop B.K = true) (hg : gname B.K x = some v) : B.mg x = some v := by rw [mg_of ht, hg]

def fdOf (K : Frag) (a : Addr) : FuncData := match K.lookup a with
  | some ⟨_, _, .func fd, _⟩ => fd
  | _ => default
def bodyOf (fd : FuncData) : List Stmt := match fd.body with
  | .stmts b => b
  | _ => []
def codeOk (K : Frag) (cd : Value) (q : Str) : Bool := match cd with
  | .ref c => (match K.lookup c with
    | some ⟨_, _, .fields vs, _⟩ => (match (vs[1]? : Option Value) with
      | some (Value.str x _) => x == q
      | _ => false)
    | _ => false)
  | _ => false
def fnOkB (K : Frag) (a : Addr) : Bool :=
  (match K.lookup a with | some ⟨_, _, .func _, _⟩ => true | _ => false) && (match (fdOf K a).body with | .stmts _ => true | _ => false) && (fdOf K a).closure.isEmpty && (fdOf K a).globals == mainGlobals && (fdOf K a).builtins == builtinsNs &&
  codeOk K (fdOf K a).code (fdOf K a).qualname && !(fdOf K a).scope.isCoroutine && !(fdOf K a).scope.isGenerator && (fdOf K a).scope.kind == .function && nodupB ((fdOf K a).scope.names.map (·.1)) && ((fdOf K a).scope.names.all fun x => x.2 != .free)
theorem fnOk_of {B : Bs} {a : Addr} (h : fnOkB B.K a = true) : FnOk B a (fdOf B.K a) (bodyOf (fdOf B.K a)) := by
  simp only [fnOkB, Bool.and_eq_true, beq_iff_eq, Bool.not_eq_eq_eq_not, Bool.not_true] at h
  obtain ⟨⟨⟨⟨⟨⟨⟨⟨⟨⟨h1, h2⟩, h3⟩, h4⟩, h5⟩, h6⟩, h7⟩, h8⟩, h9⟩, h10⟩, h11⟩ := h
  refine ⟨?_, ?_, by simpa using h3, h4, h5, ?_, h7, h8, h9, h10, h11⟩
  · unfold fdOf
    split at h1
    · rename_i c d fd sl ho
      exact ⟨_, ho, rfl⟩
    · cases h1
  · unfold bodyOf
    split at h2
    · rename_i b hb; rw [hb]
    · cases h2
  · unfold codeOk at h6
    split at h6
    · rename_i c hc
      split at h6
      · rename_i c' d vs sl ho
        split at h6
        · rename_i x t hx
          refine ⟨c, _, vs, t, hc, B.KX _ _ ho, rfl, ?_⟩
          rw [hx, eq_of_beq h6]
        · cases h6
      · cases h6
    · cases h6

theorem repAll_ints {H : Hd} {h : Heap} : ∀ {vs : List Value} {ns : List Int}, IntsAre vs ns → RepAll H h vs (ns.map V.int)
  | _, _, .nil => .nil
  | _, _, .cons i t r => .cons (.int i t) (repAll_ints r)

theorem well_list {P : Params} {h : Heap} {a : Addr} {ns : List Int} {vs : List Value} (w : Well P h (.ref a) (ofPy (.list (ns.map .int)))) (hl : h.IsList a vs.toArray) : h.get? a = some (lisObj vs.toArray 0) := by
  obtain ⟨o, ho, hc, n, hd⟩ := hl
  have : ∀ d, ofPy (.list (ns.map .int)) = d → Well P h (.ref a) d → h.get? a = some (lisObj vs.toArray 0) := by
    intro d hd' w
    cases w with
    | list hg _ =>
      rw [ho] at hg; cases hg
      cases hd
      exact ho
    | _ => (simp [ofPy] at hd'; try (first | cases hd' | (rw [ho] at *; simp_all)))
  exact this _ rfl w
end Mine

-- part Gw16
namespace Mine

theorem ints_of_rep {H : Hd} {h : Heap} : ∀ {vs : List Value} {ns : List Int}, RepAll H h vs (ns.map V.int) → IntsAre vs ns
  | _, [], r => by cases r; exact .nil
  | _, i :: ns, r => by
    cases r with
    | cons r1 r => cases r1; exact .cons i _ (ints_of_rep r)

-- data by value, the handles read through the store
mutual
def py (st : Store) : Nat → V → Option PyData
  | _, .none => some .none
  | _, .bool b => some (.bool b)
  | _, .int i => some (.int i)
  | _, .str s => some (.str s)
  | f + 1, .tup l => (pys st f l).map .tuple
  | f + 1, .lst l => (pys st f l).map .list
  | f + 1, .ref k => match st[k]? with
    | some l => (pys st f l).map .list
    | none => none
  | _, _ => none
def pys (st : Store) : Nat → List V → Option (List PyData)
  | _, [] => some []
  | f, v :: vs => match py st f v, pys st f vs with
    | some d, some ds => some (d :: ds)
    | _, _ => none
end

theorem reads_of {H : Hd} {st : Store} {h : Heap} (S : SimH H st h) : ∀ (f : Nat) {x : Value} {v : V} {d : PyData}, Rep H h x v → py st f v = some d → ∃ as, Reads h x d as := by
  have all : ∀ (f : Nat), (∀ {x : Value} {v : V} {d : PyData}, Rep H h x v → py st f v = some d → ∃ as, Reads h x d as) → ∀ {xs : List Value} {vs : List V} {ds : List PyData}, RepAll H h xs vs → pys st f vs = some ds → ∃ as, ReadsAll h xs ds as := by
    intro f ih xs
    induction xs with
    | nil => intro vs ds r hd; cases r; simp [pys] at hd; subst hd; exact ⟨_, .nil⟩
    | cons x xs hi =>
      intro vs ds r hd
      cases r with
      | @cons _ _ v vs r1 r =>
        unfold pys at hd
        cases e1 : py st f v with
        | none => rw [e1] at hd; cases hd
        | some d =>
          cases e2 : pys st f vs with
          | none => rw [e1, e2] at hd; cases hd
          | some ds' =>
            rw [e1, e2] at hd
            cases hd
            obtain ⟨as, q⟩ := ih r1 e1
            obtain ⟨bs, q'⟩ := hi r e2
            exact ⟨_, .cons q q'⟩
  intro f
  induction f with
  | zero => intro x v d r hd; cases r <;> simp [py] at hd <;> subst hd <;> exact ⟨_, by constructor⟩
  | succ f ih =>
    intro x v d r hd
    cases r with
    | none => simp [py] at hd; subst hd; exact ⟨_, .none⟩
    | bool b => simp [py] at hd; subst hd; exact ⟨_, .bool b⟩
    | int i t => simp [py] at hd; subst hd; exact ⟨_, .int i t⟩
    | str s t => simp [py] at hd; subst hd; exact ⟨_, .str s t⟩
    | tup ha ho hr =>
      simp only [py, Option.map_eq_some_iff] at hd
      obtain ⟨ds, e, rfl⟩ := hd
      obtain ⟨as, q⟩ := all f ih hr e
      exact ⟨_, .tuple ho rfl rfl q⟩
    | lst ha ho hr =>
      simp only [py, Option.map_eq_some_iff] at hd
      obtain ⟨ds, e, rfl⟩ := hd
      obtain ⟨as, q⟩ := all f ih hr e
      exact ⟨_, .list ho rfl rfl q⟩
    | @ref k a hk =>
      simp only [py] at hd
      cases hl : st[k]? with
      | none => rw [hl] at hd; cases hd
      | some l =>
        rw [hl] at hd
        simp only [Option.map_eq_some_iff] at hd
        obtain ⟨ds, e, rfl⟩ := hd
        obtain ⟨vs, n, ho, hr⟩ := S.at_ k a l hk hl
        obtain ⟨as, q⟩ := all f ih hr e
        exact ⟨_, .list ho rfl rfl q⟩
    | val x => simp [py] at hd

section
variable {B : Bs} {n : Nat} {st : Store}

theorem o_maxL {a : V} {ns : List Int} {M : Int} (hl : lis st a = some (ns.map V.int)) (hM : M ∈ ns) (hmax : ∀ x ∈ ns, x ≤ M) : PL B n st (fun xs => call (.builtin "max") xs) [a] (.int M) := PL.one fun A hA E s H x S rx => by
  obtain ⟨ad, vs, m, rfl, ho, hr⟩ := lis_at (B := B) S.sto rx hl
  have hi := ints_of_rep hr
  obtain ⟨xs, e⟩ := hi.allInts.items
  have hns : ns = xs.toList.map (·.1) := by rw [← hi.numsOf, ← nums_intItems, ← e]
  have hsz : 0 < xs.size := by
    rcases Nat.eq_zero_or_pos xs.size with h | h
    · have : xs.toList = [] := by simpa using h
      rw [hns, this] at hM; cases hM
    · exact h
  have hL : s.heap.IsList ad (intItems xs) := by rw [← e]; simpa using isList_of ho
  refine max_intList hA.hd hL hsz fun v h' tk hv hk => ?_
  obtain ⟨t, rfl⟩ := intItems_at hv
  obtain ⟨h1, h2⟩ := argBest_gt (numAt xs) (xs.size - 1)
  have e1 : numAt xs (argBest (fun i j => decide (numAt xs i > numAt xs j)) (xs.size - 1)) = M := by
    apply Int.le_antisymm
    · apply hmax
      rw [hns, numAt_eq]; exact getD_mem (by rw [List.length_map, Array.length_toList]; omega)
    · rw [hns] at hM
      obtain ⟨p, hp, rfl⟩ := List.mem_map.mp hM
      obtain ⟨i, hi'⟩ := List.getElem?_of_mem hp
      have hil := (List.getElem?_eq_some_iff.mp hi').1
      have : numAt xs i = p.1 := by rw [numAt]; simp at hi' hil; simp [hi']
      rw [← this]
      exact h2 i (by simp at hil; omega)
  rw [e1]
  exact ⟨⟨h', tk, rfl, .of hk⟩, .int ..⟩
theorem o_minL {a : V} {ns : List Int} {M : Int} (hl : lis st a = some (ns.map V.int)) (hM : M ∈ ns) (hmin : ∀ x ∈ ns, M ≤ x) : PL B n st (fun xs => call (.builtin "min") xs) [a] (.int M) := PL.one fun A hA E s H x S rx => by
  obtain ⟨ad, vs, m, rfl, ho, hr⟩ := lis_at (B := B) S.sto rx hl
  have hi := ints_of_rep hr
  obtain ⟨xs, e⟩ := hi.allInts.items
  have hns : ns = xs.toList.map (·.1) := by rw [← hi.numsOf, ← nums_intItems, ← e]
  have hsz : 0 < xs.size := by
    rcases Nat.eq_zero_or_pos xs.size with h | h
    · have : xs.toList = [] := by simpa using h
      rw [hns, this] at hM; cases hM
    · exact h
  have hL : s.heap.IsList ad (intItems xs) := by rw [← e]; simpa using isList_of ho
  refine min_intList hA.hd hL hsz fun v h' tk hv hk => ?_
  obtain ⟨t, rfl⟩ := intItems_at hv
  obtain ⟨h1, h2⟩ := argBest_lt (numAt xs) (xs.size - 1)
  have e1 : numAt xs (argBest (fun i j => decide (numAt xs i < numAt xs j)) (xs.size - 1)) = M := by
    apply Int.le_antisymm
    · rw [hns] at hM
      obtain ⟨p, hp, rfl⟩ := List.mem_map.mp hM
      obtain ⟨i, hi'⟩ := List.getElem?_of_mem hp
      have hil := (List.getElem?_eq_some_iff.mp hi').1
      have : numAt xs i = p.1 := by rw [numAt]; simp at hi' hil; simp [hi']
      rw [← this]
      exact h2 i (by simp at hil; omega)
    · apply hmin
      rw [hns, numAt_eq]; exact getD_mem (by rw [List.length_map, Array.length_toList]; omega)
  rw [e1]
  exact ⟨⟨h', tk, rfl, .of hk⟩, .int ..⟩
theorem o_sumL {a : V} {ns : List Int} (hl : lis st a = some (ns.map V.int)) : PL B n st (fun xs => call (.builtin "sum") xs) [a] (.int ns.sum) := PL.one fun A hA E s H x S rx => by
  obtain ⟨ad, vs, m, rfl, ho, hr⟩ := lis_at (B := B) S.sto rx hl
  have hi := ints_of_rep hr
  obtain ⟨xs, e⟩ := hi.allInts.items
  have hns : ns = xs.toList.map (·.1) := by rw [← hi.numsOf, ← nums_intItems, ← e]
  have hL : s.heap.IsList ad (intItems xs) := by rw [← e]; simpa using isList_of ho
  refine sum_intListG hA.hd hL fun h' tk t' hk => ?_
  have e2 : preSum (numAt xs) xs.size = ns.sum := by rw [preSum_eq, List.take_of_length_le (by simp), hns]
  rw [e2]
  exact ⟨⟨h', tk, rfl, .of hk⟩, .int ..⟩
theorem o_max2 {a b : Int} : PL B n st (fun xs => call (.builtin "max") xs) [.int a, .int b] (.int (if b > a then b else a)) := PL.two fun A hA E s H x y S rx ry => by
  cases rx; cases ry
  refine max_two_ints hA.hd fun h' tk hk => ⟨⟨h', tk, rfl, .of hk⟩, ?_⟩
  by_cases hc : b > a
  · rw [if_pos hc, if_pos hc]; exact .int ..
  · rw [if_neg hc, if_neg hc]; exact .int ..

theorem o_eqD {a b : V} {da db : PyData} (f g : Nat) (ha : py st f a = some da) (hb : py st g b = some db) (sa : SeqAt.shaped da = true) (sb : SeqAt.shaped db = true) : P2 B n st (compareOp .Eq) a b (.bool (PyData.eqv da db)) := fun A hA E s H x y S rx ry => by
  obtain ⟨as, ra⟩ := reads_of S.sto f rx ha
  obtain ⟨bs, rb⟩ := reads_of S.sto g ry hb
  exact eq_dataH ra rb sa sb (by have := hA.un; simp only [cLine]; omega) ⟨kp_refl _, .bool _⟩
theorem o_neD {a b : V} {da db : PyData} (f g : Nat) (ha : py st f a = some da) (hb : py st g b = some db) (sa : SeqAt.shaped da = true) (sb : SeqAt.shaped db = true) : P2 B n st (compareOp .NotEq) a b (.bool (!PyData.eqv da db)) := fun A hA E s H x y S rx ry => by
  obtain ⟨as, ra⟩ := reads_of S.sto f rx ha
  obtain ⟨bs, rb⟩ := reads_of S.sto g ry hb
  exact ne_dataH ra rb sa sb (by have := hA.un; simp only [cLine]; omega) ⟨kp_refl _, .bool _⟩
/-- equal data -/
theorem o_eqSame {a b : V} {d : PyData} (f g : Nat) (ha : py st f a = some d) (hb : py st g b = some d) (sa : SeqAt.shaped d = true) : P2 B n st (compareOp .Eq) a b (.bool true) := by
  have := o_eqD (B := B) (n := n) f g ha hb sa sa
  rwa [SeqAt.eqv_refl d (SeqAt.canLay_of_shaped sa)] at this
theorem o_neSame {a b : V} {d : PyData} (f g : Nat) (ha : py st f a = some d) (hb : py st g b = some d) (sa : SeqAt.shaped d = true) : P2 B n st (compareOp .NotEq) a b (.bool false) := by
  have := o_neD (B := B) (n := n) f g ha hb sa sa
  rwa [SeqAt.eqv_refl d (SeqAt.canLay_of_shaped sa)] at this
end
end Mine

-- part Gw17
namespace Mine
section
variable {B : Bs} {n m : Nat} {env : Env} {ρ : Nm} {st : Store} {Φ : Fl → Nm → Store → Prop} {Ψ : V → Store → Prop}

theorem nm_ne {ρ : Nm} {x y : Str} {v w : V} (h : ρ y = some w) (hne : y ≠ x := by decide +kernel) : upd ρ x v y = some w := by unfold upd; rw [if_neg hne]; exact h
theorem nm_eq {ρ : Nm} {x : Str} {v : V} : upd ρ x v x = some v := by unfold upd; rw [if_pos rfl]

/-- a local name -/
theorem pn {x : Str} {pos : Pos} {v : V} (hv : ρ x = some v) (hk : env.kindOf x = some .local := by kernel_rfl)
    (hd : (x == ("__debug__" : Str)) = false := by kernel_rfl) (hc : (x == ("__classdict__" : Str)) = false := by kernel_rfl) : PE B n env ρ st (.Name x pos) v := pe_name hv (.inl hk) hd hc
/-- a name in a cell of its own -/
theorem pc {x : Str} {pos : Pos} {v : V} (hv : ρ x = some v) (hk : env.kindOf x = some .cell := by kernel_rfl)
    (hd : (x == ("__debug__" : Str)) = false := by kernel_rfl) (hc : (x == ("__classdict__" : Str)) = false := by kernel_rfl) : PE B n env ρ st (.Name x pos) v := pe_name hv (.inr (.inl hk)) hd hc
/-- a name of a frame around -/
theorem pf {x : Str} {pos : Pos} {v : V} (hv : ρ x = some v) (hk : env.kindOf x = some .free := by kernel_rfl)
    (hd : (x == ("__debug__" : Str)) = false := by kernel_rfl) (hc : (x == ("__classdict__" : Str)) = false := by kernel_rfl) : PE B n env ρ st (.Name x pos) v := pe_name hv (.inr (.inr hk)) hd hc

theorem xa {x : Str} {px pos : Pos} {e : Expr} (h : PM B n env m ρ st e (fun v st' => Φ .next (upd ρ x v) st')) (hk : env.kindOf x = some .local := by kernel_rfl) (hs : swapsWith e (some (.Name x px)) pos.line env = pure false := by rfl) :
    EX1 B n env m ρ st (.Assign [.Name x px] e pos) Φ := x_assign h (.inl hk) hs
theorem xc {x : Str} {px pos : Pos} {e : Expr} (h : PM B n env m ρ st e (fun v st' => Φ .next (upd ρ x v) st')) (hk : env.kindOf x = some .cell := by kernel_rfl) (hs : swapsWith e (some (.Name x px)) pos.line env = pure false := by rfl) :
    EX1 B n env m ρ st (.Assign [.Name x px] e pos) Φ := x_assign h (.inr hk) hs

/-- an if whose ways meet again -/
theorem x_ifJ {t : Expr} {b o : List Stmt} {pos : Pos} {c : Bool} (J : Nm → Store → Prop) (h1 : PT B n env ρ st t c) (h2 : c = true → EX B n env m ρ st b (fun f ρ st => f = .next ∧ J ρ st)) (h3 : c = false → EX B n env m ρ st o (fun f ρ st => f = .next ∧ J ρ st))
    (h4 : ∀ ρ st, J ρ st → Φ .next ρ st) : EX1 B n env m ρ st (.If t b o pos) Φ :=
  x_if h1 (fun h => (h2 h).mono fun f ρ st q => by rw [q.1]; exact h4 _ _ q.2) (fun h => (h3 h).mono fun f ρ st q => by rw [q.1]; exact h4 _ _ q.2)

/-- a comparison whose left side is no pure one -/
theorem pm_cmp {l r : Expr} {op : CmpOp} {pos : Pos} (h1 : PM B n env m ρ st l (fun a st' => ∃ b c, PE B n env ρ st' r b ∧ P2 B n st' (compareOp op) a b c ∧ Ψ c st')) (hm : behindInMarks op r = false := by with_unfolding_all rfl) : PM B n env m ρ st (.Compare l [op] [r] pos) Ψ := fun A hA E s H S => by
  refine wpAny_Compare1 (wpAny_mono (h1 A hA E s H S) (fun x s₁ q => ?_) fun _ _ e => e) hm
  obtain ⟨a, st', H', h', tk, rfl, ⟨b, c, h2, h3, hp⟩, S', cs, r⟩ := q
  refine wpAny_mono (h2 A hA E _ H' S') (fun y s₂ ⟨k2, r2⟩ => ?_) fun _ _ e => e
  refine wpAny_mono (h3 A hA E s₂ H' x y (S'.sb.keeps (kp_get k2)) (r.ext (kp_dk k2 H')) r2) (fun z s₃ ⟨k3, r3⟩ => ?_) fun _ _ e => e
  have kk := kp_trans k2 k3
  obtain ⟨h₂, tk₂, rfl, kp⟩ := kk
  exact ⟨c, st', H', h₂, tk₂, rfl, hp, S'.keeps kp, cs.trans (.of_keeps kp) S'.sb, r3⟩
theorem o_lenN {a : V} {l : List V} {k : Nat} (hl : lis st a = some l) (hk : l.length = k) (hfit : k < 2 ^ 62) : PL B n st (fun xs => call (.builtin "len") xs) [a] (.int k) := by subst hk; exact o_len hl hfit
theorem o_neF {a : Int} : P2 B n st (compareOp .NotEq) (.int a) (.int a) (.bool false) := by have := o_ne (B := B) (n := n) (st := st) (a := a) (b := a); simpa using this
theorem o_eqT {a : Int} : P2 B n st (compareOp .Eq) (.int a) (.int a) (.bool true) := by have := o_eq (B := B) (n := n) (st := st) (a := a) (b := a); simpa using this
theorem o_ltD {a b : Int} {c : Bool} (h : decide (a < b) = c) : P2 B n st (compareOp .Lt) (.int a) (.int b) (.bool c) := h ▸ o_lt
end
end Mine

-- part Gw18
namespace Mine
section
variable {B : Bs} {n m : Nat} {env : Env} {ρ : Nm} {st : Store} {Φ : Fl → Nm → Store → Prop} {Ψ : V → Store → Prop}

/-- the namespace of a comprehension is let go -/
theorem Sim.but {H : Hd} {h h' : Heap} {C : Addr} {q : Str → Option Value} (S : Sim B env ρ st H h) (hn : h.Ns C q) (hC0 : B.free C) (hL : env.locals ≠ C) (hs : Heap.SameBut C h h') : Sim B env ρ st H h' ∧ DKeep H h H h' := by
  have ks : ∀ b o, IsSeq o → h.get? b = some o → h'.get? b = some o := fun b o hq e => hs.extBut b o (fun e' => by
    subst e'
    obtain ⟨o', es, ep, ho', hd, _⟩ := hn
    rw [e] at ho'; cases ho'
    obtain ⟨_, _, hq⟩ := hq
    rw [hd] at hq; cases hq) e
  have kc : ∀ {c : Addr} {v : Option Value}, h.IsCell c v → c ≠ C := fun hc e => by
    subst e
    obtain ⟨o, es, ep, ho, hd, _⟩ := hn
    obtain ⟨o', ho', hd'⟩ := hc
    rw [ho] at ho'; cases ho'; rw [hd] at hd'; cases hd'
  refine ⟨⟨base_ne S.base (W := (· = C)) (fun b o hb e => hs.extBut b o hb e) (fun b hb => hb ▸ hC0) (fun b o hb e => by subst hb; exact ns_notCode hn e), S.sto.keepSeq ks, S.en.kind, S.en.gl, S.en.bi, ?_, fun z w hz hw => ?_, fun z c hz => ?_, S.en.has, S.en.apart⟩, dk_seq ks⟩
  · obtain ⟨q', hm, hr⟩ := S.en.loc
    exact ⟨q', hm.sameBut hs hL, fun z w hz hw => let ⟨y, hy, r⟩ := hr z w hz hw; ⟨y, hy, r.ext (dk_seq ks)⟩⟩
  · obtain ⟨c, y', h1, h2, h3⟩ := S.en.cell z w hz hw
    exact ⟨c, y', h1, h2.sameBut hs (kc h2), h3.ext (dk_seq ks)⟩
  · obtain ⟨w, hc⟩ := S.en.cells z c hz
    exact ⟨w, hc.sameBut hs (kc hc)⟩

/-- a list comprehension gives these -/
def PC (B : Bs) (n : Nat) (env : Env) (ρ : Nm) (st : Store) (e : Expr) (out : List V) : Prop :=
  ∃ elt target iter ifs gs scope pos, e = .ListComp elt (⟨target, iter, ifs, 0⟩ :: gs) scope pos ∧ (∀ x, foldedSetIterable iter env x = pure x) ∧ okScope env scope = true ∧
    ∀ A, Rm n A → ∀ (E : Value → Shared → Prop) (s : Shared) (H : Hd) (RR : Value → Addr → Result → Shared → Prop), Sim B env ρ st H s.heap →
      (∀ D C h' tk m, s.heap.get? D = none → s.heap.get? C = none → D ≠ C → h'.Ns C m → AccAt D out ⟨H.hs, [D] ++ H.xs⟩ h' → KH B s.heap h' → RR (.ref D) C (.ok .next) { s with heap := h', toks := tk }) →
      wpAny (model B.prog B.w) A (eval iter env) (fun xv s₁ => wpAny (model B.prog B.w) A (pyIter xv) (fun it s₂ => wpAny (model B.prog B.w) A (newList []) (fun acc s₃ => wpAny (model B.prog B.w) A (newFunctionEnv scope env.globals (closOf env scope.names []) [] env.qual none .none (some env)) (fun cenv s₄ =>
        codeAny (model B.prog B.w) A (.compStart (.ListComp elt (⟨target, iter, ifs, 0⟩ :: gs) scope pos) 0 it acc { cenv with scope := relabel scope env }) (RR acc cenv.locals) s₄) E s₃) E s₂) E s₁) E s

theorem PC.pe {e : Expr} {out : List V} (h : PC B n env ρ st e out) : PE B n env ρ st e (.lst out) := fun A hA E s H S => by
  obtain ⟨elt, target, iter, ifs, gs, scope, pos, rfl, hs, ok, h⟩ := h
  obtain ⟨f1, f2, f3⟩ := okScope_facts ok
  rw [eval_ListComp]
  refine wpAny_comprehension_free (use := none) rfl hs (hclos_of S.en ok) f1 (hnames_of f2) (h A hA E s H (fun acc C => compPost (model B.prog B.w) A E none _ acc C) S ?_)
  intro D C h' tk m hD hC hDC hn acc kp
  refine ⟨m, hn, fun h'' hs'' => ?_⟩
  obtain ⟨⟨vs', q, ho, hr⟩, hDH⟩ := accAt_end S.sto hD hDC hn acc hs''
  exact ⟨⟨h'', tk, rfl, kp.but hC hn hs''⟩, .lst hDH ho hr.dropX⟩

theorem PC.pm {e : Expr} {out : List V} (h : PC B n env ρ st e out) (hp : Ψ (.ref st.length) (st ++ [out])) : PM B n env m ρ st e Ψ := fun A hA E s H S => by
  obtain ⟨elt, target, iter, ifs, gs, scope, pos, rfl, hs, ok, h⟩ := h
  obtain ⟨f1, f2, f3⟩ := okScope_facts ok
  rw [eval_ListComp]
  refine wpAny_comprehension_free (use := none) rfl hs (hclos_of S.en ok) f1 (hnames_of f2) (h A hA E s H (fun acc C => compPost (model B.prog B.w) A E none _ acc C) S ?_)
  intro D C h' tk q hD hC hDC hn acc kp
  refine ⟨q, hn, fun h'' hs'' => ?_⟩
  obtain ⟨⟨vs', q, ho, hr⟩, hDH⟩ := accAt_end S.sto hD hDC hn acc hs''
  have kp' : KH B s.heap h'' := kp.but hC hn hs''
  obtain ⟨S2, cs, r⟩ := sim_new (m := m) S kp' hD ho (l := out) (hr.move)
  exact ⟨_, _, _, h'', tk, rfl, hp, S2, cs, r⟩

/-- x = [...]: the store is made ahead of the variables' end -/
theorem xu {e : Expr} {out : List V} {y : Str} {py spos : Pos} (h : PC B n env ρ st e out) (hp : Φ .next (upd ρ y (.lst out)) st) (hk : env.kindOf y = some .local := by kernel_rfl) (hsw : swapsWith e (some (.Name y py)) spos.line env = pure true := by kernel_rfl) : EX1 B n env m ρ st (.Assign [.Name y py] e spos) Φ := fun A hA O E s H S => by
  obtain ⟨elt, target, iter, ifs, gs, scope, pos, rfl, hs, ok, h⟩ := h
  obtain ⟨f1, f2, f3⟩ := okScope_facts ok
  rw [exec_Assign_Name_used _ _ _ _ hsw]
  refine wpAny_bind (wpAny_standAt (wpAny_bind ?_))
  show wpAny _ A (do let _ ← comprehension (.ListComp elt (⟨target, iter, ifs, 0⟩ :: gs) scope pos) scope env _ (newList []) false (eval iter env) (some (assign (.Name y py) env))) _ _ s
  refine wpAny_bind (wpAny_mono (wpAny_comprehension_free (use := some (assign (.Name y py) env)) (Q := fun _ s' => _) rfl hs (hclos_of S.en ok) f1 (hnames_of f2) (h A hA E s H (fun acc C => compPost (model B.prog B.w) A E (some (assign (.Name y py) env)) _ acc C) S ?_)) (fun _ s' hq => wpAny_pure (wpAny_pure hq)) fun _ _ e => e)
  intro D C h' tk q hD hC hDC hn acc kp
  show wpAny _ A (assign (.Name y py) env (.ref D)) _ _ _
  have S' := S.keeps kp
  obtain ⟨⟨vs', q', ho, hr⟩, hDH⟩ := accAt_end S.sto hD hDC hn acc (h'' := h') (Heap.SameBut.refl _ _)
  have hlive : ∀ b, wrt env [y] b → b ≠ C := fun b hb e => by
    subst e
    obtain ⟨o, ho⟩ := S.en.live _ (wrt_own hb)
    rw [hC] at ho; cases ho
  have hC0 : B.free C := S.base.free hC
  refine wpAny_assign_Name (st_name (xs := [y]) (v := .lst out) S' (O.own _) (by simp) (.inl hk) (.lst hDH ho hr.dropX) fun h₂ tk₂ S₂ kp₂ => ?_)
  have hn₂ : h₂.Ns C q := hn.at' fun o e => kp₂ C o (fun hw => hlive C hw rfl) e
  refine ⟨q, hn₂, fun h₃ hs₃ => ?_⟩
  obtain ⟨S₃, dk₃⟩ := S₂.but hn₂ hC0 (hlive _ (.inl rfl)) hs₃
  refine ⟨.next, _, st, H, h₃, tk₂, rfl, hp, .next, S₃, ?_⟩
  refine ⟨⟨[], by simp⟩, rfl, fun _ a b => absurd a b, fun b o hb _ hx e => ?_⟩
  exact hs₃.extBut b o (fun e' => by subst e'; rw [hC] at e; cases e) (kp₂ b o (fun hw => hb (wrt_own hw)) (kp.keep b o hx e))

theorem pc_comp0 {elt target iter : Expr} {ifs : List Expr} {scope : Scope} {pos : Pos} {vs : List V} {Cond : Store → Prop} {Tg : Expr → Prop} {pl : Bool} {xs : List Str} (hiter : PI B n env ρ st iter vs Cond Tg pl) (htg : Tg target) (ok : okScope env scope = true) (hxs : ∀ x ∈ xs, scope.names.lookup x = some .local ∨ scope.names.lookup x = some .cell)
    (outs : List (List V)) (hlen : outs.length = vs.length)
    (hturn : ∀ (i : Nat) v out, vs[i]? = some v → outs[i]? = some out → ∀ C, ∃ ρ' p w, PA B n (cEnv scope C env) st target v xs (restr scope ρ) ρ' ∧ PTs B n (cEnv scope C env) ρ' st ifs p ∧ (p = true → PE B n (cEnv scope C env) ρ' st elt w) ∧ out = (if p then [w] else []) ∧ ∀ y u, restr scope ρ y = some u → ρ' y = some u)
    (hsz : (outs.flatten).length ≤ sizeLine) (hs : ∀ x, foldedSetIterable iter env x = pure x := by intro _; rfl) :
    PC B n env ρ st (.ListComp elt [⟨target, iter, ifs, 0⟩] scope pos) outs.flatten :=
  ⟨elt, target, iter, ifs, [], scope, pos, rfl, hs, ok, fun A hA E s H RR S hRR => comp_block1 (RR := RR) hA S hiter htg ok hxs outs hlen hturn hsz hRR⟩

theorem pc_if {α : Type} {elt target iter : Expr} {ifs : List Expr} {scope : Scope} {pos : Pos} {Cond : Store → Prop} {Tg : Expr → Prop} {pl : Bool} (xs : List Str) (as : List α) (c : α → V) (ρ' : α → Str → Option V) (p : α → Bool) (f : α → V) {vs out : List V} (hout : out = (as.filter p).map f) (hiter : PI B n env ρ st iter vs Cond Tg pl) (hvs : vs = as.map c) (htg : Tg target) (ok : okScope env scope = true)
    (hxs : ∀ x ∈ xs, scope.names.lookup x = some .local ∨ scope.names.lookup x = some .cell)
    (hpa : ∀ a ∈ as, ∀ C, PA B n (cEnv scope C env) st target (c a) xs (restr scope ρ) (ρ' a)) (hw : ∀ a ∈ as, ∀ y u, restr scope ρ y = some u → ρ' a y = some u)
    (hp : ∀ a ∈ as, ∀ C, PTs B n (cEnv scope C env) (ρ' a) st ifs (p a)) (hf : ∀ a ∈ as, p a = true → ∀ C, PE B n (cEnv scope C env) (ρ' a) st elt (f a))
    (hsz : as.length ≤ sizeLine) (hs : ∀ x, foldedSetIterable iter env x = pure x := by intro _; rfl) :
    PC B n env ρ st (.ListComp elt [⟨target, iter, ifs, 0⟩] scope pos) out := by
  subst hvs hout
  rw [← flatten_if]
  refine pc_comp0 hiter htg ok hxs _ (by simp) (fun i v out hv ho C => ?_) ?_ hs
  · rw [List.getElem?_map] at hv ho
    cases ha : as[i]? with
    | none => rw [ha] at hv; cases hv
    | some a =>
      rw [ha] at hv ho
      cases hv; cases ho
      have hm := List.mem_of_getElem? ha
      exact ⟨ρ' a, p a, f a, hpa a hm C, hp a hm C, fun h => hf a hm h C, rfl, hw a hm⟩
  · rw [flatten_if, List.length_map]; exact Nat.le_trans (List.length_filter_le _ _) hsz

theorem pc_name {α : Type} {elt iter : Expr} {x : Str} {px : Pos} {ifs : List Expr} {scope : Scope} {pos : Pos} {Cond : Store → Prop} {Tg : Expr → Prop} {pl : Bool} (as : List α) (c : α → V) (p : α → Bool) (f : α → V) {vs out : List V} (hout : out = (as.filter p).map f) (hiter : PI B n env ρ st iter vs Cond Tg pl) (hvs : vs = as.map c) (htg : Tg (.Name x px))
    (hp : ∀ a ∈ as, ∀ C, PTs B n (cEnv scope C env) (upd (restr scope ρ) x (c a)) st ifs (p a)) (hf : ∀ a ∈ as, p a = true → ∀ C, PE B n (cEnv scope C env) (upd (restr scope ρ) x (c a)) st elt (f a))
    (hsz : as.length ≤ sizeLine) (ok : okScope env scope = true := by kernel_rfl) (hx : scope.names.lookup x = some .local := by kernel_rfl) (hs : ∀ x, foldedSetIterable iter env x = pure x := by intro _; rfl) :
    PC B n env ρ st (.ListComp elt [⟨.Name x px, iter, ifs, 0⟩] scope pos) out :=
  pc_if [x] as c (fun a => upd (restr scope ρ) x (c a)) p f hout hiter hvs htg ok (fun y hy => by cases List.mem_singleton.mp hy; exact .inl hx) (fun a _ C => pa_name (List.mem_singleton.mpr rfl) (kind_comp (.inl hx))) (fun a _ => upd_weak (.inl hx) fun _ _ h => h) hp hf hsz hs
/-- two names as the target -/
theorem pc_two {α : Type} {elt iter : Expr} {x y : Str} {px py pt : Pos} {kt : Nat} {ifs : List Expr} {scope : Scope} {pos : Pos} {Cond : Store → Prop} {Tg : Expr → Prop} {pl : Bool} (as : List α) (c d : α → V) (p : α → Bool) (f : α → V) {vs out : List V} (hout : out = (as.filter p).map f) (hiter : PI B n env ρ st iter vs Cond Tg pl) (hvs : vs = as.map fun a => V.tup [c a, d a]) (htg : Tg (.Tuple [.Name x px, .Name y py] kt pt))
    (hp : ∀ a ∈ as, ∀ C, PTs B n (cEnv scope C env) (upd (upd (restr scope ρ) x (c a)) y (d a)) st ifs (p a)) (hf : ∀ a ∈ as, p a = true → ∀ C, PE B n (cEnv scope C env) (upd (upd (restr scope ρ) x (c a)) y (d a)) st elt (f a))
    (hsz : as.length ≤ sizeLine) (ok : okScope env scope = true := by kernel_rfl) (hx : scope.names.lookup x = some .local := by kernel_rfl) (hy : scope.names.lookup y = some .local := by kernel_rfl) (hs : ∀ x, foldedSetIterable iter env x = pure x := by intro _; rfl) :
    PC B n env ρ st (.ListComp elt [⟨.Tuple [.Name x px, .Name y py] kt pt, iter, ifs, 0⟩] scope pos) out :=
  pc_if [x, y] as _ (fun a => upd (upd (restr scope ρ) x (c a)) y (d a)) p f hout hiter hvs htg ok (fun z hz => by simp at hz; rcases hz with rfl | rfl <;> exact .inl (by assumption))
    (fun a _ C => pa_tuple (pas_cons (pa_name (by simp) (kind_comp (.inl hx))) (pas_cons (pa_name (by simp) (kind_comp (.inl hy))) pas_nil))) (fun a _ => upd_weak (.inl hy) (upd_weak (.inl hx) fun _ _ h => h)) hp hf hsz hs

/-- a range by its length -/
theorem pi_rangeN {np pos : Pos} {e : Expr} {k : Nat} {vs : List V} (h1 : PE B n env ρ st e (.int k)) (hvs : vs = (List.range k).map fun j => V.int (j : Nat)) (hb : k < 2 ^ 62)
    (hv : (B.mg "range").or (B.mb "range") = some (.type "range")) (hk : env.kindOf "range" = some .globalImplicit := by kernel_rfl)
    (he : starEach [e] env = [(false, eval e env)] := by rfl) :
    PI B n env ρ st (.Call (.Name "range" np) [e] [] pos) vs (fun _ => True) AnyT true := by
  have := pi_range1 (np := np) (pos := pos) h1 (by omega) hv hk he
  rw [hvs]
  have e : (rng 0 1 (k : Int).toNat).map V.int = (List.range k).map fun j => V.int (j : Nat) := by simp [rng]
  rwa [e] at this

/-- names of the frame within a comprehension -/
theorem rs {scope : Scope} {x : Str} {v : V} (h : ρ x = some v) (hk : scope.names.lookup x = some .free := by kernel_rfl) : restr scope ρ x = some v := by unfold restr; rw [if_pos hk]; exact h
end
end Mine

-- part Gw19
namespace Mine
section
variable {B : Bs} {n m : Nat}

/-- the claim's end from the walk of the law's body -/
theorem law_end {s₁ : Shared} (hB : ∀ b o, ¬ B.isT b → s₁.heap.get? b = some o → B.h₀.get? b = some o) (hB' : ∀ b o, B.h₀.get? b = some o → s₁.heap.get? b = some o) (hT : ∀ t ∈ B.tabs, s₁.heap.TableAt t.c t.P #[]) (hg : s₁.gens = #[]) {c : ClaimW} {cl : Str → Option Addr} {mean : ExcName → Option Value} {args : List WData} {a : Addr} {fd : FuncData} {body : List Stmt} {sc : Addr} {vs : List Value} {ns : List Int}
    (F : FnOk B a fd body) (hp : paramsOk fd.scope ["script"] = true) (hb : ∀ x S, peek B.K S (bindArgs fd ⟨[x], []⟩) = some [(("script" : Str), x)]) (hl : s₁.heap.get? sc = some (lisObj vs.toArray 0)) (hI : IntsAre vs ns)
    (hx : ∀ L, EX B n (callEnvC fd L a) 0 (fun y => ((["script"] : List Str).zip [V.lst (ns.map V.int)]).lookup y) [] body (fun fl _ _ => retOf fl = .bool true)) (hn : n ≤ 400)
    (hr : ∀ cls, c.raises args cls = false) (hpost : c.post args (.bool true) args = true) :
    wpAny (model B.prog B.w) callerA (call (.ref a) [.ref sc]) (fun v s' => GoodWG c cl mean args s₁ (.ok (.ret v)) s') (fun e s' => GoodWG c cl mean args s₁ (.error e) s') s₁ := by
  have rm : Rm0 (n + 1) callerA := ⟨rfl, by show 1 + claimMargin + (n + 1) ≤ 890; simp only [claimMargin]; omega, by show 4 + 20 * (n + 1) ≤ 9000; omega, ⟨_, rfl⟩⟩
  have sb : SB B [] ⟨[], []⟩ s₁.heap := ⟨⟨hB', fun a ha => (by rcases ha with ha | ha <;> cases ha), fun t ht => ⟨#[], (hT t ht).2, trivial, fun pos cv e => by simp [codeAmong] at e⟩⟩, ⟨rfl, List.nodup_nil, fun k b l hk => by simp at hk, fun b hb => (by rcases hb with hb | hb <;> cases hb), fun b hb => (by cases hb)⟩⟩
  have rp : RepAll ⟨[], []⟩ s₁.heap [.ref sc] [V.lst (ns.map V.int)] := .one (.lst (by rintro (h | h) <;> cases h) hl (repAll_ints hI))
  refine wpAny_mono (fn_core (m := 0) (st := []) (vs := [V.lst (ns.map V.int)]) (Ψ := fun v _ => v = .bool true) (names := ["script"]) (ws := [V.lst (ns.map V.int)]) (pos := fun xs => xs) (kw := fun _ => []) F hp rfl (fun H h xs S r => ?_) hx callerA rm _ s₁ ⟨[], []⟩ [.ref sc] sb rp) (fun z s' q => ?_) fun _ _ e => e
  · cases r with
    | cons r1 r => cases r; exact ⟨[_], fun S => hb _ S, .one r1⟩
  · obtain ⟨v, st', H', h', tk, rfl, rfl, SB', cs, rz⟩ := q
    cases rz
    refine ⟨.inl ⟨_, _, [], rfl, hr, ReadsW.bool true, hpost, fun _ => ⟨List.nodup_nil, fun _ hm => (nomatch hm)⟩⟩, ⟨fun b o e => ?_, fun b o e => ?_⟩, rfl, .of_eq hg⟩
    · by_cases ht : B.isT b
      · obtain ⟨t, ht, rfl⟩ := ht
        obtain ⟨ps, h1, _⟩ := SB'.base.tab t ht
        have h2 := (hT t ht).2
        rw [e] at h2; cases h2
        exact .inr (.inl ⟨(hT t ht).isCodeTable, rfl, #[], ps, rfl, by simpa using h1⟩)
      · exact .inl (SB'.base.keep b o (hB b o ht e))
    · by_cases ht : B.isT b
      · obtain ⟨t, ht, rfl⟩ := ht
        obtain ⟨ps, h1, _⟩ := SB'.base.tab t ht
        exact ⟨_, h1⟩
      · exact ⟨o, SB'.base.keep b o (hB b o ht e)⟩
end
end Mine

-- part Gw22
namespace Mine

theorem ns_hide {h : Heap} {ts : List Addr} {a : Addr} {m : Str → Option Value} (x : h.Ns a m) (ha : a ∉ ts) : (hideAll h ts).Ns a m := x.at' fun o e => hideAll_get _ e ha

/-- an object of the fragment that is a def -/
def isFn (K : Frag) (a : Addr) : Bool := match K.lookup a with
  | some ⟨_, _, .func _, _⟩ => true
  | _ => false

theorem tab_of_top {p : Program} {loose : List Str} {mean : ExcName → Option Value} {mg mb : Str → Option Value} {h : Heap} (T : Top p loose mean mg mb h) {K : Frag} (KX : K.In h) {name : Str} {a c P : Addr} (hd : name ∈ (recsOf p).map (·.name)) (hm : mg name = some (.ref a)) (hf : isFn K a = true) (hfd : (fdOf K a).code = .ref c) (hc : codeHdIn K c P = true) : h.TableAt c P #[] := by
  obtain ⟨d, hdm, rfl⟩ := List.mem_map.mp hd
  obtain ⟨a', o, fd, c', P', h1, h2, h3, h4, h5, h6⟩ := T.tab d hdm
  rw [hm] at h1; cases h1
  have hfo : ∃ o', K.lookup a = some o' ∧ o'.data = .func (fdOf K a) := by
    unfold isFn at hf
    unfold fdOf
    split at hf
    · rename_i c d fd sl ho
      exact ⟨_, ho, by first | rfl | rw [ho]⟩
    · cases hf
  obtain ⟨o', ho', hd'⟩ := hfo
  have := KX _ _ ho'
  rw [h2] at this; cases this
  rw [h3] at hd'; cases hd'
  rw [h4] at hfd; cases hfd
  obtain ⟨o, vs, file, tf, flags, tg, inF, text, tt, e1, e2, e3, e4, _⟩ := codeHd_of_K KX hc
  obtain ⟨⟨o2, vs2, f1, f2, f3, f4⟩, f5⟩ := h6
  rw [e1] at f1; cases f1
  rw [e3] at f3; cases f3
  rw [e4] at f4; cases f4
  exact ⟨⟨o, vs, e1, e2, e3, e4⟩, f5⟩

structure TabsFit (p : Program) (mg : Str → Option Value) (K : Frag) (tabs : List Tab) : Prop where
  nd : (tabs.map (·.P)).Nodup
  nK : ∀ t ∈ tabs, K.lookup t.P = none
  co : ∀ t ∈ tabs, codeHdIn K t.c t.P = true
  st : ∀ t ∈ tabs, t.P ≠ mainGlobals ∧ t.P ≠ builtinsNs ∧ t.P ≠ cStatics ∧ t.P ≠ sysModules
  fn : ∀ t ∈ tabs, ∃ name a, name ∈ (recsOf p).map (·.name) ∧ mg name = some (.ref a) ∧ isFn K a = true ∧ (fdOf K a).code = .ref t.c

/-- the base from the head's facts -/
def Bs.of {p : Program} {loose : List Str} {mean : ExcName → Option Value} {mg mb : Str → Option Value} {h : Heap} (T : Top p loose mean mg mb h) (prog : Program) (w : World) (hi : importsNone p = true) (tree : prog.given.tree = none) (K : Frag) (KX : K.In h) (tabs : List Tab) (X : TabsFit p mg K tabs) : Bs where
  prog := prog
  w := w
  h₀ := hideAll h (tabs.map (·.P))
  mg := mg
  mb := mb
  g := ns_hide T.g fun hm => let ⟨t, ht, e⟩ := List.mem_map.mp hm; (X.st t ht).1 e
  b := ns_hide T.b fun hm => let ⟨t, ht, e⟩ := List.mem_map.mp hm; (X.st t ht).2.1 e
  lim := by
    obtain ⟨mc, h1, h2⟩ := T.nolimit
    exact ⟨mc, ns_hide h1 fun hm => let ⟨t, ht, e⟩ := List.mem_map.mp hm; (X.st t ht).2.2.1 e, h2⟩
  seer := by
    have N := T.seer hi
    refine ⟨?_, ?_, ?_, ?_⟩
    · obtain ⟨mc, h1, h2⟩ := N.statics
      exact ⟨mc, ns_hide h1 fun hm => let ⟨t, ht, e⟩ := List.mem_map.mp hm; (X.st t ht).2.2.1 e, h2⟩
    · obtain ⟨mc, h1, h2⟩ := N.mods
      exact ⟨mc, ns_hide h1 fun hm => let ⟨t, ht, e⟩ := List.mem_map.mp hm; (X.st t ht).2.2.2 e, h2⟩
    · obtain ⟨mc, h1, h2⟩ := N.imp
      exact ⟨mc, ns_hide h1 fun hm => let ⟨t, ht, e⟩ := List.mem_map.mp hm; (X.st t ht).2.1 e, h2⟩
    · obtain ⟨mg', bm, ob, h1, h2, h3, h4, h5⟩ := N.main
      refine ⟨mg', bm, ob, ns_hide h1 fun hm => let ⟨t, ht, e⟩ := List.mem_map.mp hm; (X.st t ht).1 e, h2, hideAll_get _ h3 fun hm => ?_, h4, h5⟩
      obtain ⟨t, ht, rfl⟩ := List.mem_map.mp hm
      obtain ⟨name, a, n1, n2, n3, n4⟩ := X.fn t ht
      have := (tab_of_top T KX n1 n2 n3 n4 (X.co t ht)).2
      rw [h3] at this; cases this; cases h4
  tree := tree
  K := K
  KX := fun a o e => hideAll_get _ (KX a o e) fun hm => by
    obtain ⟨t, ht, rfl⟩ := List.mem_map.mp hm
    rw [X.nK t ht] at e; cases e
  bb := T.builtins
  bm := by
    obtain ⟨bm, ob, h1, h2, h3, h4, r⟩ := T.bmain
    refine ⟨bm, ob, h1, h2, hideAll_get _ h3 fun hm => ?_, h4, r⟩
    obtain ⟨t, ht, rfl⟩ := List.mem_map.mp hm
    obtain ⟨name, a, n1, n2, n3, n4⟩ := X.fn t ht
    have := (tab_of_top T KX n1 n2 n3 n4 (X.co t ht)).2
    rw [h3] at this; cases this; cases h4
  tabs := tabs
  hid := fun t ht => hideAll_none _ (List.mem_map_of_mem ht)
  codes := fun t ht => codeHd_of_K (fun a o e => hideAll_get _ (KX a o e) fun hm => by
    obtain ⟨t, ht, rfl⟩ := List.mem_map.mp hm
    rw [X.nK t ht] at e; cases e) (X.co t ht)
  apartT := X.nd
end Mine

-- part Gw31s
namespace Mine

theorem RepAll.of_get {H : Hd} {h : Heap} : ∀ {xs : List Value} {vs : List V}, xs.length = vs.length → (∀ (i : Nat) x v, xs[i]? = some x → vs[i]? = some v → Rep H h x v) → RepAll H h xs vs
  | [], [], _, _ => .nil
  | x :: xs, v :: vs, hl, hr => .cons (hr 0 x v rfl rfl) (RepAll.of_get (by simpa using hl) fun i y w hy hw => hr (i + 1) y w (by simpa using hy) (by simpa using hw))
  | [], _ :: _, hl, _ => by simp at hl
  | _ :: _, [], hl, _ => by simp at hl

theorem zipV_get {l m : List V} {i : Nat} {v : V} (hv : (zipV l m)[i]? = some v) : ∃ a b, l[i]? = some a ∧ m[i]? = some b ∧ v = .tup [a, b] := by
  rw [zipV, List.getElem?_zipWith] at hv
  cases hl : l[i]? with
  | none => rw [hl] at hv; simp at hv
  | some a =>
    cases hm : m[i]? with
    | none => rw [hl, hm] at hv; simp at hv
    | some b => rw [hl, hm] at hv; simp at hv; exact ⟨a, b, rfl, rfl, hv.symm⟩

end Mine

-- part Gw32
namespace Mine

theorem slc_plain (l : List V) (lo hi : Option Int) : slc l lo hi none = (l.drop (lo.elim 0 (clipAt l.length))).take (hi.elim l.length (clipAt l.length) - lo.elim 0 (clipAt l.length)) := by
  unfold slc
  rw [sliceBounds_plain]
  simp only [sliceRange_one]
  have := pick_run l.toArray (lo.elim 0 (clipAt l.length)) (hi.elim l.length (clipAt l.length) - lo.elim 0 (clipAt l.length))
  simpa using this
theorem slc_from (l : List V) {x : Int} (a : Nat) (hx : x = (a : Nat)) : slc l (some x) none none = l.drop a := by
  subst hx
  rw [slc_plain]
  simp only [Option.elim, clipAt_nat]
  rcases Nat.le_total a l.length with h | h
  · rw [Nat.min_eq_left h, List.take_of_length_le (by simp)]
  · rw [Nat.min_eq_right h, List.drop_of_length_le (Nat.le_refl _), List.drop_of_length_le h]; simp
theorem slc_upto (l : List V) {x : Int} (b : Nat) (hx : x = (b : Nat)) : slc l none (some x) none = l.take b := by
  subst hx
  rw [slc_plain]
  simp only [Option.elim, clipAt_nat, List.drop_zero, Nat.sub_zero]
  rcases Nat.le_total b l.length with h | h
  · rw [Nat.min_eq_left h]
  · rw [Nat.min_eq_right h, List.take_of_length_le (Nat.le_refl _), List.take_of_length_le h]
theorem slc_both (l : List V) {x y : Int} (a b : Nat) (hx : x = (a : Nat)) (hy : y = (b : Nat)) (hab : a ≤ b) : slc l (some x) (some y) none = (l.drop a).take (b - a) := by
  subst hx; subst hy
  rw [slc_plain]
  simp only [Option.elim, clipAt_nat]
  rcases Nat.le_total a l.length with h | h
  · rw [Nat.min_eq_left h]
    rcases Nat.le_total b l.length with h' | h'
    · rw [Nat.min_eq_left h']
    · rw [Nat.min_eq_right h', List.take_of_length_le (by simp), List.take_of_length_le (by simp; omega)]
  · rw [Nat.min_eq_right h, List.drop_of_length_le (Nat.le_refl _), List.drop_of_length_le h]; simp
theorem slc_all (l : List V) : slc l none none none = l := by
  rw [slc_plain]
  simp
theorem slc_rev (l : List V) : slc l none none (some (-1)) = l.reverse := by
  unfold slc
  rw [krv_bounds]
  show (sliceRange ((l.length : Int) - 1) (-1) (-1)).filterMap (l[·]?) = _
  rw [krv_sliceRange, krv_range, List.filterMap_reverse]
  have := krv_all l.toArray
  simp only [List.size_toArray] at this
  congr 1
  simpa using this

/-- every second one -/
def alt {α : Type} : List α → List α
  | a :: _ :: l => a :: alt l
  | [a] => [a]
  | [] => []
theorem alt_length {α : Type} : ∀ l : List α, (alt l).length = (l.length + 1) / 2
  | [] => by simp [alt]
  | [_] => by simp [alt]
  | _ :: _ :: l => by simp only [alt, List.length_cons, alt_length l]; omega
theorem alt_get {α : Type} : ∀ (l : List α) (k : Nat), (alt l)[k]? = l[2 * k]?
  | [], k => by simp [alt]
  | [a], k => by cases k <;> simp [alt]
  | a :: b :: l, k => by
    cases k with
    | zero => simp [alt]
    | succ k =>
      simp only [alt, List.getElem?_cons_succ]
      rw [alt_get l k, show 2 * (k + 1) = 2 * k + 1 + 1 by omega]
      rfl
theorem pick_ge {α : Type} (l : List α) : ∀ ix : List Nat, (∀ i ∈ ix, i < l.length) → (ix.filterMap (l[·]?)).length = ix.length ∧ ∀ k : Nat, (ix.filterMap (l[·]?))[k]? = ix[k]?.bind (l[·]?)
  | [], _ => by simp
  | i :: ix, h => by
    have ih := pick_ge l ix fun j hj => h j (List.mem_cons_of_mem _ hj)
    have hi : i < l.length := h i List.mem_cons_self
    simp only [List.filterMap_cons, List.getElem?_eq_getElem hi]
    refine ⟨by simp [ih.1], fun k => ?_⟩
    cases k with
    | zero => simp [hi]
    | succ k => simpa using ih.2 k
theorem slc_step (l : List V) (s : Nat) (lo : Option Int) (hlo : sliceBounds lo none (some 2) l.length = (((s : Nat) : Int), (l.length : Int), 2)) : slc l lo none (some 2) = alt (l.drop s) := by
  unfold slc
  rw [hlo]
  show (sliceRange ((s : Nat) : Int) (l.length : Int) 2).filterMap (l[·]?) = _
  have hr : sliceRange ((s : Nat) : Int) (l.length : Int) 2 = (List.range ((l.length - s + 1) / 2)).map fun k => s + 2 * k := by
    unfold sliceRange
    simp only [show (2 : Int) > 0 by decide, if_true]
    by_cases h : (s : Int) < l.length
    · have e : ((l.length : Int) - s + 2 - 1) / 2 = ((l.length - s + 1) / 2 : Nat) := by omega
      simp only [h, if_true, e, Int.toNat_natCast]
      refine List.map_congr_left fun k _ => ?_
      omega
    · have e : (l.length - s + 1) / 2 = 0 := by omega
      simp [h, e]
  rw [hr]
  have hp := pick_ge l ((List.range ((l.length - s + 1) / 2)).map fun k => s + 2 * k) (fun i hi => by
    obtain ⟨k, hk, rfl⟩ := List.mem_map.mp hi
    have := List.mem_range.mp hk
    omega)
  apply List.ext_getElem?
  intro k
  rw [hp.2 k, alt_get]
  simp only [List.getElem?_map, List.getElem?_drop]
  by_cases hk : k < (l.length - s + 1) / 2
  · simp [hk]
  · simp [hk]
    omega
theorem slc_evens (l : List V) : slc l none none (some 2) = alt l := slc_step l 0 none (by simp [sliceBounds])
theorem slc_odds (l : List V) : slc l (some 1) none (some 2) = alt (l.drop 1) := by
  cases l with
  | nil => rfl
  | cons a l =>
    refine slc_step (a :: l) 1 (some 1) ?_
    simp only [sliceBounds, List.length_cons, Option.getD_some, show (2 : Int) > 0 by decide, if_true, show ¬ ((1 : Int) < 0) by decide, if_false]
    refine Prod.ext ?_ rfl
    show max 0 (min 1 ((l.length + 1 : Nat) : Int)) = ((1 : Nat) : Int)
    omega
end Mine

-- part Gw36
namespace Mine

/-- a turn's rest, what stood of the growing list before and stands behind -/
def RBodyG (B : Bs) (n : Nat) (cenv : Env) (xs : List Str) (D : Addr) (st : Store) (ρ ρ₀ : Str → Option V) (t : Sem PySem.Fin) (c : Code) (P Q : Hd → Heap → Prop) : Prop :=
  ∀ A, Rm n A → Own B cenv xs → ∀ E s H, D ∈ H.xs → ¬ wrt cenv xs D → Sim B cenv ρ st H s.heap → P H s.heap →
    wpAny (model B.prog B.w) A t (fun fin s' => fin = .again c ∧ ∃ h' tk, s' = { s with heap := h', toks := tk } ∧ Sim B cenv ρ₀ st H h' ∧ Q H h' ∧ ∀ b o, b ≠ D → ¬ wrt cenv xs b → ¬ Ex B b o → s.heap.get? b = some o → h'.get? b = some o) E s

section
variable {B : Bs} {n : Nat} {env : Env} {ρ : Str → Option V} {st : Store}

theorem RBody.g {cenv : Env} {xs : List Str} {D : Addr} {ρ ρ₀ : Str → Option V} {t : Sem PySem.Fin} {c : Code} {out ys : List V} (h : RBody B n cenv xs D st ρ ρ₀ t c out) (hsz : ys.length + out.length ≤ sizeLine) : RBodyG B n cenv xs D st ρ ρ₀ t c (AccAt D ys) (AccAt D (ys ++ out)) :=
  fun A hA O E s H hD hDw S acc => h A hA O E s H ys hD hDw S acc hsz

theorem comp_loopG {A : Around} (hA : Rm n A) {R : Result → Shared → Prop} {s : Shared} {c : Code} {p : Pos} {target : Expr} {it : Value} {cenv : Env} {rest : Sem PySem.Fin} {vs : List V} {Cond : Store → Prop} {Tg : Expr → Prop} {X wr fp : List Addr} {St : Hd → Nat → Heap → Prop} {xs : List Str} {D : Addr} {H : Hd} {ρ₀ : Str → Option V} (AC : Nat → Hd → Heap → Prop) (acE : ∀ i H h h', AC i H h → DKeep H h H h' → (∀ o, IsSeq o → h.get? D = some o → h'.get? D = some o) → AC i H h') (acX : ∀ i H h, AC i ⟨H.hs, X ++ H.xs⟩ h → AC i H h)
    (hq : c.quiet = true)
    (hden : ∀ (Q : PySem.Fin → Shared → Prop) (E : Value → Shared → Prop) s, wpAny (model B.prog B.w) A ((do
      standAt p
      match ← pyNext it with
      | none => pure (.done .next)
      | some v => do
        letOwnedTupleGo target it v
        assign target cenv v
        rest : Sem PySem.Fin).onRaise (fun x => do noteFrame x cenv; theTreesLotGoes x)) Q E s → wpAny (model B.prog B.w) (A.under c) ((model B.prog B.w).den c) Q E s)
    (IT : Iter B n it vs Cond Tg X wr fp St) (hc : Cond st) (htg : Tg target)
    (turn : ∀ (i : Nat) v, vs[i]? = some v → ∃ ρ', PA B n cenv st target v xs ρ₀ ρ' ∧ RBodyG B n cenv xs D st ρ' ρ₀ rest c (AC i) (AC (i + 1)))
    (O : Own B cenv xs) (hD : D ∈ H.xs) (hDw : ¬ wrt cenv xs D) (hDfp : D ∉ fp) (hX : ∀ a ∈ X, ¬ H.has a) (hfpw : ∀ b ∈ fp, ¬ wrt cenv xs b) (hfpT : ∀ b ∈ fp, ¬ B.isT b) (hnew : ∀ b ∈ wr, B.free b)
    (S : Sim B cenv ρ₀ st ⟨H.hs, X ++ H.xs⟩ s.heap) (acc : AC 0 ⟨H.hs, X ++ H.xs⟩ s.heap) (hst : St ⟨H.hs, X ++ H.xs⟩ 0 s.heap)
    (hR : ∀ h' tk, Sim B cenv ρ₀ st H h' → AC vs.length H h' → (∀ b o, b ≠ D → b ∉ wr → ¬ wrt cenv xs b → ¬ Ex B b o → s.heap.get? b = some o → h'.get? b = some o) → R (.ok .next) { s with heap := h', toks := tk }) :
    codeAny (model B.prog B.w) A c R s := by
  refine codeAny_loop hq (fun k s' => ∃ h tk i, s' = { s with heap := h, toks := tk } ∧ k = vs.length + 1 - i ∧ i ≤ vs.length ∧ Sim B cenv ρ₀ st ⟨H.hs, X ++ H.xs⟩ h ∧ St ⟨H.hs, X ++ H.xs⟩ i h ∧ AC i ⟨H.hs, X ++ H.xs⟩ h ∧
    ∀ b o, b ≠ D → b ∉ wr → ¬ wrt cenv xs b → ¬ Ex B b o → s.heap.get? b = some o → h.get? b = some o) ?_ (vs.length + 1) ⟨s.heap, s.toks, 0, rfl, rfl, Nat.zero_le _, S, hst, acc, fun _ _ _ _ _ _ e => e⟩
  rintro k s' ⟨h, tk, i, rfl, rfl, hi, S', hst', acc', kp⟩
  refine hden _ _ _ (wpAny_noted (wpAny_bind (wpAny_standAt (wpAny_bind ?_))))
  have hwr : ∀ b ∈ wr, b ∉ X → ∃ o fs, h.get? b = some o ∧ o.data = .fields fs ∧ ¬ CodeO o := fun b hb hx => by
    obtain ⟨o, ho, hf⟩ := IT.wrObj _ _ _ b hst' (IT.sub b hb)
    obtain ⟨⟨fs, hfs⟩, hc⟩ := hf hb hx
    exact ⟨o, fs, ho, hfs, hc⟩
  have hDwr : D ∉ wr := fun hw => hDfp (IT.sub D hw)
  have hXH : ∀ a ∈ X, (⟨H.hs, X ++ H.xs⟩ : Hd).has a := fun a ha => .inr (List.mem_append_left _ ha)
  have le : ∀ a ∈ H.xs, a ∈ X ++ H.xs := fun a ha => List.mem_append_right _ ha
  cases hv : vs[i]? with
  | none =>
    have hlen : i = vs.length := Nat.le_antisymm hi (List.getElem?_eq_none_iff.mp hv)
    subst hlen
    refine wpAny_mono (IT.done A hA _ { s with heap := h, toks := tk } ⟨H.hs, X ++ H.xs⟩ st (fun s₁ => R (.ok .next) s₁) hc S'.sb hXH hst' fun h' tk' kp' => ?_) (fun r s₁ ⟨e, q⟩ => ?_) fun _ _ e => e
    · obtain ⟨S₁, dk⟩ := sim_wr0 S' hX hwr hnew kp'
      refine hR h' tk' S₁ ?_ fun b o hb hw ht hx e => kp' b o hw (kp b o hb hw ht hx e)
      exact acX _ _ _ (acE _ _ _ _ acc' dk fun o _ e => kp' D o hDwr e)
    · subst e; exact wpAny_pure q
  | some v =>
    have hlt : i < vs.length := (List.getElem?_eq_some_iff.mp hv).1
    obtain ⟨ρ', pa, rb⟩ := turn i v hv
    have key : ∀ (Post : PySem.Fin → Shared → Prop) (EE : Value → Shared → Prop), (∀ h₃ tk₃, Sim B cenv ρ₀ st ⟨H.hs, X ++ H.xs⟩ h₃ → St ⟨H.hs, X ++ H.xs⟩ (i + 1) h₃ → AC (i + 1) ⟨H.hs, X ++ H.xs⟩ h₃ →
        (∀ b o, b ≠ D → b ∉ wr → ¬ wrt cenv xs b → ¬ Ex B b o → h.get? b = some o → h₃.get? b = some o) → Post (.again c) { s with heap := h₃, toks := tk₃ }) →
        wpAny (model B.prog B.w) A (pyNext it) (fun r s₁ => ∃ x, r = some x ∧ wpAny (model B.prog B.w) A (letOwnedTupleGo target it x) (fun _ s₂ => wpAny (model B.prog B.w) A (assign target cenv x) (fun _ s₃ => wpAny (model B.prog B.w) A rest Post EE s₃) EE s₂) EE s₁) EE { s with heap := h, toks := tk } := by
      intro Post EE hp
      refine IT.item A hA EE { s with heap := h, toks := tk } ⟨H.hs, X ++ H.xs⟩ st i v target (fun x s₂ => wpAny (model B.prog B.w) A (assign target cenv x) (fun _ s₃ => wpAny (model B.prog B.w) A rest Post EE s₃) EE s₂) hc htg S'.sb hXH hst' hv fun x h₁ tk₁ hst₁ kp₁ r₁ => ?_
      have hXl : ∀ b ∈ X, (∃ o, h.get? b = some o ∧ IsSeq o) ∧ ∃ o, h₁.get? b = some o ∧ IsSeq o := fun b hb => ⟨IT.xObj _ _ _ b hst' hb, IT.xObj _ _ _ b hst₁ hb⟩
      obtain ⟨S₁, dk₁⟩ := sim_wr S' (X := X) (fun a ha => ⟨List.mem_append_left _ ha, fun hm => hX a ha (.inl hm)⟩) hwr hXl hnew kp₁
      have acc₁ := acE _ _ _ _ acc' dk₁ (fun o _ e => kp₁ D o hDwr e)
      refine wpAny_mono (pa A hA O _ _ _ x S₁ r₁) (fun _ s₂ q₂ => ?_) fun _ _ e => e
      obtain ⟨h₂, tk₂, rfl, S₂, kp₂⟩ := q₂
      have dk₂ := wrt_dk S₁.en kp₂
      have acc₂ := acE _ _ _ _ acc₁ dk₂ (fun o _ e => kp₂ D o hDw e)
      have hst₂ := IT.frame _ _ _ _ _ hst₁ dk₂ fun b hb o e => kp₂ b o (hfpw b hb) e
      refine wpAny_mono (rb A hA O _ _ _ (le D hD) hDw S₂ acc₂) (fun fin s₃ q₃ => ?_) fun _ _ e => e
      · obtain ⟨rfl, h₃, tk₃, rfl, S₃, acc₃, kp₃⟩ := q₃
        refine hp h₃ tk₃ S₃ ?_ ?_ fun b o hb hw ht hx e => kp₃ b o hb ht hx (kp₂ b o ht (kp₁ b o hw e))
        · refine IT.frame _ _ _ _ _ hst₂ ?_ fun b hb o e => kp₃ b o (fun e' => hDfp (e' ▸ hb)) (hfpw b hb) (fun hx => hfpT b hb hx.1) e
          exact ⟨⟨[], by simp⟩, fun _ h1 h2 => absurd h1 h2, fun b o hb hq e => kp₃ b o (fun e' => hb (e' ▸ .inr (le D hD))) (fun hw => S₂.en.notSeq hw e hq) (ex_seq hq) e⟩
        · exact acc₃
    have key2 := key (fun fin s' => ∃ h₃ tk₃, fin = .again c ∧ s' = { s with heap := h₃, toks := tk₃ } ∧ Sim B cenv ρ₀ st ⟨H.hs, X ++ H.xs⟩ h₃ ∧ St ⟨H.hs, X ++ H.xs⟩ (i + 1) h₃ ∧ AC (i + 1) ⟨H.hs, X ++ H.xs⟩ h₃ ∧ (∀ b o, b ≠ D → b ∉ wr → ¬ wrt cenv xs b → ¬ Ex B b o → h.get? b = some o → h₃.get? b = some o)) (notedBy (model B.prog B.w) A cenv fun e s' => R (Except.error e) s') fun h₃ tk₃ S₃ hst₃ acc₃ kp₃ => ⟨h₃, tk₃, rfl, rfl, S₃, hst₃, acc₃, kp₃⟩
    refine wpAny_mono key2 (fun r s₁ hr => ?_) fun _ _ e => e
    obtain ⟨x, e, q⟩ := hr
    subst e
    refine wpAny_bind (wpAny_mono q (fun _ s₂ q₂ => wpAny_bind (wpAny_mono q₂ (fun _ s₃ q₃ => wpAny_mono q₃ (fun fin s₄ q₄ => ?_) fun _ _ e => e) fun _ _ e => e)) fun _ _ e => e)
    obtain ⟨h₃, tk₃, rfl, rfl, S₃, hst₃, acc₃, kp₃⟩ := q₄
    exact ⟨rfl, vs.length + 1 - (i + 1), by omega, h₃, tk₃, i + 1, rfl, rfl, hlt, S₃, hst₃, acc₃, fun b o hb hw ht hx e => kp₃ b o hb hw ht hx (kp b o hb hw ht hx e)⟩

/-- a list comprehension up to its end -/
theorem comp_blockG {A : Around} (hA : Rm n A) {E : Value → Shared → Prop} {s : Shared} {H : Hd} {elt target iter : Expr} {ifs : List Expr} {gs : List Comprehension} {rest : Value → Addr → Env → Sem PySem.Fin} {scope : Scope} {pos : Pos} {RR : Value → Addr → Result → Shared → Prop} {vs : List V} {Cond : Store → Prop} {Tg : Expr → Prop} {pl : Bool} {xs : List Str}
    (S : Sim B env ρ st H s.heap) (hiter : PI B n env ρ st iter vs Cond Tg pl) (htg : Tg target) (ok : okScope env scope = true) (hxs : ∀ x ∈ xs, scope.names.lookup x = some .local ∨ scope.names.lookup x = some .cell) (AC : Addr → Nat → Hd → Heap → Prop)
    (acE : ∀ D i H h h', AC D i H h → DKeep H h H h' → (∀ o, IsSeq o → h.get? D = some o → h'.get? D = some o) → AC D i H h') (acX : ∀ D i X H h, AC D i ⟨H.hs, X ++ H.xs⟩ h → AC D i H h) (ac0 : ∀ D H h, h.get? D = some (lisObj #[] 0) → AC D 0 H h)
    (hrest : ∀ it D cenv, compTurn (.ListComp elt (⟨target, iter, ifs, 0⟩ :: gs) scope pos) 0 it (.ref D) cenv = (do
      standAt iter.pos
      match ← pyNext it with
      | none => pure (.done .next)
      | some v => do
        letOwnedTupleGo target it v
        assign target cenv v
        rest it D cenv))
    (hturn : ∀ (i : Nat) v, vs[i]? = some v → ∀ it D C, s.heap.get? D = none → ∃ ρ', PA B n (cEnv scope C env) st target v xs (restr scope ρ) ρ' ∧ RBodyG B n (cEnv scope C env) xs D st ρ' (restr scope ρ) (rest it D (cEnv scope C env)) (.compLoop (.ListComp elt (⟨target, iter, ifs, 0⟩ :: gs) scope pos) 0 it (.ref D) (cEnv scope C env)) (AC D i) (AC D (i + 1)))
    (hRR : ∀ D C h' tk m, (∀ b o, s.heap.get? b = some o → b < D) → s.heap.get? D = none → s.heap.get? C = none → D ≠ C → h'.Ns C m → AC D vs.length ⟨H.hs, [D] ++ H.xs⟩ h' → KH B s.heap h' → RR (.ref D) C (.ok .next) { s with heap := h', toks := tk }) :
    wpAny (model B.prog B.w) A (eval iter env) (fun xv s₁ => wpAny (model B.prog B.w) A (pyIter xv) (fun it s₂ => wpAny (model B.prog B.w) A (newList []) (fun acc s₃ => wpAny (model B.prog B.w) A (newFunctionEnv scope env.globals (closOf env scope.names []) [] env.qual none .none (some env)) (fun cenv s₄ =>
      codeAny (model B.prog B.w) A (.compStart (.ListComp elt (⟨target, iter, ifs, 0⟩ :: gs) scope pos) 0 it acc { cenv with scope := relabel scope env }) (RR acc cenv.locals) s₄) E s₃) E s₂) E s₁) E s := by
  refine wpAny_mono (hiter A hA E s H S) (fun xv s₁ ⟨k1, q1⟩ => wpAny_mono q1 (fun it s₂ q2 => ?_) fun _ _ e => e) fun _ _ e => e
  obtain ⟨k2, X, wr, fp, St, IT, hc, _, hst, hnew⟩ := q2
  obtain ⟨f1, f2, f3⟩ := okScope_facts ok
  refine wpAny_newObj_type (new_comp fun h₄ hns hcs kp4 => ?_) (Nat.zero_le _)
  have k3 := kp_push (B := B) s₂ { cls := .type "list", data := .seq ([] : List Value).toArray }
  have hszp : (s₂.heap.push { cls := .type "list", data := .seq ([] : List Value).toArray }).objs.size = s₂.heap.objs.size + 1 := Heap.size_push ..
  generalize hC : (s₂.heap.push { cls := .type "list", data := .seq ([] : List Value).toArray }).objs.size = C at hns hcs hszp ⊢
  have kp24 : ∀ b o, s₂.heap.get? b = some o → h₄.get? b = some o := fun b o e => kp4 b o (Heap.get?_push_of_some _ e)
  have kp04 : KH B s.heap h₄ := (kp_get k2).trans (.of kp24)
  have hDacc : h₄.get? s₂.heap.objs.size = some (lisObj #[] 0) := kp4 _ _ (Heap.get?_push_size _ rfl)
  have none2 : ∀ a, s₂.heap.objs.size ≤ a → s.heap.get? a = none := fun a ha => new_none k2 ha
  have lo : ∀ b o, s.heap.get? b = some o → b < s₂.heap.objs.size := fun b o e => by obtain ⟨o', e'⟩ := (kp_get k2).live b o e; exact Heap.lt_size e'
  have lt2 : ∀ b o, s₂.heap.get? b = some o → b ≠ s₂.heap.objs.size ∧ b < C := fun b o e => ⟨Nat.ne_of_lt (Heap.lt_size e), by rw [hszp]; exact Nat.lt_succ_of_lt (Heap.lt_size e)⟩
  -- the store with the iterator's opaque things and the growing list
  have live2 : ∀ b, b ∈ fp ∨ b ∈ X → ∃ o, s₂.heap.get? b = some o := fun b hb => by
    rcases hb with hb | hb
    · obtain ⟨o, ho, _⟩ := IT.wrObj _ _ _ b hst hb; exact ⟨o, ho⟩
    · obtain ⟨o, ho, _⟩ := IT.xObj _ _ _ b hst hb; exact ⟨o, ho⟩
  have dist : ∀ b, b ∈ fp ∨ b ∈ X → b ≠ s₂.heap.objs.size ∧ b < C := fun b hb => by
    obtain ⟨o, ho⟩ := live2 b hb; exact lt2 b o ho
  obtain ⟨SB1, dk1⟩ := sim_more (Y := X ++ [s₂.heap.objs.size]) S.sb kp04 (fun a ha => by
      rcases List.mem_append.mp ha with ha | ha
      · exact hnew a (.inr ha)
      · cases List.mem_singleton.mp ha; exact none2 _ (Nat.le_refl _)) (fun a ha => by
      rcases List.mem_append.mp ha with ha | ha
      · obtain ⟨o, ho, hs⟩ := IT.xObj _ _ _ a hst ha
        exact ⟨o, kp24 _ _ ho, hs⟩
      · cases List.mem_singleton.mp ha; exact ⟨_, hDacc, isSeq_lis ..⟩)
  rw [List.append_assoc] at SB1 dk1
  have E1 : EnvRep (cEnv scope C env) (restr scope ρ) ⟨H.hs, X ++ ([s₂.heap.objs.size] ++ H.xs)⟩ h₄ := by
    refine env_comp (C := C) (h := s₂.heap) (h' := h₄) (H := ⟨H.hs, X ++ ([s₂.heap.objs.size] ++ H.xs)⟩) (S.en.ext (kp_get k2) ?_) ok kp24 (by rw [hszp]; exact Nat.le_succ _) hns hcs
    exact ⟨dk1.pre, dk1.new, fun b o _ hs e => (kp_get k2).seq hs e⟩
  have hcenv : ({ scope := relabel scope env, locals := C, globals := env.globals, cells := cellsFrom (C + 1) scope.names (closOf env scope.names []), qual := env.qual, func := none, code := env.code, frame := env.frame, builtins := env.builtins } : Env) = cEnv scope C env := rfl
  have own : Own B (cEnv scope C env) xs := ⟨fun b hb => by
    have hge := wrt_comp f2 hxs hcs hb
    refine (S.keeps (kp_get k2)).base.free ?_
    cases e : s₂.heap.get? b with
    | none => rfl
    | some o => exact absurd (Nat.lt_of_lt_of_le (lt2 b o e).2 hge) (Nat.lt_irrefl _)⟩
  have hDw : ¬ wrt (cEnv scope C env) xs s₂.heap.objs.size := fun hb => by
    have hge := wrt_comp f2 hxs hcs hb
    rw [hszp] at hge
    exact Nat.not_succ_le_self _ hge
  have hst4 : St ⟨H.hs, X ++ ([s₂.heap.objs.size] ++ H.xs)⟩ 0 h₄ := by
    refine IT.frame _ _ _ _ _ hst ?_ fun b hb o e => kp24 b o e
    refine ⟨⟨[], by simp⟩, fun a ha hn => ?_, fun b o _ _ e => kp24 b o e⟩
    rcases ha with ha | ha
    · exact absurd (.inl ha) hn
    · rcases List.mem_append.mp ha with ha | ha
      · exact absurd (.inr (List.mem_append_left _ ha)) hn
      · rcases List.mem_append.mp ha with ha | ha
        · cases List.mem_singleton.mp ha
          cases e : s₂.heap.get? s₂.heap.objs.size with
          | none => rfl
          | some o => exact absurd (Heap.lt_size e) (Nat.lt_irrefl _)
        · exact absurd (.inr (List.mem_append_right _ ha)) hn
  have loop : ∀ s₄ : Shared, s₄ = { s₂ with heap := h₄ } → codeAny (model B.prog B.w) A (.compLoop (.ListComp elt (⟨target, iter, ifs, 0⟩ :: gs) scope pos) 0 it (.ref s₂.heap.objs.size) (cEnv scope C env)) (RR (.ref s₂.heap.objs.size) C) s₄ := by
    rintro s₄ rfl
    refine comp_loopG (H := ⟨H.hs, [s₂.heap.objs.size] ++ H.xs⟩) (D := s₂.heap.objs.size) (ρ₀ := restr scope ρ) (cenv := cEnv scope C env) (xs := xs) hA (AC s₂.heap.objs.size) (acE _) (fun i H h x => acX _ i X H h x) rfl (p := iter.pos) (rest := rest it s₂.heap.objs.size (cEnv scope C env)) (fun Q E s h => ?_) IT hc htg (fun i v hv => ?_) own (List.mem_append_left _ (List.mem_singleton.mpr rfl)) hDw (fun hm => (dist _ (.inl hm)).1 rfl) (fun a ha hh => ?_) (fun b hb hw => ?_) (fun b hb => ?_) (fun b hb => ?_) ⟨SB1.base, SB1.sto, E1⟩ (ac0 _ _ _ hDacc) hst4 (fun h' tk S' acc' kp' => ?_)
    · show wpAny _ A ((compTurn (.ListComp elt (⟨target, iter, ifs, 0⟩ :: gs) scope pos) 0 it (.ref s₂.heap.objs.size) (cEnv scope C env)).onRaise (fun x => do noteFrame x (cEnv scope C env); theTreesLotGoes x)) _ _ _
      rw [hrest]
      exact h
    · exact hturn i v hv it _ C (none2 _ (Nat.le_refl _))
    · have d := dist a (.inr ha)
      have n := hnew a (.inr ha)
      rcases hh with hh | hh
      · obtain ⟨o, ho, _⟩ := S.sto.live a (.inl hh); rw [n] at ho; cases ho
      · rcases List.mem_append.mp hh with hh | hh
        · exact d.1 (List.mem_singleton.mp hh)
        · obtain ⟨o, ho, _⟩ := S.sto.live a (.inr hh); rw [n] at ho; cases ho
    · exact absurd (Nat.lt_of_lt_of_le (dist b (.inl hb)).2 (wrt_comp f2 hxs hcs hw)) (Nat.lt_irrefl _)
    · exact (S.base.free (hnew b (.inl hb))).2
    · exact S.base.free (hnew b (.inl (IT.sub b hb)))
    · obtain ⟨m, hm, _⟩ := S'.en.loc
      obtain ⟨h2', tk2, e2, _⟩ := id k2
      subst e2
      refine hRR _ C h' tk m lo (none2 _ (Nat.le_refl _)) (none2 _ (by rw [hszp]; exact Nat.le_succ _)) (by rw [hszp]; exact Nat.ne_of_lt (Nat.lt_succ_self _)) hm acc' ?_
      have kk : ∀ b o, ¬ Ex B b o → s.heap.get? b = some o → h'.get? b = some o := fun b o hx e => ?_
      · refine ⟨kk, fun _ => S'.base.tab, fun b o e => ?_⟩
        by_cases hx : Ex B b o
        · obtain ⟨⟨t, ht, rfl⟩, _⟩ := hx
          obtain ⟨ps, h1, _⟩ := S'.base.tab t ht
          exact ⟨_, h1⟩
        · exact ⟨o, kk b o hx e⟩
      have e4 := kp04.keep b o hx e
      have l2 := lt2 b o ((kp_get k2).keep _ _ hx e)
      refine kp' b o l2.1 (fun hw => ?_) (fun hw => ?_) hx e4
      · rw [hnew b (.inl (IT.sub b hw))] at e; cases e
      · exact absurd (Nat.lt_of_lt_of_le l2.2 (wrt_comp f2 hxs hcs hw)) (Nat.lt_irrefl _)
  show codeAny (model B.prog B.w) A (.compStart (.ListComp elt (⟨target, iter, ifs, 0⟩ :: gs) scope pos) 0 it (.ref s₂.heap.objs.size) (cEnv scope C env)) _ _
  refine codeAny_compStart_list (loop _ rfl) (IT.self A hA _ _ ⟨H.hs, X ++ ([s₂.heap.objs.size] ++ H.xs)⟩ 0 _ hst4 (loop _ rfl))

end
end Mine

-- part Gw37
namespace Mine

theorem compStart_two {prog : Program} {w : World} {A : Around} {R : Result → Shared → Prop} {s : Shared} {elt t0 i0 t1 i1 : Expr} {f0 f1 : List Expr} {scope : Scope} {pos : Pos} {it acc : Value} {env : Env}
    (h0 : codeAny (model prog w) A (.compLoop (.ListComp elt [⟨t0, i0, f0, 0⟩, ⟨t1, i1, f1, 0⟩] scope pos) 1 it acc env) R s)
    (h : wpAny (model prog w) A (pyIter it) (fun it' s' => codeAny (model prog w) A (.compLoop (.ListComp elt [⟨t0, i0, f0, 0⟩, ⟨t1, i1, f1, 0⟩] scope pos) 1 it' acc env) R s')
      (notedBy (model prog w) A env fun x s' => R (.error x) s') s) :
    codeAny (model prog w) A (.compStart (.ListComp elt [⟨t0, i0, f0, 0⟩, ⟨t1, i1, f1, 0⟩] scope pos) 1 it acc env) R s := by
  refine codeAny_of_tree ?_
  show wpAny _ _ ((compStart (.ListComp elt [⟨t0, i0, f0, 0⟩, ⟨t1, i1, f1, 0⟩] scope pos) 1 it acc env).onRaise (fun x => do noteFrame x env; standAt theWindowsPlace)) _ _ s
  refine wpAny_notedAt ?_
  unfold compStart
  show wpAny _ _ (ask >>= _) _ _ s
  refine wpAny_bind (wpAny_askSetting (wpAny_ite ?_))
  split
  · first
      | exact wpAny_bind (wpAny_pure (wpAny_pure (And.intro rfl h0)))
      | exact wpAny_pure (And.intro rfl h0)
  · first
      | exact wpAny_bind (wpAny_rule (wpAny_bind (wpAny_standAt (wpAny_bind (wpAny_mono h (fun it' s' h' => wpAny_pure (And.intro rfl h')) fun _ _ x => x)))))
      | (refine wpAny_bind (wpAny_rule ?_); show wpAny _ _ (standAt i1.pos >>= _) _ _ s; exact wpAny_bind (wpAny_standAt (wpAny_bind (wpAny_mono h (fun it' s' h' => wpAny_pure (And.intro rfl h')) fun _ _ x => x))))

section
variable {B : Bs} {n : Nat} {env : Env} {ρ : Str → Option V} {st : Store}

theorem AccAt.dropX {D : Addr} {ys : List V} {X : List Addr} {H : Hd} {h : Heap} (x : AccAt D ys ⟨H.hs, X ++ H.xs⟩ h) : AccAt D ys H h :=
  let ⟨vs, m, ho, hr⟩ := x; ⟨vs, m, ho, hr.dropX⟩

/-- the inner clause -/
theorem rb_nest {cenv : Env} {xs : List Str} {D : Addr} {ρ ρ₀ : Str → Option V} {elt t0 i0 t1 i1 : Expr} {f1 : List Expr} {scope : Scope} {pos : Pos} {it : Value} {vs : List V} {Cond : Store → Prop} {Tg : Expr → Prop} {pl : Bool} {ys : List V}
    (hi : PI B n cenv ρ st i1 vs Cond Tg pl) (htg : Tg t1) (outs : List (List V)) (hlen : outs.length = vs.length)
    (turn : ∀ (j : Nat) v out, vs[j]? = some v → outs[j]? = some out → ∃ ρ'' q w, PA B n cenv st t1 v xs ρ ρ'' ∧ PTs B n cenv ρ'' st f1 q ∧ (q = true → PE B n cenv ρ'' st elt w) ∧ out = (if q then [w] else []) ∧ ∀ y u, ρ y = some u → ρ'' y = some u)
    (hw : ∀ y v, ρ₀ y = some v → ρ y = some v) (hs : ∀ x, foldedSetIterable i1 cenv x = pure x) (hsz : ys.length + outs.flatten.length ≤ sizeLine) :
    RBodyG B n cenv xs D st ρ ρ₀ (do
        let x ← eval i1 cenv
        standAt i1.pos
        let x ← foldedSetIterable i1 cenv x
        let _ ← runOwn (.compStart (.ListComp elt [⟨t0, i0, [], 0⟩, ⟨t1, i1, f1, 0⟩] scope pos) 1 (← holding [x] (pyIter x)) (.ref D) cenv) cenv
        again (.compLoop (.ListComp elt [⟨t0, i0, [], 0⟩, ⟨t1, i1, f1, 0⟩] scope pos) 0 it (.ref D) cenv)) (.compLoop (.ListComp elt [⟨t0, i0, [], 0⟩, ⟨t1, i1, f1, 0⟩] scope pos) 0 it (.ref D) cenv) (AccAt D ys) (AccAt D (ys ++ outs.flatten)) := fun A hA O E s H hD hDw S acc => by
  refine wpAny_bind (wpAny_mono (hi A hA E s H S) (fun xv s₁ ⟨k1, q1⟩ => ?_) fun _ _ e => e)
  refine wpAny_bind (wpAny_standAt ?_)
  rw [hs xv]
  refine wpAny_bind (wpAny_pure ?_)
  refine wpAny_bind (wpAny_holding (wpAny_mono q1 (fun it' s₂ q2 => ?_) fun _ _ e => e))
  obtain ⟨k2, X, wr, fp, St, IT, hc, _, hst, hnew⟩ := q2
  have live2 : ∀ b, b ∈ fp ∨ b ∈ X → ∃ o, s₂.heap.get? b = some o := fun b hb => by
    rcases hb with hb | hb
    · obtain ⟨o, ho, _⟩ := IT.wrObj _ _ _ b hst hb; exact ⟨o, ho⟩
    · obtain ⟨o, ho, _⟩ := IT.xObj _ _ _ b hst hb; exact ⟨o, ho⟩
  obtain ⟨SB1, dk1⟩ := sim_more (Y := X) S.sb (kp_get k2) (fun a ha => hnew a (.inr ha)) (fun a ha => IT.xObj _ _ _ a hst ha)
  have S1 : Sim B cenv ρ st ⟨H.hs, X ++ H.xs⟩ s₂.heap := ⟨SB1.base, SB1.sto, S.en.ext (kp_get k2) dk1⟩
  have acc1 : AccAt D ys ⟨H.hs, X ++ H.xs⟩ s₂.heap := by
    obtain ⟨us, q, ho, hr⟩ := acc
    exact ⟨us, q, (kp_get k2).seq (isSeq_lis ..) ho, hr.ext dk1⟩
  have hDlive : ∃ o, s.heap.get? D = some o := by obtain ⟨us, q, ho, _⟩ := acc; exact ⟨_, ho⟩
  have fin : ∀ h' tk, Sim B cenv ρ st H h' → AccAt D (ys ++ outs.flatten) H h' → (∀ b o, b ≠ D → b ∉ wr → ¬ wrt cenv xs b → ¬ Ex B b o → s₂.heap.get? b = some o → h'.get? b = some o) →
      wpAny (model B.prog B.w) A (again (.compLoop (.ListComp elt [⟨t0, i0, [], 0⟩, ⟨t1, i1, f1, 0⟩] scope pos) 0 it (.ref D) cenv) : Sem PySem.Fin) (fun fin s' => fin = .again (.compLoop (.ListComp elt [⟨t0, i0, [], 0⟩, ⟨t1, i1, f1, 0⟩] scope pos) 0 it (.ref D) cenv) ∧ ∃ h' tk, s' = { s with heap := h', toks := tk } ∧ Sim B cenv ρ₀ st H h' ∧ AccAt D (ys ++ outs.flatten) H h' ∧ ∀ b o, b ≠ D → ¬ wrt cenv xs b → ¬ Ex B b o → s.heap.get? b = some o → h'.get? b = some o) E { s₂ with heap := h', toks := tk } := by
    intro h' tk S' acc' kp
    obtain ⟨h₂, tk₂, rfl, kh⟩ := k2
    refine wpAny_pure ⟨rfl, h', tk, rfl, S'.weaken hw, acc', fun b o hb hwr hx e => kp b o hb (fun hw' => ?_) hwr hx (kh.keep b o hx e)⟩
    rw [hnew b (.inl (IT.sub b hw'))] at e; cases e
  have loop : codeAny (model B.prog B.w) A (.compLoop (.ListComp elt [⟨t0, i0, [], 0⟩, ⟨t1, i1, f1, 0⟩] scope pos) 1 it' (.ref D) cenv) (fun r s' => match r with | .ok f => wpAny (model B.prog B.w) A (again (.compLoop (.ListComp elt [⟨t0, i0, [], 0⟩, ⟨t1, i1, f1, 0⟩] scope pos) 0 it (.ref D) cenv) : Sem PySem.Fin) (fun fin s' => fin = .again (.compLoop (.ListComp elt [⟨t0, i0, [], 0⟩, ⟨t1, i1, f1, 0⟩] scope pos) 0 it (.ref D) cenv) ∧ ∃ h' tk, s' = { s with heap := h', toks := tk } ∧ Sim B cenv ρ₀ st H h' ∧ AccAt D (ys ++ outs.flatten) H h' ∧ ∀ b o, b ≠ D → ¬ wrt cenv xs b → ¬ Ex B b o → s.heap.get? b = some o → h'.get? b = some o) E s' | .error e => cameBackBy (model B.prog B.w) A cenv E e s') s₂ := by
    refine comp_loopG (H := H) (D := D) (ρ₀ := ρ) (cenv := cenv) (xs := xs) hA (fun i H h => AccAt D (ys ++ (outs.take i).flatten) H h) (fun i H h h' x dk hD => x.ext dk hD) (fun i H h x => x.dropX) rfl (p := i1.pos) (rest := do
        let mut ok := true
        for c in f1 do
          if ok then ok ← isTrue c cenv (eval c cenv)
        if ok then
          (do let _ ← call (.builtin "list.append") [.ref D, ← eval elt cenv])
        again (.compLoop (.ListComp elt [⟨t0, i0, [], 0⟩, ⟨t1, i1, f1, 0⟩] scope pos) 1 it' (.ref D) cenv)) (fun Q E s h => ?_) IT hc htg (fun j v hv => ?_) O hD hDw (fun hm => ?_) (fun a ha hh => ?_) (fun b hb hw => ?_) (fun b hb => ?_) (fun b hb => ?_) S1 (by simpa using acc1) hst (fun h' tk S' acc' kp' => ?_)
    · show wpAny _ A ((compTurn (.ListComp elt [⟨t0, i0, [], 0⟩, ⟨t1, i1, f1, 0⟩] scope pos) 1 it' (.ref D) cenv).onRaise (fun x => do noteFrame x cenv; theTreesLotGoes x)) _ _ _
      rw [turn_b]
      exact h
    · have hjl : j < vs.length := (List.getElem?_eq_some_iff.mp hv).1
      have hout : outs[j]? = some (outs[j]'(hlen ▸ hjl)) := List.getElem?_eq_getElem _
      generalize outs[j]'(hlen ▸ hjl) = out at hout
      obtain ⟨ρ'', q, w, h1, h2, h3, h4, h5⟩ := turn j v out hv hout
      have htake : outs.take (j + 1) = outs.take j ++ [out] := by rw [List.take_add_one, hout]; rfl
      refine ⟨ρ'', h1, ?_⟩
      have e : ys ++ (outs.take (j + 1)).flatten = (ys ++ (outs.take j).flatten) ++ out := by rw [htake]; simp
      show RBodyG B n cenv xs D st ρ'' ρ _ _ (AccAt D (ys ++ (outs.take j).flatten)) (AccAt D (ys ++ (outs.take (j + 1)).flatten))
      rw [e]
      refine RBody.g (h4 ▸ rb_emit h2 h3 h5) ?_
      have e1 : (outs.flatten).length = ((outs.take (j + 1)).flatten).length + ((outs.drop (j + 1)).flatten).length := by
        rw [← List.length_append, ← List.flatten_append, List.take_append_drop]
      rw [htake, List.flatten_append, List.length_append] at e1
      simp only [List.flatten_cons, List.flatten_nil, List.append_nil, List.length_append] at e1 ⊢
      omega
    · obtain ⟨o, ho⟩ := hDlive; rw [hnew D (.inl hm)] at ho; cases ho
    · obtain ⟨o, ho, _⟩ := S.sto.live a hh; rw [hnew a (.inr ha)] at ho; cases ho
    · obtain ⟨o, ho⟩ := S.en.live _ (wrt_own hw); rw [hnew b (.inl hb)] at ho; cases ho
    · exact (S.base.free (hnew b (.inl hb))).2
    · exact S.base.free (hnew b (.inl (IT.sub b hb)))
    · rw [← hlen, List.take_length] at acc'
      exact fin h' tk S' acc' kp'
  exact wpAny_bind (wpAny_runOwn (compStart_two loop (IT.self A hA _ _ ⟨H.hs, X ++ H.xs⟩ 0 _ hst loop)))

/-- a list comprehension with two clauses -/
theorem pc_comp2 {elt t0 i0 t1 i1 : Expr} {f1 : List Expr} {scope : Scope} {pos : Pos} {vs : List V} {Cond : Store → Prop} {Tg : Expr → Prop} {pl : Bool} {xs : List Str} (hiter : PI B n env ρ st i0 vs Cond Tg pl) (htg : Tg t0) (ok : okScope env scope = true) (hxs : ∀ x ∈ xs, scope.names.lookup x = some .local ∨ scope.names.lookup x = some .cell)
    (outs : List (List (List V))) (hlen : outs.length = vs.length)
    (hturn : ∀ (i : Nat) v os, vs[i]? = some v → outs[i]? = some os → ∀ C, ∃ ρ' vs1 Cond1 Tg1 pl1, PA B n (cEnv scope C env) st t0 v xs (restr scope ρ) ρ' ∧ (∀ y u, restr scope ρ y = some u → ρ' y = some u) ∧ PI B n (cEnv scope C env) ρ' st i1 vs1 Cond1 Tg1 pl1 ∧ Tg1 t1 ∧ os.length = vs1.length ∧
      ∀ (j : Nat) v out, vs1[j]? = some v → os[j]? = some out → ∃ ρ'' q w, PA B n (cEnv scope C env) st t1 v xs ρ' ρ'' ∧ PTs B n (cEnv scope C env) ρ'' st f1 q ∧ (q = true → PE B n (cEnv scope C env) ρ'' st elt w) ∧ out = (if q then [w] else []) ∧ ∀ y u, ρ' y = some u → ρ'' y = some u)
    (hsz : ((outs.map List.flatten).flatten).length ≤ sizeLine) (hs : ∀ x, foldedSetIterable i0 env x = pure x := by intro _; rfl) (hs1 : ∀ env x, foldedSetIterable i1 env x = pure x := by intro _ _; rfl) :
    PC B n env ρ st (.ListComp elt [⟨t0, i0, [], 0⟩, ⟨t1, i1, f1, 0⟩] scope pos) (outs.map List.flatten).flatten := by
  refine ⟨elt, t0, i0, [], [⟨t1, i1, f1, 0⟩], scope, pos, rfl, hs, ok, fun A hA E s H RR S hRR => ?_⟩
  refine comp_blockG (RR := RR) (xs := xs) (rest := fun it D cenv => do
        let x ← eval i1 cenv
        standAt i1.pos
        let x ← foldedSetIterable i1 cenv x
        let _ ← runOwn (.compStart (.ListComp elt [⟨t0, i0, [], 0⟩, ⟨t1, i1, f1, 0⟩] scope pos) 1 (← holding [x] (pyIter x)) (.ref D) cenv) cenv
        again (.compLoop (.ListComp elt [⟨t0, i0, [], 0⟩, ⟨t1, i1, f1, 0⟩] scope pos) 0 it (.ref D) cenv)) hA S hiter htg ok hxs (fun D i H h => AccAt D (((outs.take i).map List.flatten).flatten) H h) (fun D i H h h' x dk hD => x.ext dk hD) (fun D i X H h x => x.dropX) (fun D H h ho => ⟨#[], 0, ho, .nil⟩) (fun it D cenv => ?_) (fun i v hv it D C hD => ?_) (fun D C h' tk m _ h1 h2 h3 h4 h5 h6 => ?_)
  · rw [turn_c]; rfl
  · have hil : i < vs.length := (List.getElem?_eq_some_iff.mp hv).1
    have hout : outs[i]? = some (outs[i]'(hlen ▸ hil)) := List.getElem?_eq_getElem _
    generalize outs[i]'(hlen ▸ hil) = os at hout
    obtain ⟨ρ', vs1, Cond1, Tg1, pl1, a1, a2, a3, a4, a5, a6⟩ := hturn i v os hv hout C
    have htake : outs.take (i + 1) = outs.take i ++ [os] := by rw [List.take_add_one, hout]; rfl
    refine ⟨ρ', a1, ?_⟩
    show RBodyG B n (cEnv scope C env) xs D st ρ' (restr scope ρ) _ _ (AccAt D (((outs.take i).map List.flatten).flatten)) (AccAt D (((outs.take (i + 1)).map List.flatten).flatten))
    have e : ((outs.take (i + 1)).map List.flatten).flatten = ((outs.take i).map List.flatten).flatten ++ os.flatten := by rw [htake]; simp
    rw [e]
    refine rb_nest a3 a4 os a5 a6 a2 (hs1 _) ?_
    have e1 : ((outs.map List.flatten).flatten).length = (((outs.take (i + 1)).map List.flatten).flatten).length + (((outs.drop (i + 1)).map List.flatten).flatten).length := by
      rw [← List.length_append, ← List.flatten_append, ← List.map_append, List.take_append_drop]
    rw [e, List.length_append] at e1
    omega
  · rw [← hlen, List.take_length] at h5
    exact hRR D C h' tk m h1 h2 h3 h4 h5 h6
end
end Mine

-- part Gw38
namespace Mine

def rowV (r : List Int) : V := .lst (r.map V.int)
theorem ints_any {H H' : Hd} {h h' : Heap} : ∀ {vs : List Value} {ns : List Int}, RepAll H h vs (ns.map V.int) → RepAll H' h' vs (ns.map V.int)
  | _, [], .nil => .nil
  | _, _ :: _, .cons r1 r => by cases r1; exact .cons (.int ..) (ints_any r)

section
variable {B : Bs} {n m : Nat} {env : Env} {ρ : Nm} {st : Store} {Φ : Fl → Nm → Store → Prop} {Ψ : V → Store → Prop}

/-- several new mutable lists at once -/
theorem sim_news {H : Hd} {h h' : Heap} {N : List Addr} {ls : List (List V)} (S : Sim B env ρ st H h) (kp : KH B h h') (hN : ∀ a ∈ N, h.get? a = none) (hnd : N.Nodup) (hlen : N.length = ls.length)
    (hat : ∀ (j : Nat) a l, N[j]? = some a → ls[j]? = some l → ∃ xs q, h'.get? a = some (lisObj xs q) ∧ RepAll ⟨H.hs ++ N, H.xs⟩ h' xs.toList l) :
    Sim B env ρ (st ++ ls) ⟨H.hs ++ N, H.xs⟩ h' ∧ CS B m H h ⟨H.hs ++ N, H.xs⟩ h' ∧ ∀ (j : Nat) a, N[j]? = some a → Rep ⟨H.hs ++ N, H.xs⟩ h' (.ref a) (.ref (st.length + j)) := by
  have hNH : ∀ a ∈ N, ¬ H.has a := fun a ha hh => by obtain ⟨o, e, _⟩ := S.sto.live a hh; rw [hN a ha] at e; cases e
  have new : ∀ b, (⟨H.hs ++ N, H.xs⟩ : Hd).has b → ¬ H.has b → h.get? b = none := fun b hb hn => by
    rcases hb with hb | hb
    · rcases List.mem_append.mp hb with hb | hb
      · exact absurd (.inl hb) hn
      · exact hN b hb
    · exact absurd (.inr hb) hn
  have cs : CS B m H h ⟨H.hs ++ N, H.xs⟩ h' := ⟨⟨N, rfl⟩, rfl, new, fun b o _ hx e => kp.keep b o hx e⟩
  refine ⟨⟨⟨fun b o e => kp.keep b o (ex_h0 e) (S.base.keep b o e), fun b hb => ?_, kp.tab S.base.tab⟩, ⟨by simp [S.sto.len, hlen], ?_, fun k b l' hb hl => ?_, fun b hb => ?_, fun b hb => ?_⟩, S.en.ext kp cs.dk⟩, cs, fun j a hj => ?_⟩
  · by_cases hh : H.has b
    · exact S.base.new b hh
    · exact S.base.free (new b hb hh)
  · refine List.nodup_append.mpr ⟨S.sto.nd, hnd, fun x hx y hy e => ?_⟩
    exact hNH y hy (.inl (e ▸ hx))
  · by_cases hk : k < H.hs.length
    · have hb' : (H.hs ++ N)[k]? = some b := hb
      rw [List.getElem?_append_left hk] at hb'
      rw [List.getElem?_append_left (S.sto.len ▸ hk)] at hl
      obtain ⟨vs, q', ho', hr'⟩ := S.sto.at_ k b l' hb' hl
      exact ⟨vs, q', kp.seq (isSeq_lis ..) ho', hr'.ext cs.dk⟩
    · have hb' : (H.hs ++ N)[k]? = some b := hb
      rw [List.getElem?_append_right (by omega)] at hb'
      rw [List.getElem?_append_right (by rw [← S.sto.len]; omega), ← S.sto.len] at hl
      exact hat _ b l' hb' hl
  · by_cases hh : H.has b
    · obtain ⟨o, e, hs⟩ := S.sto.live b hh; exact ⟨o, kp.seq hs e, hs⟩
    · rcases hb with hb | hb
      · rcases List.mem_append.mp hb with hb | hb
        · exact absurd (.inl hb) hh
        · obtain ⟨j, hj⟩ := List.mem_iff_getElem?.mp hb
          have hjl := (List.getElem?_eq_some_iff.mp hj).1
          obtain ⟨xs, q, ho, _⟩ := hat j b _ hj (List.getElem?_eq_getElem (by omega))
          exact ⟨_, ho, isSeq_lis ..⟩
      · exact absurd (.inr hb) hh
  · intro hm
    rcases List.mem_append.mp hm with hm | hm
    · exact S.sto.dj b hb hm
    · exact hNH b hm (.inr hb)
  · refine .ref ?_
    show (H.hs ++ N)[st.length + j]? = some a
    rw [← S.sto.len, List.getElem?_append_right (by omega), Nat.add_sub_cancel_left]; exact hj

/-- an expression whose value is a new list of numbers -/
def PEF (B : Bs) (n : Nat) (env : Env) (ρ : Nm) (st : Store) (e : Expr) (r : List Int) : Prop :=
  ∀ A, Rm n A → ∀ E s H, Sim B env ρ st H s.heap →
    wpAny (model B.prog B.w) A (eval e env) (fun x s' => KT B s s' ∧ ∃ a vs q, x = .ref a ∧ (∀ b o, s.heap.get? b = some o → b < a) ∧ s'.heap.get? a = some (lisObj vs q) ∧ RepAll H s'.heap vs.toList (r.map V.int)) E s

theorem pf_slice {e : Expr} {p pos : Pos} {a : V} {r : List Int} (h1 : PE B n env ρ st e a) (hl : lis st a = some (r.map V.int)) (hsz : r.length ≤ sizeLine) : PEF B n env ρ st (.Subscript e (.Slice none none none p) pos) r := fun A hA E s H S => by
  refine Subscript_ (wpAny_mono (h1 A hA E s H S) (fun x s₁ ⟨k1, r1⟩ => wpAny_Slice (wpAny_pure (wpAny_pure (wpAny_pure ?_)))) fun _ _ e => e)
  have S4 := S.keeps (kp_get k1)
  obtain ⟨ad, vs, q, rfl, ho, hr⟩ := lis_at (B := B) S4.sto r1 hl
  have ho' := Heap.get?_push_of_some { cls := .type "slice", data := .fields #[.none, .none, .none] } ho
  refine tail_any (T := "list") (id := "list.__getitem__") (ops := [Value.ref s₁.heap.objs.size, Value.ref ad]) (isList_of ho').typeIs slot_list_getitem.lookup (wpAny_getItem_list_slice (isList_of ho') (Heap.IsSliceOf.new ..) .none .none .none (by simp) ⟨kp_trans k1 (kp_trans (kp_push ..) (kp_push ..)), ?_⟩ (by rw [hr.size]; simpa using hsz)) rfl
  refine ⟨_, _, _, rfl, ?_, Heap.get?_push_size _ rfl, ?_⟩
  · intro b o e
    obtain ⟨o', e'⟩ := (kp_get k1).live b o e
    rw [Heap.size_push]; exact Nat.lt_succ_of_lt (Heap.lt_size e')
  · have := hr.slice none none none
    rw [slc_all] at this
    exact ints_any this

/-- new lists of numbers in a growing list -/
def FrAt (D : Addr) (rs : List (List Int)) (H : Hd) (h : Heap) : Prop :=
  ∃ (as : List Addr) (q : Nat), h.get? D = some (lisObj (as.map Value.ref).toArray q) ∧ as.Nodup ∧ as.length = rs.length ∧ (∀ a ∈ as, D < a ∧ ¬ H.has a) ∧
    ∀ (j : Nat) a r, as[j]? = some a → rs[j]? = some r → ∃ vs q, h.get? a = some (lisObj vs q) ∧ RepAll H h vs.toList (r.map V.int)

theorem FrAt.ext {D : Addr} {rs : List (List Int)} {H : Hd} {h h' : Heap} (x : FrAt D rs H h) (dk : DKeep H h H h') (hD : ∀ o, IsSeq o → h.get? D = some o → h'.get? D = some o) : FrAt D rs H h' := by
  obtain ⟨as, q, h1, h2, h3, h4, h5⟩ := x
  refine ⟨as, q, hD _ (isSeq_lis ..) h1, h2, h3, h4, fun j a r ha hr => ?_⟩
  obtain ⟨vs, q', ho, hrr⟩ := h5 j a r ha hr
  exact ⟨vs, q', dk.keep a _ (h4 a (List.mem_of_getElem? ha)).2 (isSeq_lis ..) ho, ints_any hrr⟩
theorem FrAt.dropX {D : Addr} {rs : List (List Int)} {X : List Addr} {H : Hd} {h : Heap} (x : FrAt D rs ⟨H.hs, X ++ H.xs⟩ h) : FrAt D rs H h := by
  obtain ⟨as, q, h1, h2, h3, h4, h5⟩ := x
  refine ⟨as, q, h1, h2, h3, fun a ha => ⟨(h4 a ha).1, fun hh => (h4 a ha).2 ?_⟩, fun j a r ha hr => ?_⟩
  · rcases hh with hh | hh
    · exact .inl hh
    · exact .inr (List.mem_append_right _ hh)
  · obtain ⟨vs, q', ho, hrr⟩ := h5 j a r ha hr
    exact ⟨vs, q', ho, ints_any hrr⟩

/-- the turn puts a new list onto the growing one -/
theorem rb_fresh {cenv : Env} {xs : List Str} {D : Addr} {ρ ρ₀ : Str → Option V} {elt : Expr} {c : Code} {rs : List (List Int)} {r : List Int} (h2 : PEF B n cenv ρ st elt r) (hw : ∀ y v, ρ₀ y = some v → ρ y = some v) (hsz : rs.length ≤ sizeLine) :
    RBodyG B n cenv xs D st ρ ρ₀ ((eval elt cenv >>= fun x => call (.builtin "list.append") [.ref D, x] >>= fun _ => pure ()) >>= fun _ => again c) c (FrAt D rs) (FrAt D (rs ++ [r])) := fun A hA O E s H hD hDw S acc => by
  refine wpAny_bind (wpAny_bind (wpAny_mono (h2 A hA _ s H S) (fun x s₂ ⟨k2, a, vs, q, ex, hlt, ho, hr⟩ => ?_) fun _ _ e => e))
  subst ex
  have S₂ := S.keeps (kp_get k2)
  obtain ⟨as, qD, b1, b2, b3, b4, b5⟩ := acc
  have hDs : s₂.heap.get? D = some (lisObj (as.map Value.ref).toArray qD) := (kp_get k2).seq (isSeq_lis ..) b1
  have hDa : D < a := hlt D _ b1
  have haH : ¬ H.has a := fun hh => by obtain ⟨o, e, _⟩ := S.sto.live a hh; exact absurd (hlt a o e) (Nat.lt_irrefl _)
  have hasl : ∀ b ∈ as, b < a := fun b hb => by
    obtain ⟨j, hj⟩ := List.mem_iff_getElem?.mp hb
    have hjl := (List.getElem?_eq_some_iff.mp hj).1
    obtain ⟨ws, q', e, _⟩ := b5 j b _ hj (List.getElem?_eq_getElem (by omega))
    exact hlt b _ e
  refine wpAny_bind (wpAny_append_lis hDs (by simp; omega) fun h₃ m' ho₃ hs₃ => wpAny_pure (wpAny_pure ⟨rfl, ?_⟩))
  obtain ⟨h₂, tk₂, e2, kp⟩ := k2
  subst e2
  have kp3 : ∀ b o, b ≠ D → h₂.get? b = some o → h₃.get? b = some o := fun b o hb e => hs₃.extBut b o hb e
  refine ⟨h₃, tk₂, rfl, (sim_acc S₂ hD hDs ho₃ kp3).weaken hw, ⟨as ++ [a], m', ?_, ?_, by simp [b3], fun b hb => ?_, fun j b r' hj hr' => ?_⟩, fun b o hb _ hx e => kp3 b o hb (kp.keep b o hx e)⟩
  · rw [ho₃]; simp
  · refine List.nodup_append.mpr ⟨b2, by simp, fun x hx y hy e => ?_⟩
    cases List.mem_singleton.mp hy
    have := hasl x hx
    rw [e] at this; exact absurd this (Nat.lt_irrefl _)
  · rcases List.mem_append.mp hb with hb | hb
    · exact b4 b hb
    · cases List.mem_singleton.mp hb; exact ⟨hDa, haH⟩
  · by_cases hjl : j < as.length
    · rw [List.getElem?_append_left hjl] at hj
      rw [List.getElem?_append_left (by omega)] at hr'
      obtain ⟨ws, q', e, hrr⟩ := b5 j b r' hj hr'
      exact ⟨ws, q', kp3 b _ (fun e' => by have := (b4 b (List.mem_of_getElem? hj)).1; rw [e'] at this; exact absurd this (Nat.lt_irrefl _)) (kp.seq (isSeq_lis ..) e), ints_any hrr⟩
    · have hjl2 := (List.getElem?_eq_some_iff.mp hj).1
      have : j = as.length := by simp at hjl2; omega
      subst this
      rw [b3] at hr'
      simp at hj hr'
      subst hj; subst hr'
      exact ⟨vs, q, kp3 a _ (fun e' => by rw [e'] at hDa; exact absurd hDa (Nat.lt_irrefl _)) ho, ints_any hr⟩

/-- x = [.. new lists of numbers ..]: all of them and the list itself are mutable ones -/
theorem xuF {elt target iter : Expr} {scope : Scope} {pos : Pos} {y : Str} {py spos : Pos} {vs : List V} {Cond : Store → Prop} {Tg : Expr → Prop} {pl : Bool} {xs : List Str} (hiter : PI B n env ρ st iter vs Cond Tg pl) (htg : Tg target) (ok : okScope env scope = true) (hxs : ∀ x ∈ xs, scope.names.lookup x = some .local ∨ scope.names.lookup x = some .cell)
    (rs : List (List Int)) (hlen : rs.length = vs.length) (hsz : rs.length ≤ sizeLine)
    (hturn : ∀ (i : Nat) v r, vs[i]? = some v → rs[i]? = some r → ∀ C, ∃ ρ', PA B n (cEnv scope C env) st target v xs (restr scope ρ) ρ' ∧ PEF B n (cEnv scope C env) ρ' st elt r ∧ ∀ y u, restr scope ρ y = some u → ρ' y = some u)
    (hp : Φ .next (upd ρ y (.ref (st.length + rs.length))) (st ++ (rs.map (·.map V.int) ++ [(List.range rs.length).map fun j => V.ref (st.length + j)])))
    (hk : env.kindOf y = some .local := by kernel_rfl) (hsw : swapsWith (.ListComp elt [⟨target, iter, [], 0⟩] scope pos) (some (.Name y py)) spos.line env = pure true := by kernel_rfl) (hs : ∀ x, foldedSetIterable iter env x = pure x := by intro _; rfl) :
    EX1 B n env m ρ st (.Assign [.Name y py] (.ListComp elt [⟨target, iter, [], 0⟩] scope pos) spos) Φ := fun A hA O E s H S => by
  obtain ⟨f1, f2, f3⟩ := okScope_facts ok
  rw [exec_Assign_Name_used _ _ _ _ hsw]
  refine wpAny_bind (wpAny_standAt (wpAny_bind ?_))
  show wpAny _ A (do let _ ← comprehension (.ListComp elt [⟨target, iter, [], 0⟩] scope pos) scope env _ (newList []) false (eval iter env) (some (assign (.Name y py) env))) _ _ s
  refine wpAny_bind (wpAny_mono (wpAny_comprehension_free (use := some (assign (.Name y py) env)) (Q := fun _ s' => _) rfl hs (hclos_of S.en ok) f1 (hnames_of f2) (comp_blockG (RR := fun acc C => compPost (model B.prog B.w) A E (some (assign (.Name y py) env)) _ acc C) (xs := xs) (rest := fun it D cenv => (eval elt cenv >>= fun x => call (.builtin "list.append") [.ref D, x] >>= fun _ => pure ()) >>= fun _ => again (.compLoop (.ListComp elt [⟨target, iter, [], 0⟩] scope pos) 0 it (.ref D) cenv)) hA S hiter htg ok hxs (fun D i H h => FrAt D (rs.take i) H h) (fun D i H h h' x dk hD => x.ext dk hD) (fun D i X H h x => x.dropX) (fun D H h ho => ⟨[], 0, ho, List.nodup_nil, by simp, by simp, by simp⟩) (fun it D cenv => ?_) (fun i v hv it D C hD => ?_) ?_)) (fun _ s' hq => wpAny_pure (wpAny_pure hq)) fun _ _ e => e)
  · rw [compTurn_list1]; rfl
  · have hil : i < vs.length := (List.getElem?_eq_some_iff.mp hv).1
    have hout : rs[i]? = some (rs[i]'(hlen ▸ hil)) := List.getElem?_eq_getElem _
    generalize rs[i]'(hlen ▸ hil) = r at hout
    obtain ⟨ρ', a1, a2, a3⟩ := hturn i v r hv hout C
    refine ⟨ρ', a1, ?_⟩
    show RBodyG B n (cEnv scope C env) xs D st ρ' (restr scope ρ) _ _ (FrAt D (rs.take i)) (FrAt D (rs.take (i + 1)))
    rw [List.take_add_one, hout]
    exact rb_fresh a2 a3 (by simp; omega)
  · intro D C h' tk q hlo hD hC hDC hn acc kp
    show wpAny _ A (assign (.Name y py) env (.ref D)) _ _ _
    rw [← hlen, List.take_length] at acc
    obtain ⟨as, qD, b1, b2, b3, b4, b5⟩ := acc
    have hfresh : ∀ a ∈ as ++ [D], s.heap.get? a = none := fun a ha => by
      cases e : s.heap.get? a with
      | none => rfl
      | some o =>
        have := hlo a o e
        rcases List.mem_append.mp ha with ha | ha
        · exact absurd (Nat.lt_trans this (b4 a ha).1) (Nat.lt_irrefl _)
        · cases List.mem_singleton.mp ha; exact absurd this (Nat.lt_irrefl _)
    have hget : ∀ (j : Nat) a, as[j]? = some a → (⟨H.hs ++ (as ++ [D]), H.xs⟩ : Hd).hs[st.length + j]? = some a := fun j a hj => by
      show (H.hs ++ (as ++ [D]))[st.length + j]? = some a
      rw [← S.sto.len, List.getElem?_append_right (by omega), Nat.add_sub_cancel_left, List.getElem?_append_left (List.getElem?_eq_some_iff.mp hj).1]; exact hj
    obtain ⟨S', cs, hrefs⟩ := sim_news (m := m) (N := as ++ [D]) (ls := rs.map (·.map V.int) ++ [(List.range rs.length).map fun j => V.ref (st.length + j)]) S kp hfresh (by
        refine List.nodup_append.mpr ⟨b2, by simp, fun x hx z hz e => ?_⟩
        cases List.mem_singleton.mp hz
        have := (b4 x hx).1
        rw [e] at this; exact absurd this (Nat.lt_irrefl _)) (by simp [b3]) (fun j a l hj hl => by
        by_cases hjl : j < as.length
        · rw [List.getElem?_append_left hjl] at hj
          rw [List.getElem?_append_left (by simp; omega)] at hl
          obtain ⟨r, hr, rfl⟩ : ∃ r, rs[j]? = some r ∧ r.map V.int = l := by simpa using hl
          obtain ⟨ws, q', e, hrr⟩ := b5 j a r hj hr
          exact ⟨ws, q', e, ints_any hrr⟩
        · have hjl2 := (List.getElem?_eq_some_iff.mp hj).1
          have : j = as.length := by simp at hjl2; omega
          subst this
          rw [b3] at hl
          simp at hj hl
          subst hj; subst hl
          refine ⟨_, _, b1, RepAll.of_get (by simp [b3]) fun i x v hx hv => ?_⟩
          obtain ⟨a, ha, rfl⟩ : ∃ a, as[i]? = some a ∧ Value.ref a = x := by simpa using hx
          have hil := (List.getElem?_eq_some_iff.mp ha).1
          obtain rfl : V.ref (st.length + i) = v := by simpa [show i < rs.length by omega] using hv
          exact .ref (hget i a ha))
    have hrD := hrefs as.length D (by simp)
    rw [b3] at hrD
    have hlive : ∀ b, wrt env [y] b → b ≠ C := fun b hb e => by
      subst e
      obtain ⟨o, ho⟩ := S.en.live _ (wrt_own hb)
      rw [hC] at ho; cases ho
    have hC0 : B.free C := S.base.free hC
    refine wpAny_assign_Name (st_name (xs := [y]) (v := .ref (st.length + rs.length)) S' (O.own _) (by simp) (.inl hk) hrD fun h₂ tk₂ S₂ kp₂ => ?_)
    have hn₂ : h₂.Ns C q := hn.at' fun o e => kp₂ C o (fun hw => hlive C hw rfl) e
    refine ⟨q, hn₂, fun h₃ hs₃ => ?_⟩
    obtain ⟨S₃, dk₃⟩ := S₂.but hn₂ hC0 (hlive _ (.inl rfl)) hs₃
    refine ⟨.next, _, _, _, h₃, tk₂, rfl, hp, .next, S₃, ?_⟩
    refine ⟨⟨as ++ [D], rfl⟩, rfl, cs.new, fun b o hb _ hx e => ?_⟩
    exact hs₃.extBut b o (fun e' => by subst e'; rw [hC] at e; cases e) (kp₂ b o (fun hw => hb (wrt_own hw)) (kp.keep b o hx e))
end
end Mine

-- part Gw39
namespace Mine

section
variable {B : Bs} {n m : Nat} {env : Env} {ρ : Nm} {st : Store} {Φ : Fl → Nm → Store → Prop} {Ψ : V → Store → Prop}

/-- a call that hands back a new list of new lists of numbers is pure -/
theorem OM.plRows {t : List Value → Sem Value} {vs : List V} {T : List (List Int)} (h : OM B n st.length st t vs (fun v st' => ∃ (k : Nat) (ks : List Nat), v = .ref k ∧ st.length ≤ k ∧ st'[k]? = some (ks.map V.ref) ∧ ks.length = T.length ∧ (∀ (j : Nat) q r, ks[j]? = some q → T[j]? = some r → st.length ≤ q ∧ st'[q]? = some (r.map V.int)) ∧ ∃ N, st' = st ++ N)) : PL B n st t vs (.lst (T.map rowV)) := fun A hA E s H xs S r => by
  refine wpAny_mono (h A hA E s H xs S r) (fun x s₁ q => ?_) fun _ _ e => e
  obtain ⟨v, st', H', h', tk, rfl, ⟨k, ks, rfl, hk, hst, hlen, hrows, N, rfl⟩, S', cs, r'⟩ := q
  have nk : ∀ b, ∀ k, st.length ≤ k → H.hs[k]? ≠ some b := fun b k hk hb => by
    have := (List.getElem?_eq_some_iff.mp hb).1
    rw [S.sto.len] at this; omega
  obtain ⟨N', epre⟩ := cs.pre
  have hnew : ∀ q a, st.length ≤ q → H'.hs[q]? = some a → ¬ H.has a := fun q a hq ha hh => by
    rcases hh with hh | hh
    · obtain ⟨i, hi⟩ := List.mem_iff_getElem?.mp hh
      have hil := (List.getElem?_eq_some_iff.mp hi).1
      have : H'.hs[i]? = some a := by rw [epre, List.getElem?_append_left hil]; exact hi
      have e := (List.getElem?_inj (List.getElem?_eq_some_iff.mp ha).1 S'.sto.nd).mp (ha.trans this.symm)
      rw [S.sto.len] at hil; omega
    · exact S'.sto.dj a (by rw [cs.xs]; exact hh) (List.mem_of_getElem? ha)
  refine ⟨⟨h', tk, rfl, ⟨fun b o hx e => cs.keep b o (nk b) hx e, fun _ => S'.base.tab, fun b o e => ?_⟩⟩, ?_⟩
  · by_cases hx : Ex B b o
    · exact tab_live S'.base.tab hx
    · exact ⟨o, cs.keep b o (nk b) hx e⟩
  · cases r' with
    | ref ha =>
      obtain ⟨ws, q, ho, hr⟩ := S'.sto.at_ _ _ _ ha hst
      refine .lst (hnew k _ hk ha) ho (RepAll.of_get ?_ fun i x v hx hv => ?_)
      · have := hr.length; simp [this, hlen]
      · obtain ⟨r, hr', rfl⟩ : ∃ r, T[i]? = some r ∧ rowV r = v := by simpa using hv
        obtain ⟨w, hw, rw'⟩ := hr.get' hx
        obtain ⟨q, hq, rfl⟩ : ∃ q, ks[i]? = some q ∧ V.ref q = w := by simpa using hw
        obtain ⟨hq1, hq2⟩ := hrows i q r hq hr'
        cases rw' with
        | ref hb =>
          obtain ⟨us, q', ho', hrr⟩ := S'.sto.at_ _ _ _ hb hq2
          exact .lst (hnew q _ hq1 hb) ho' (ints_any hrr)

/-- x, o[i] = e1, e2 -/
theorem x_swap {x : Str} {px sp tp vp pos : Pos} {k k2 : Nat} {o i e1 e2 : Expr} {v1 v2 : V} {q : Nat} {l : List V} {j : Int} (h1 : PEs B n env ρ st [e1, e2] [v1, v2]) (hk : env.kindOf x = some .local)
    (h3 : PE B n env (upd ρ x v1) st o (.ref q)) (h4 : st[q]? = some l) (h5 : PE B n env (upd ρ x v1) st i (.int j)) (h6 : 0 ≤ j) (h7 : j < l.length) (h8 : l.length < 2 ^ 62) (h9 : m ≤ q) (hp : Φ .next (upd ρ x v1) (st.set q (l.set j.toNat v2)))
    (he : (assignEach [.Tuple [.Name x px, .Subscript o i sp] k tp] env).map (·.2) = [assign (.Tuple [.Name x px, .Subscript o i sp] k tp) env] := by rfl)
    (he2 : assignEach [.Name x px, .Subscript o i sp] env = [(false, assign (.Name x px) env), (false, assign (.Subscript o i sp) env)] := by rfl)
    (hs : swapsWithSole [.Tuple [.Name x px, .Subscript o i sp] k tp] (.Tuple [e1, e2] k2 vp) pos.line env = pure false := by rfl) (hw : swappedStores [.Tuple [.Name x px, .Subscript o i sp] k tp] (.Tuple [e1, e2] k2 vp) env = pure none := by rfl) :
    EX1 B n env m ρ st (.Assign [.Tuple [.Name x px, .Subscript o i sp] k tp] (.Tuple [e1, e2] k2 vp) pos) Φ := fun A hA O E s H S => by
  refine wpAny_Assign_stores (wpAny_mono (pe_tuple h1 (by simp [sizeLine]) A hA E s H S) (fun y s₁ ⟨k1, r1⟩ => ?_) fun _ _ e => e) hs hw
  have S₁ := S.keeps (kp_get k1)
  obtain ⟨h₁, tk₁, rfl, kh₁⟩ := k1
  rw [he]
  show wpAny _ A (assign (.Tuple [.Name x px, .Subscript o i sp] k tp) env y) _ _ _
  cases r1 with
  | @tup ad vs qq lv ha ho hr =>
    refine wpAny_assign_Tuple hA.hd (isTup_of ho) (by rw [he2, hr.size]; rfl) (by rw [he2]; rfl) fun h₂ he₂ => ?_
    have kp₂ : ∀ b o, h₁.get? b = some o → h₂.get? b = some o := fun b o e => he₂ b o (Nat.ne_of_lt (Heap.lt_size e)) e
    have S₂ := S₁.keeps (.of kp₂)
    have hr₂ := hr.ext (.of_full (H := H) kp₂)
    rw [he2]
    generalize vs.toList = vl at hr₂
    cases hr₂ with
    | @cons y1 _ _ _ ry1 hr₂ =>
      cases hr₂ with
      | @cons y2 _ _ _ ry2 hr₂ =>
        cases hr₂
        show wpAny _ A (assignInOrder [assign (.Name x px) env, assign (.Subscript o i sp) env] [y1, y2]) _ _ _
        refine wpAny_assignInOrder_more (wpAny_assign_Name (st_name (xs := [x]) S₂ (O.own _) (by simp) (.inl hk) ry1 fun h₃ tk₃ S₃ kp₃ => ?_))
        have ry2' := ry2.ext (wrt_dk S₂.en kp₃)
        refine wpAny_assignInOrder_more ?_
        rw [arm_assign_Subscript]
        refine wpAny_bind (wpAny_holding (wpAny_mono (h3 A hA E _ H S₃) (fun ov s₄ ⟨k4, r4⟩ => ?_) fun _ _ e => e))
        refine wpAny_bind (wpAny_holding (wpAny_mono (h5 A hA E s₄ H (S₃.keeps (kp_get k4))) (fun iv s₅ ⟨k5, r5⟩ => ?_) fun _ _ e => e))
        refine wpAny_bind (wpAny_standAt ?_)
        have kk := kp_trans k4 k5
        have S₅ := S₃.keeps (kp_get kk)
        obtain ⟨h₅, tk₅, rfl, kh₅⟩ := kk
        cases r5
        cases r4 with
        | ref hq =>
          obtain ⟨ws, q', ho', hrr⟩ := S₅.sto.at_ _ _ _ hq h4
          have hsize := hrr.size
          refine wpAny_bind (wpAny_holding (wpAny_setItem_lis ho' h6 (by omega) (by rw [hsize]; omega) fun h₆ q₆ ho₆ hs₆ => ?_))
          refine wpAny_release (wpAny_assignInOrder_none ?_)
          obtain ⟨S₆, cs₆⟩ := sb_set (m := m) S₅.sb hq ho₆ (fun b o hb e => hs₆.extBut b o hb e) (l' := l.set j.toNat v2) (by simpa using hrr.set (ry2'.ext (.of_keeps kh₅))) h9
          have en₆ := S₅.en.cs S₅.sto cs₆
          have es1 : ES B env m H s.heap H h₃ := ES.trans ((CS.of_keeps (kh₁.trans (.of kp₂))).es) (es_wrt kp₃) S₂.sb S₂.en.live
          exact ⟨.next, _, _, H, h₆, tk₅, rfl, hp, .next, ⟨S₆.base, S₆.sto, en₆⟩, (es1.trans (((CS.of_keeps kh₅).trans cs₆ S₅.sb).es) S₃.sb S₃.en.live)⟩

theorem iter_tuple {I ad : Addr} {l : List V} : Iter B n (.ref I) l (fun _ => True) AnyT [] [I] [I]
    (fun H i h => h.IsTupleIter I ad i ∧ Rep H h (.ref ad) (.tup l)) where
  sub := fun b hb => hb
  frame := fun H H' i h h' ⟨hi, hr⟩ dk hk => ⟨hi.at fun o e => hk I (by simp) o e, hr.ext dk⟩
  wrObj := fun H i h b ⟨hi, _⟩ hb => by
    obtain ⟨o, ho, hc, hd⟩ := hi
    cases List.mem_singleton.mp hb
    exact ⟨o, ho, fun _ _ => ⟨⟨_, hd⟩, fun ⟨vs, q, t, e1, e2⟩ => by rw [hd] at e1; cases e1; simp at e2⟩⟩
  xObj := fun H i h b _ hb => by simp at hb
  item := fun A hA E s H st i v target Q hc _ S _ ⟨hi, hr⟩ hv hQ => by
    cases id hr with
    | tup ha ho hrs =>
      obtain ⟨x, hx, rx⟩ := hrs.get hv
      refine wpAny_pyNext_tuple_item hi (isTup_of ho) (by simpa using hx) fun h' hi' hs => ⟨x, rfl, letGo_tupleiter hi' ?_⟩
      have kp : ∀ b o, b ∉ [I] → s.heap.get? b = some o → h'.get? b = some o := fun b o hb e => hs.extBut b o (by simpa using hb) e
      have dk : DKeep H s.heap H h' := dk_seq fun b o hq e => kp b o (by
        intro hb
        cases List.mem_singleton.mp hb
        obtain ⟨o', ho', _, hd'⟩ := hi
        rw [e] at ho'; cases ho'
        obtain ⟨_, _, hq⟩ := hq
        rw [hq] at hd'; cases hd') e
      exact hQ x h' s.toks ⟨hi', hr.ext dk⟩ kp (rx.ext dk)
  done := fun A hA E s H st Q hc S _ ⟨hi, hr⟩ hQ => by
    cases id hr with
    | tup ha ho hrs =>
      refine wpAny_pyNext_tuple_end hA.hd hi (isTup_of ho) (by have := hrs.size; simp [this]) fun h' hs => ⟨rfl, hQ h' s.toks fun b o hb e => hs b o (by simpa using hb) e⟩
  self := fun A hA E s H i Q ⟨hi, _⟩ hQ => wpAny_pyIter_tupleiter hi hQ

theorem pi_tuple {e : Expr} {l : List V} (h1 : PE B n env ρ st e (.tup l)) : PI B n env ρ st e l (fun _ => True) AnyT true := fun A hA E s H S => by
  refine wpAny_mono (h1 A hA E s H S) (fun x s₁ ⟨k1, r1⟩ => ⟨k1, ?_⟩) fun _ _ e => e
  cases id r1 with
  | @tup ad vs q l ha ho hr =>
    refine wpAny_pyIter_tuple (isTup_of ho) ⟨kp_trans k1 (kp_push ..), [], _, _, _, iter_tuple (ad := ad), trivial, fun _ => rfl, ⟨⟨_, Heap.get?_push_size _ rfl, rfl, rfl⟩, r1.ext (kp_dk (B := B) (kp_push s₁ _) H)⟩, fun b hb => ?_⟩
    rcases hb with hb | hb
    · cases List.mem_singleton.mp hb; exact new_none k1 (Nat.le_refl _)
    · simp at hb

theorem drawList {prog : Program} {w : World} {A : Around} {E : Value → Shared → Prop} {it t : Addr} {items : Array Value} (hne : t ≠ it) : ∀ (n i : Nat) (s : Shared) (Q : List Value → Shared → Prop), s.heap.IsListIter it t i → s.heap.IsList t items → i + n ≤ items.size →
    (∀ h', h'.IsListIter it t (i + n) → Heap.SameBut it s.heap h' → Q ((items.toList.drop i).take n) { s with heap := h' }) → wpAny (model prog w) A (draw (.ref it) n) Q E s
  | 0, i, s, Q, hit, _, _, hQ => by
    show wpAny _ _ (pure []) Q E s
    exact wpAny_pure (by simpa using hQ s.heap hit (Heap.SameBut.refl ..))
  | n + 1, i, s, Q, hit, ht, hle, hQ => by
    have hlt : i < items.size := by omega
    show wpAny _ _ (pyNext (.ref it) >>= _) Q E s
    refine wpAny_bind (wpAny_pyNext_list_item hit ht (x := items[i]) (by simp [hlt]) fun h₁ hit₁ hs₁ => ?_)
    refine wpAny_bind (wpAny_holding (drawList hne n (i + 1) _ _ hit₁ (ht.at fun o e => hs₁.extBut _ o hne e) (by omega) fun h₂ hit₂ hs₂ => wpAny_pure ?_))
    have hd : items.toList.drop i = items[i] :: items.toList.drop (i + 1) := by simp [List.drop_eq_getElem_cons, hlt]
    have := hQ h₂ (by rw [show i + (n + 1) = i + 1 + n by omega]; exact hit₂) (hs₁.trans hs₂)
    rw [hd, List.take_succ_cons] at this
    exact this

theorem unpackList {prog : Program} {w : World} {A : Around} {E : Value → Shared → Prop} {s : Shared} {t : Addr} {items : Array Value} {Q : List Value → Shared → Prop} (hh : A.handled = none) (ht : s.heap.IsList t items)
    (hQ : ∀ h', Heap.ExtBut s.heap.objs.size s.heap h' → Q items.toList { s with heap := h' }) : wpAny (model prog w) A (unpackItems (.ref t) items.size none) Q E s := by
  have hlt : t ≠ s.heap.objs.size := by obtain ⟨o, ho, _⟩ := ht; exact Nat.ne_of_lt (Heap.lt_size ho)
  unfold unpackItems
  refine wpAny_bind ?_
  unfold notIterableAtAll
  refine wpAny_bind (wpAny_specialOf ht.typeIs F.slot_list_iter.lookup ?_)
  refine wpAny_pure ?_
  simp only [Bool.false_eq_true, if_false]
  refine wpAny_bind (wpAny_holding (wpAny_pyIter_list ht ?_))
  have ht' : (s.heap.push { cls := .type "list_iterator", data := .fields #[.ref t, .int 0 0] }).IsList t items := ht.push _
  refine wpAny_bind (wpAny_holding (drawList hlt items.size 0 _ _ ⟨_, Heap.get?_push_size _ rfl, rfl, rfl⟩ ht' (by omega) fun h₁ hit₁ hs₁ => ?_))
  have hall : List.take items.size (List.drop 0 items.toList) = items.toList := by
    rw [List.drop_zero]; exact List.take_of_length_le (by simp)
  rw [hall]
  rw [if_neg (by simp)]
  have ht₁ : h₁.IsList t items := ht'.at fun o e => hs₁.extBut _ o hlt e
  refine wpAny_bind (wpAny_holding (wpAny_pyNext_list_end hh hit₁ ht₁ (by simp) fun h₂ he₂ => ?_))
  simp only [Option.isSome_none, Bool.false_eq_true, if_false]
  refine wpAny_pure (hQ h₂ fun b o hb e => he₂ b o hb (hs₁.extBut b o hb (Heap.get?_push_of_some _ e)))

/-- targets from a list -/
theorem pa_tupleL {ts : List Expr} {k : Nat} {pos : Pos} {vs : List V} {xs : List Str} {ρ' : Str → Option V} (h : PAs B n env st ts vs xs ρ ρ') (hn : (assignEach ts env).length = vs.length := by rfl) (hstar : (assignEach ts env).findIdx? (·.1) = none := by rfl) :
    PA B n env st (.Tuple ts k pos) (.lst vs) xs ρ ρ' := fun A hA O E s H y S r => by
  cases r with
  | lst ha ho hr =>
    rw [arm_assign_Tuple]
    refine wpAny_bind (wpAny_standAt ?_)
    unfold unpack
    rw [hn, hstar, ← hr.size]
    refine wpAny_bind (wpAny_holding (unpackList hA.hd (isList_of ho) fun h' he => ?_))
    have kp : ∀ b o, s.heap.get? b = some o → h'.get? b = some o := fun b o e => he b o (Nat.ne_of_lt (Heap.lt_size e)) e
    refine wpAny_mono (h A hA O E { s with heap := h' } H _ (S.keeps (.of kp)) (hr.ext (.of_full kp))) (fun _ s₁ q => ?_) fun _ _ e => e
    obtain ⟨h'', tk', rfl, S'', kp'⟩ := q
    exact ⟨h'', tk', rfl, S'', fun b o hb e => kp' b o hb (kp b o e)⟩

/-- a list of numbers sorted -/
theorem o_sortedInts {a : V} {ns out : List Int} (hl : lis st a = some (ns.map V.int)) (h64 : ns.length < 64) (hu : ∀ ns' : List Int, ns'.Perm ns → ns'.Pairwise (· ≤ ·) → ns' = out) : PL B n st (fun xs => call (.builtin "sorted") xs) [a] (.lst (out.map V.int)) := PL.one fun A hA E s H x S rx => by
  obtain ⟨ad, vs, q, rfl, ho, hr⟩ := lis_at (B := B) S.sto rx hl
  have hlen := hr.length
  simp only [List.length_map] at hlen
  refine sorted_ints (vs := vs.toList) (by simpa using isList_of ho) (ints_of_rep hr) (by omega) fun o ns' a1 a2 a3 => ?_
  have e := hu ns' a2 a3
  subst e
  obtain ⟨e', he'⟩ := sortedAll_at s.heap vs.toList o
  refine ⟨kp_heap fun b o' e => sortedAll_old e, .lst (fun hm => ?_) he' (repAll_ints a1)⟩
  obtain ⟨o', e, _⟩ := S.sto.live _ hm
  exact absurd (Heap.lt_size e) (Nat.not_lt.mpr (Nat.le_succ _))

/-- one name as the target, in a cell of the comprehension's own -/
theorem pc_nameC {α : Type} {elt iter : Expr} {x : Str} {px : Pos} {ifs : List Expr} {scope : Scope} {pos : Pos} {Cond : Store → Prop} {Tg : Expr → Prop} {pl : Bool} (as : List α) (c : α → V) (p : α → Bool) (f : α → V) {vs out : List V} (hout : out = (as.filter p).map f) (hiter : PI B n env ρ st iter vs Cond Tg pl) (hvs : vs = as.map c) (htg : Tg (.Name x px))
    (hp : ∀ a ∈ as, ∀ C, PTs B n (cEnv scope C env) (upd (restr scope ρ) x (c a)) st ifs (p a)) (hf : ∀ a ∈ as, p a = true → ∀ C, PE B n (cEnv scope C env) (upd (restr scope ρ) x (c a)) st elt (f a))
    (hsz : as.length ≤ sizeLine) (ok : okScope env scope = true := by kernel_rfl) (hx : scope.names.lookup x = some .cell := by kernel_rfl) (hs : ∀ x, foldedSetIterable iter env x = pure x := by intro _; rfl) :
    PC B n env ρ st (.ListComp elt [⟨.Name x px, iter, ifs, 0⟩] scope pos) out :=
  pc_if [x] as c (fun a => upd (restr scope ρ) x (c a)) p f hout hiter hvs htg ok (fun y hy => by cases List.mem_singleton.mp hy; exact .inr hx) (fun a _ C => pa_name (by simp) (kind_comp (.inr hx))) (fun a _ => upd_weak (.inr hx) fun y u h => h) hp hf hsz hs
end
end Mine

-- part L3a
open_top hd for PySem.Challenge.rw_dm0011_03

-- part B3
namespace Mine

structure L3 (B : Bs) : Prop where
  hK : B.K = hd.heap_39 B.w.params
  hT : B.tabs = []

section
variable {B : Bs} {n m : Nat} {st : Store}

theorem L3.top (h : L3 B) : hasTop B.K = true := by rw [h.hK]; kernel_rfl
theorem g_b {x : Str} {v : Value} (h : L3 B) (hg : gname (hd.heap_39 B.w.params) x = none) (hb : bootBuiltins x = some v) (hx : x ≠ "__name__") : (B.mg x).or (B.mb x) = some v := glob_b h.top (by rw [h.hK]; exact hg) hb hx
theorem g_g {x : Str} {v : Value} (h : L3 B) (hg : gname (hd.heap_39 B.w.params) x = some v) : B.mg x = some v := glob_g h.top (by rw [h.hK]; exact hg)
theorem f_ok (h : L3 B) (a : Addr) (hb : fnOkB (hd.heap_39 B.w.params) a = true) : FnOk B a (fdOf (hd.heap_39 B.w.params) a) (bodyOf (fdOf (hd.heap_39 B.w.params) a)) := by
  have := fnOk_of (B := B) (a := a) (by rw [h.hK]; exact hb)
  rw [h.hK] at this; exact this
theorem g_len (h : L3 B) : (B.mg "len").or (B.mb "len") = some (.builtin "len") := g_b h (by kernel_rfl) (by decide +kernel) (by decide)

/-- the measure of a search -/
def gap (ρ : Nm) (_ : Store) : Nat := match ρ "lo", ρ "hi" with
  | some (.int lo), some (.int hi) => (hi - lo).toNat
  | _, _ => 0
theorem gap_eq {ρ : Nm} {st : Store} {lo hi : Int} (h1 : ρ "lo" = some (.int lo)) (h2 : ρ "hi" = some (.int hi)) : gap ρ st = (hi - lo).toNat := by unfold gap; rw [h1, h2]

/-- the first default of a def -/
def dfl (K : Frag) (a : Addr) : Value := match (fdOf K a).defaults with
  | .ref t => (match K.lookup t with | some ⟨_, _, .seq vs _, _⟩ => vs.getD 0 .none | _ => .none)
  | _ => .none

theorem left_ex (h : L3 B) {L : Addr} {a x : V} {l : List V} {r : Nat} (hl : lis st a = some l) (hfit : l.length < 2 ^ 60) (hr : r ≤ l.length)
    (hc : ∀ (i : Nat) v, l[i]? = some v → P2 B (n + 1) st (compareOp .Lt) v x (.bool (decide (i < r)))) :
    EX B (n + 1) (callEnvC (fdOf (hd.heap_39 B.w.params) 32) L 32) m (fun y => ((["a", "x", "lo", "hi", "key"] : List Str).zip [a, x, .int 0, .none, .none]).lookup y) st (bodyOf (fdOf (hd.heap_39 B.w.params) 32)) (fun fl _ st' => retOf fl = .int r ∧ st' = st) := by
  refine ex_cons (x_if (c := false) (pt_cmp (pn rfl) pe_int o_lt) (fun h => by cases h) fun _ => ex_nil ?_)
  refine ex_cons (x_if (c := true) (pt_cmp (pn rfl) pe_none o_isNone) (fun _ => ?_) (fun h => by cases h))
  refine ex_cons (xa ((pe_callB (g_len h) (by kernel_rfl) (pes_cons (pn rfl) pes_nil) (o_len hl (by omega))).pm (ex_nil ?_)))
  refine ex_cons (x_if (c := true) (pt_cmp (pn rfl) pe_none o_isNone) (fun _ => ex_cons ?_) (fun h => by cases h))
  refine x_while (fun ρ st' => ∃ lo hi : Int, ρ "lo" = some (.int lo) ∧ ρ "hi" = some (.int hi) ∧ ρ "a" = some a ∧ ρ "x" = some x ∧ st' = st ∧ 0 ≤ lo ∧ lo ≤ r ∧ r ≤ hi ∧ hi ≤ l.length) gap ⟨0, l.length, rfl, rfl, rfl, rfl, rfl, by omega, by omega, by omega, by omega⟩ ?_
  rintro ρ st' ⟨lo, hi, n1, n2, n3, n4, rfl, b1, b2, b3, b4⟩
  refine ⟨decide (lo < hi), pt_cmp (pn n1) (pn n2) o_lt, fun hlt => ?_, fun hge => ex_nil (ex_cons (x_return ((pn n1).pm ?_)))⟩
  · have hlt : lo < hi := by simpa using hlt
    have hmid : (lo + hi).fdiv 2 = (lo + hi) / 2 := by rw [Int.fdiv_eq_ediv_of_nonneg _ (by decide)]
    have hv : l[((lo + hi).fdiv 2).toNat]? = some (l[((lo + hi).fdiv 2).toNat]'(by rw [hmid]; omega)) := List.getElem?_eq_getElem _
    generalize l[((lo + hi).fdiv 2).toNat]'(by rw [hmid]; omega) = v at hv
    refine ex_cons (xa ((pe_bin (pe_bin (pn n1) (pn n2) o_add) pe_int (o_fdiv (by decide))).pm ?_))
    refine ex_cons (x_if (pt_cmp (pe_sub (pn (nm_ne n3)) (pn nm_eq) (o_item hl (by rw [hmid]; omega) hv (by omega))) (pn (nm_ne n4)) (hc _ _ hv)) (fun ht => ?_) (fun hf => ?_))
    · refine ex_cons (xa ((pe_bin (pn nm_eq) pe_int o_add).pm (ex_nil (ex_nil ?_))))
      have ht : ((lo + hi).fdiv 2).toNat < r := by simpa using ht
      refine ⟨⟨_, _, nm_eq, nm_ne (nm_ne n2), nm_ne (nm_ne n3), nm_ne (nm_ne n4), rfl, by omega, by omega, by omega, by omega⟩, ?_⟩
      rw [gap_eq nm_eq (nm_ne (nm_ne n2)), gap_eq n1 n2]
      omega
    · refine ex_cons (xa ((pn nm_eq).pm (ex_nil (ex_nil ?_))))
      have hf : ¬ ((lo + hi).fdiv 2).toNat < r := by simpa using hf
      refine ⟨⟨_, _, nm_ne (nm_ne n1), nm_eq, nm_ne (nm_ne n3), nm_ne (nm_ne n4), rfl, by omega, by omega, by omega, by omega⟩, ?_⟩
      rw [gap_eq (nm_ne (nm_ne n1)) nm_eq, gap_eq n1 n2]
      omega
  · have hge : ¬ lo < hi := by simpa using hge
    exact ⟨by show V.int lo = V.int r; congr 1; omega, rfl⟩

theorem left_pl (h : L3 B) {a x : V} {l : List V} {r : Nat} (hl : lis st a = some l) (hfit : l.length < 2 ^ 60) (hr : r ≤ l.length)
    (hc : ∀ (i : Nat) v, l[i]? = some v → P2 B (n + 1) st (compareOp .Lt) v x (.bool (decide (i < r)))) : PL B (n + 2) st (fun xs => call (.ref 32) xs) [a, x] (.int r) := by
  refine OM.plFlat rfl (fn_om (names := ["a", "x", "lo", "hi", "key"]) (ws := [a, x, .int 0, .none, .none]) (pos := fun xs => xs) (kw := fun _ => []) (f_ok h 32 (by kernel_rfl)) (by kernel_rfl) rfl (fun H hp xs S rr => ?_) fun L => (left_ex (m := st.length) h hl hfit hr hc).mono fun f ρ' st' q => ⟨q.1, [], by simp [q.2]⟩)
  cases rr with
  | @cons y1 _ _ _ r1 rr =>
    cases rr with
    | @cons y2 _ _ _ r2 rr =>
      cases rr
      refine ⟨[y1, y2, dfl (hd.heap_39 B.w.params) 32, .none, .none], fun S => ?_, .cons r1 (.cons r2 (.cons (by show Rep H hp (.int 0 _) _; exact .int ..) (.cons .none (.cons .none .nil))))⟩
      rw [h.hK]
      kernel_rfl

theorem right_ex (h : L3 B) {L : Addr} {a x : V} {l : List V} {r : Nat} (hl : lis st a = some l) (hfit : l.length < 2 ^ 60) (hr : r ≤ l.length)
    (hc : ∀ (i : Nat) v, l[i]? = some v → P2 B (n + 1) st (compareOp .Lt) x v (.bool (decide (r ≤ i)))) :
    EX B (n + 1) (callEnvC (fdOf (hd.heap_39 B.w.params) 23) L 23) m (fun y => ((["a", "x", "lo", "hi", "key"] : List Str).zip [a, x, .int 0, .none, .none]).lookup y) st (bodyOf (fdOf (hd.heap_39 B.w.params) 23)) (fun fl _ st' => retOf fl = .int r ∧ st' = st) := by
  refine ex_cons (x_if (c := false) (pt_cmp (pn rfl) pe_int o_lt) (fun h => by cases h) fun _ => ex_nil ?_)
  refine ex_cons (x_if (c := true) (pt_cmp (pn rfl) pe_none o_isNone) (fun _ => ?_) (fun h => by cases h))
  refine ex_cons (xa ((pe_callB (g_len h) (by kernel_rfl) (pes_cons (pn rfl) pes_nil) (o_len hl (by omega))).pm (ex_nil ?_)))
  refine ex_cons (x_if (c := true) (pt_cmp (pn rfl) pe_none o_isNone) (fun _ => ex_cons ?_) (fun h => by cases h))
  refine x_while (fun ρ st' => ∃ lo hi : Int, ρ "lo" = some (.int lo) ∧ ρ "hi" = some (.int hi) ∧ ρ "a" = some a ∧ ρ "x" = some x ∧ st' = st ∧ 0 ≤ lo ∧ lo ≤ r ∧ r ≤ hi ∧ hi ≤ l.length) gap ⟨0, l.length, rfl, rfl, rfl, rfl, rfl, by omega, by omega, by omega, by omega⟩ ?_
  rintro ρ st' ⟨lo, hi, n1, n2, n3, n4, rfl, b1, b2, b3, b4⟩
  refine ⟨decide (lo < hi), pt_cmp (pn n1) (pn n2) o_lt, fun hlt => ?_, fun hge => ex_nil (ex_cons (x_return ((pn n1).pm ?_)))⟩
  · have hlt : lo < hi := by simpa using hlt
    have hmid : (lo + hi).fdiv 2 = (lo + hi) / 2 := by rw [Int.fdiv_eq_ediv_of_nonneg _ (by decide)]
    have hv : l[((lo + hi).fdiv 2).toNat]? = some (l[((lo + hi).fdiv 2).toNat]'(by rw [hmid]; omega)) := List.getElem?_eq_getElem _
    generalize l[((lo + hi).fdiv 2).toNat]'(by rw [hmid]; omega) = v at hv
    refine ex_cons (xa ((pe_bin (pe_bin (pn n1) (pn n2) o_add) pe_int (o_fdiv (by decide))).pm ?_))
    refine ex_cons (x_if (pt_cmp (pn (nm_ne n4)) (pe_sub (pn (nm_ne n3)) (pn nm_eq) (o_item hl (by rw [hmid]; omega) hv (by omega))) (hc _ _ hv)) (fun ht => ?_) (fun hf => ?_))
    · refine ex_cons (xa ((pn nm_eq).pm (ex_nil (ex_nil ?_))))
      have ht : r ≤ ((lo + hi).fdiv 2).toNat := by simpa using ht
      refine ⟨⟨_, _, nm_ne (nm_ne n1), nm_eq, nm_ne (nm_ne n3), nm_ne (nm_ne n4), rfl, by omega, by omega, by omega, by omega⟩, ?_⟩
      rw [gap_eq (nm_ne (nm_ne n1)) nm_eq, gap_eq n1 n2]
      omega
    · refine ex_cons (xa ((pe_bin (pn nm_eq) pe_int o_add).pm (ex_nil (ex_nil ?_))))
      have hf : ¬ r ≤ ((lo + hi).fdiv 2).toNat := by simpa using hf
      refine ⟨⟨_, _, nm_eq, nm_ne (nm_ne n2), nm_ne (nm_ne n3), nm_ne (nm_ne n4), rfl, by omega, by omega, by omega, by omega⟩, ?_⟩
      rw [gap_eq nm_eq (nm_ne (nm_ne n2)), gap_eq n1 n2]
      omega
  · have hge : ¬ lo < hi := by simpa using hge
    exact ⟨by show V.int lo = V.int r; congr 1; omega, rfl⟩

theorem right_pl (h : L3 B) {a x : V} {l : List V} {r : Nat} (hl : lis st a = some l) (hfit : l.length < 2 ^ 60) (hr : r ≤ l.length)
    (hc : ∀ (i : Nat) v, l[i]? = some v → P2 B (n + 1) st (compareOp .Lt) x v (.bool (decide (r ≤ i)))) : PL B (n + 2) st (fun xs => call (.ref 23) xs) [a, x] (.int r) := by
  refine OM.plFlat rfl (fn_om (names := ["a", "x", "lo", "hi", "key"]) (ws := [a, x, .int 0, .none, .none]) (pos := fun xs => xs) (kw := fun _ => []) (f_ok h 23 (by kernel_rfl)) (by kernel_rfl) rfl (fun H hp xs S rr => ?_) fun L => (right_ex (m := st.length) h hl hfit hr hc).mono fun f ρ' st' q => ⟨q.1, [], by simp [q.2]⟩)
  cases rr with
  | @cons y1 _ _ _ r1 rr =>
    cases rr with
    | @cons y2 _ _ _ r2 rr =>
      cases rr
      refine ⟨[y1, y2, dfl (hd.heap_39 B.w.params) 23, .none, .none], fun S => ?_, .cons r1 (.cons r2 (.cons (by show Rep H hp (.int 0 _) _; exact .int ..) (.cons .none (.cons .none .nil))))⟩
      rw [h.hK]
      kernel_rfl
end
end Mine

-- part M3
open PySem
namespace Mine

/-- e makes room for x: in rows the first greater, in columns the first not less -/
def up (d : Bool) (x e : Int) : Bool := if d then decide (x ≤ e) else decide (x < e)
theorem up_f {x e : Int} : up false x e = true ↔ x < e := by simp [up]
theorem up_t {x e : Int} : up true x e = true ↔ x ≤ e := by simp [up]
theorem up_f' {x e : Int} : up false x e = false ↔ e ≤ x := by simp [up]
theorem up_t' {x e : Int} : up true x e = false ↔ e < x := by simp [up]
def Srt3 (d : Bool) (r : List Int) : Prop := r.Pairwise fun a b => up d b a = false

def rins (d : Bool) (x : Int) : List Int → List Int × Option Int
  | [] => ([x], none)
  | e :: r => if up d x e then (x :: r, some e) else (e :: (rins d x r).1, (rins d x r).2)
def putT (d : Bool) : List (List Int) → Int → List (List Int)
  | [], x => [[x]]
  | r :: T, x => match (rins d x r).2 with
    | none => (rins d x r).1 :: T
    | some b => (rins d x r).1 :: putT d T b
def tab (d : Bool) (T : List (List Int)) (w : List Int) : List (List Int) := w.foldl (putT d) T

theorem rins_mem {d : Bool} {x : Int} : ∀ {r : List Int} {y : Int}, y ∈ (rins d x r).1 → y = x ∨ y ∈ r
  | [], y, h => by simpa [rins] using h
  | e :: r, y, h => by
    unfold rins at h
    split at h
    · rcases List.mem_cons.mp h with h | h
      · exact .inl h
      · exact .inr (List.mem_cons_of_mem _ h)
    · rcases List.mem_cons.mp h with h | h
      · exact .inr (by simp [h])
      · rcases rins_mem h with h | h
        · exact .inl h
        · exact .inr (List.mem_cons_of_mem _ h)
theorem rins_out {d : Bool} {x b : Int} : ∀ {r : List Int}, (rins d x r).2 = some b → up d x b = true ∧ b ∈ r
  | [], h => by simp [rins] at h
  | e :: r, h => by
    unfold rins at h
    split at h
    · rename_i he
      cases h; exact ⟨he, by simp⟩
    · have := rins_out h
      exact ⟨this.1, List.mem_cons_of_mem _ this.2⟩
theorem rins_srt {d : Bool} {x : Int} : ∀ {r : List Int}, Srt3 d r → Srt3 d (rins d x r).1
  | [], _ => by simp [rins, Srt3]
  | e :: r, h => by
    have h' := List.pairwise_cons.mp h
    unfold rins
    split
    · rename_i he
      refine List.pairwise_cons.mpr ⟨fun y hy => ?_, h'.2⟩
      have := h'.1 y hy
      cases d
      · rw [up_f] at he; rw [up_f'] at this ⊢; omega
      · rw [up_t] at he; rw [up_t'] at this ⊢; omega
    · rename_i he
      refine List.pairwise_cons.mpr ⟨fun y hy => ?_, rins_srt h'.2⟩
      rcases rins_mem hy with rfl | hy
      · simpa using he
      · exact h'.1 y hy
theorem rins_none {d : Bool} {x : Int} : ∀ {r : List Int}, (rins d x r).2 = none → (rins d x r).1 = r ++ [x]
  | [], _ => rfl
  | e :: r, h => by
    unfold rins at h ⊢
    split
    · rename_i he; rw [if_pos he] at h; cases h
    · rename_i he
      rw [if_neg he] at h
      simp [rins_none h]

/-- a row takes a word in and gives a word out -/
def rowRun : List Int → List Int → List Int × List Int
  | r, [] => (r, [])
  | r, x :: w => ((rowRun (rins false x r).1 w).1, (rins false x r).2.toList ++ (rowRun (rins false x r).1 w).2)

theorem rowRun_app (r : List Int) : ∀ (u v : List Int), rowRun r (u ++ v) = ((rowRun (rowRun r u).1 v).1, (rowRun r u).2 ++ (rowRun (rowRun r u).1 v).2)
  | u, v => by
    induction u generalizing r with
    | nil => simp [rowRun]
    | cons x u ih => simp only [List.cons_append, rowRun, ih, List.append_assoc]

theorem tab_cons (r : List Int) (T : List (List Int)) (w : List Int) : tab false (r :: T) w = (rowRun r w).1 :: tab false T (rowRun r w).2 := by
  induction w generalizing r T with
  | nil => rfl
  | cons x w ih =>
    have e : tab false (r :: T) (x :: w) = tab false (putT false (r :: T) x) w := rfl
    rw [e]
    unfold putT
    cases h : (rins false x r).2 with
    | none => simp only [rowRun, h]; rw [ih]; rfl
    | some b => simp only [rowRun, h]; rw [ih]; rfl
theorem tab_nil {w : List Int} (h : w ≠ []) : tab false [] w = tab false [[]] w := by
  cases w with
  | nil => exact absurd rfl h
  | cons x w => rfl
theorem tab_app (d : Bool) (T : List (List Int)) (u v : List Int) : tab d T (u ++ v) = tab d (tab d T u) v := List.foldl_append

/-- Knuth's two steps -/
inductive E3 : List Int → List Int → Prop
  | a (x y z : Int) : x < y → y ≤ z → E3 [y, z, x] [y, x, z]
  | b (x y z : Int) : x ≤ y → y < z → E3 [x, z, y] [z, x, y]

theorem rins_f (x e : Int) (r : List Int) (h : x < e) : rins false x (e :: r) = (x :: r, some e) := by unfold rins; rw [if_pos (up_f.mpr h)]
theorem rins_f' (x e : Int) (r : List Int) (h : e ≤ x) : rins false x (e :: r) = (e :: (rins false x r).1, (rins false x r).2) := by
  conv => lhs; unfold rins
  rw [if_neg (by simp [up_f'.mpr h])]

/-- the second of two that rise bumps no less -/
theorem bump_up {y z : Int} (hyz : y ≤ z) : ∀ {r : List Int}, Srt3 false r → ((rins false y r).2 = none → (rins false z (rins false y r).1).2 = none) ∧ ∀ y' z', (rins false y r).2 = some y' → (rins false z (rins false y r).1).2 = some z' → y' ≤ z'
  | [], _ => by
    constructor
    · intro _; show (rins false z [y]).2 = none; rw [rins_f' _ _ _ hyz]; rfl
    · intro y' z' h; simp [rins] at h
  | e :: r, hs => by
    have hs' := List.pairwise_cons.mp hs
    rcases Int.lt_or_le y e with h | h
    · rw [rins_f _ _ _ h]
      refine ⟨fun h => by simp at h, fun y' z' h1 h2 => ?_⟩
      simp only [rins_f' _ _ _ hyz] at h2
      have := rins_out h2
      have := up_f'.mp (hs'.1 z' this.2)
      simp at h1; omega
    · rw [rins_f' _ _ _ h]
      simp only [rins_f' _ _ _ (show e ≤ z by omega)]
      exact bump_up hyz hs'.2
/-- the second of two that fall bumps less -/
theorem bump_down {y z : Int} (hyz : y < z) : ∀ {r : List Int}, Srt3 false r → ∃ y', (rins false y (rins false z r).1).2 = some y' ∧ y' ≤ z ∧ ∀ z', (rins false z r).2 = some z' → y' < z'
  | [], _ => ⟨z, by show (rins false y [z]).2 = some z; rw [rins_f _ _ _ hyz], Int.le_refl _, fun z' h => by simp [rins] at h⟩
  | e :: r, hs => by
    have hs' := List.pairwise_cons.mp hs
    rcases Int.lt_or_le z e with h | h
    · rw [rins_f _ _ _ h]
      refine ⟨z, by simp only [rins_f _ _ _ hyz], Int.le_refl _, fun z' h' => by simp at h'; omega⟩
    · rw [rins_f' _ _ _ h]
      rcases Int.lt_or_le y e with h' | h'
      · refine ⟨e, by simp only [rins_f _ _ _ h'], h, fun z' hz => ?_⟩
        have := up_f.mp (rins_out hz).1
        omega
      · simp only [rins_f' _ _ _ h']
        exact bump_down hyz hs'.2

theorem rowRun3 (r : List Int) (a b c : Int) : rowRun r [a, b, c] = ((rins false c (rins false b (rins false a r).1).1).1, (rins false a r).2.toList ++ ((rins false b (rins false a r).1).2.toList ++ (rins false c (rins false b (rins false a r).1).1).2.toList)) := by
  simp [rowRun]
theorem rowRun_pass {e : Int} : ∀ {w r : List Int}, (∀ x ∈ w, e ≤ x) → rowRun (e :: r) w = (e :: (rowRun r w).1, (rowRun r w).2)
  | [], r, _ => rfl
  | x :: w, r, h => by
    have hx := h x (by simp)
    simp only [rowRun, rins_f' _ _ _ hx]
    rw [rowRun_pass fun y hy => h y (List.mem_cons_of_mem _ hy)]

theorem e3_nil {w w' : List Int} (h : E3 w w') : rowRun [] w = rowRun [] w' := by
  cases h with
  | a x y z h1 h2 =>
    rw [rowRun3, rowRun3]
    have e1 : rins false y [] = ([y], none) := rfl
    simp only [e1, rins_f' z y [] h2, rins_f x y [] h1, rins_f x y _ h1, rins_f' z x [] (show x ≤ z by omega)]
    simp [rins]
  | b x y z h1 h2 =>
    rw [rowRun3, rowRun3]
    have e1 : rins false x [] = ([x], none) := rfl
    have e2 : rins false z [] = ([z], none) := rfl
    simp only [e1, e2, rins_f' z x [] (show x ≤ z by omega), rins_f x z [] (show x < z by omega), rins_f' y x _ h1]
    simp [rins, up, h2]

theorem e3_row {w w' : List Int} (h : E3 w w') : ∀ {r : List Int}, Srt3 false r → (rowRun r w).1 = (rowRun r w').1 ∧ ((rowRun r w).2 = (rowRun r w').2 ∨ E3 (rowRun r w).2 (rowRun r w').2)
  | [], _ => by rw [e3_nil h]; exact ⟨rfl, .inl rfl⟩
  | e :: r, hs => by
    have hs' := List.pairwise_cons.mp hs
    have ih := e3_row h hs'.2
    have hge : ∀ y ∈ r, e ≤ y := fun y hy => up_f'.mp (hs'.1 y hy)
    cases h with
    | a x y z h1 h2 =>
      rcases Int.lt_or_le x e with hx | hx
      · rw [rowRun3, rowRun3]
        rcases Int.lt_or_le y e with hy | hy
        · rw [rins_f y e _ hy]
          simp only [rins_f' z y _ h2, rins_f x y _ h1, rins_f' z x _ (show x ≤ z by omega)]
          refine ⟨trivial, ?_⟩
          cases ho : (rins false z r).2 with
          | none => left; simp
          | some z' =>
            right
            have := hge z' (rins_out ho).2
            exact E3.a y e z' hy this
        · rw [rins_f' y e _ hy]
          simp only [rins_f' z e _ (show e ≤ z by omega), rins_f x e _ hx, rins_f' z x _ (show x ≤ z by omega)]
          refine ⟨trivial, ?_⟩
          have hb := bump_up h2 hs'.2
          cases ho : (rins false z (rins false y r).1).2 with
          | none => left; simp
          | some z' =>
            cases hy' : (rins false y r).2 with
            | none => have := hb.1 hy'; rw [ho] at this; cases this
            | some y' =>
              right
              have := up_f.mp (rins_out hy').1
              exact E3.a e y' z' (by omega) (hb.2 y' z' hy' ho)
      · rw [rowRun_pass (w := [y, z, x]) (by simp; omega), rowRun_pass (w := [y, x, z]) (by simp; omega)]
        exact ⟨by rw [ih.1], ih.2⟩
    | b x y z h1 h2 =>
      rcases Int.lt_or_le x e with hx | hx
      · rw [rowRun3, rowRun3]
        rcases Int.lt_or_le z e with hz | hz
        · cases r with
          | nil =>
            have e1 : rins false z [] = ([z], none) := rfl
            have e2 : rins false y [] = ([y], none) := rfl
            simp only [rins_f x e _ hx, rins_f z e _ hz, rins_f' z x _ (show x ≤ z by omega), rins_f x z _ (show x < z by omega), rins_f' y x _ h1, e1, e2, rins_f y z _ h2]
            exact ⟨trivial, .inl rfl⟩
          | cons c r =>
            have hc := hge c (by simp)
            simp only [rins_f x e _ hx, rins_f z e _ hz, rins_f' z x _ (show x ≤ z by omega), rins_f x z _ (show x < z by omega), rins_f' y x _ h1, rins_f z c _ (show z < c by omega), rins_f y z _ h2, rins_f y c _ (show y < c by omega)]
            exact ⟨trivial, .inr (E3.a z e c hz hc)⟩
        · simp only [rins_f x e _ hx, rins_f' z x _ (show x ≤ z by omega), rins_f' y x _ h1, rins_f' z e _ hz]
          refine ⟨trivial, ?_⟩
          obtain ⟨y', hy', hle, hlt⟩ := bump_down h2 hs'.2
          rw [hy']
          cases ho : (rins false z r).2 with
          | none => left; simp
          | some z' =>
            right
            have hm := rins_out hy'
            have : e ≤ y' := by
              rcases rins_mem hm.2 with rfl | hm
              · exact hz
              · exact hge y' hm
            exact E3.b e y' z' this (hlt z' ho)
      · rw [rowRun_pass (w := [x, z, y]) (by simp; omega), rowRun_pass (w := [z, x, y]) (by simp; omega)]
        exact ⟨by rw [ih.1], ih.2⟩

/-- words that act alike on every table -/
def Eqv (w w' : List Int) : Prop := ∀ T : List (List Int), (∀ r ∈ T, Srt3 false r) → tab false T w = tab false T w'

theorem putT_srt {d : Bool} : ∀ {T : List (List Int)} {x : Int}, (∀ r ∈ T, Srt3 d r) → ∀ r ∈ putT d T x, Srt3 d r
  | [], x, _, r, hr => by simp [putT] at hr; subst hr; simp [Srt3]
  | s :: T, x, h, r, hr => by
    unfold putT at hr
    have h1 := rins_srt (x := x) (h s (by simp))
    cases ho : (rins d x s).2 with
    | none =>
      simp only [ho] at hr
      rcases List.mem_cons.mp hr with rfl | hr
      · exact h1
      · exact h r (List.mem_cons_of_mem _ hr)
    | some b =>
      simp only [ho] at hr
      rcases List.mem_cons.mp hr with rfl | hr
      · exact h1
      · exact putT_srt (fun q hq => h q (List.mem_cons_of_mem _ hq)) r hr
theorem tab_srt {d : Bool} : ∀ {w : List Int} {T : List (List Int)}, (∀ r ∈ T, Srt3 d r) → ∀ r ∈ tab d T w, Srt3 d r
  | [], T, h => h
  | x :: w, T, h => tab_srt (w := w) (putT_srt h)
theorem Eqv.refl (w : List Int) : Eqv w w := fun _ _ => rfl
theorem Eqv.symm {w w' : List Int} (h : Eqv w w') : Eqv w' w := fun T hT => (h T hT).symm
theorem Eqv.trans {a b c : List Int} (h : Eqv a b) (h' : Eqv b c) : Eqv a c := fun T hT => (h T hT).trans (h' T hT)
theorem Eqv.ctx {w w' : List Int} (h : Eqv w w') (u v : List Int) : Eqv (u ++ w ++ v) (u ++ w' ++ v) := fun T hT => by
  rw [tab_app, tab_app, tab_app, tab_app, h _ (tab_srt hT)]
theorem Eqv.left {w w' : List Int} (h : Eqv w w') (u : List Int) : Eqv (u ++ w) (u ++ w') := by simpa using h.ctx u []
theorem Eqv.right {w w' : List Int} (h : Eqv w w') (v : List Int) : Eqv (w ++ v) (w' ++ v) := by simpa using h.ctx [] v
theorem Eqv.app {w w' v v' : List Int} (h : Eqv w w') (h' : Eqv v v') : Eqv (w ++ v) (w' ++ v') := (h.right v).trans (h'.left w')
theorem e3_ne {w w' : List Int} (h : E3 w w') : w ≠ [] ∧ w' ≠ [] := by cases h <;> simp
theorem E3.eqv {w w' : List Int} (h : E3 w w') : Eqv w w' := by
  intro T
  induction T generalizing w w' with
  | nil =>
    intro _
    rw [tab_nil (e3_ne h).1, tab_nil (e3_ne h).2, tab_cons, tab_cons, e3_nil h]
  | cons r T ih =>
    intro hT
    rw [tab_cons, tab_cons]
    obtain ⟨h1, h2⟩ := e3_row h (hT r (by simp))
    rw [h1]
    rcases h2 with h2 | h2
    · rw [h2]
    · rw [ih h2 fun q hq => hT q (List.mem_cons_of_mem _ hq)]

/-- the rows from the lowest on -/
def rword (T : List (List Int)) : List Int := T.reverse.flatten
theorem rword_cons (r : List Int) (T : List (List Int)) : rword (r :: T) = rword T ++ r := by simp [rword]

theorem moveL {x : Int} : ∀ {r : List Int} {e : Int}, Srt3 false (e :: r) → x < e → Eqv (e :: (r ++ [x])) (e :: x :: r)
  | [], e, _, _ => Eqv.refl _
  | c :: r, e, hs, hx => by
    have hs' := List.pairwise_cons.mp hs
    have hc := up_f'.mp (hs'.1 c (by simp))
    have h1 := (moveL hs'.2 (show x < c by omega)).left [e]
    have h2 := (E3.a x e c hx hc).eqv.right r
    exact h1.trans h2
theorem rins_head {d : Bool} {x b : Int} {r : List Int} (h : (rins d x r).2 = some b) : ∃ y t, (rins d x r).1 = y :: t ∧ (y = x ∨ (y ∈ r ∧ up d x y = false)) := by
  cases r with
  | nil => simp [rins] at h
  | cons e r =>
    unfold rins at h ⊢
    by_cases he : up d x e = true
    · rw [if_pos he]; exact ⟨x, r, rfl, .inl rfl⟩
    · rw [if_neg he]; exact ⟨e, _, rfl, .inr ⟨by simp, by simpa using he⟩⟩
theorem row_eqv {x : Int} : ∀ {r : List Int} {b : Int}, Srt3 false r → (rins false x r).2 = some b → Eqv (r ++ [x]) (b :: (rins false x r).1)
  | [], b, _, h => by simp [rins] at h
  | e :: r, b, hs, h => by
    have hs' := List.pairwise_cons.mp hs
    rcases Int.lt_or_le x e with hx | hx
    · rw [rins_f _ _ _ hx] at h ⊢
      simp at h; subst h
      exact moveL hs hx
    · rw [rins_f' _ _ _ hx] at h ⊢
      have h : (rins false x r).2 = some b := h
      have h1 := (row_eqv hs'.2 h).left [e]
      obtain ⟨y, t, e1, hy⟩ := rins_head h
      have hb := up_f.mp (rins_out h).1
      refine h1.trans ?_
      simp only [e1]
      have hey : e ≤ y ∧ y < b := by
        rcases hy with rfl | ⟨hm, hy⟩
        · exact ⟨hx, hb⟩
        · exact ⟨up_f'.mp (hs'.1 y hm), by have := up_f'.mp hy; omega⟩
      exact (E3.b e y b hey.1 hey.2).eqv.right t
theorem rword_put : ∀ {T : List (List Int)} {x : Int}, (∀ r ∈ T, Srt3 false r) → Eqv (rword T ++ [x]) (rword (putT false T x))
  | [], x, _ => by simp [rword, putT]; exact Eqv.refl _
  | r :: T, x, h => by
    unfold putT
    rw [rword_cons]
    cases ho : (rins false x r).2 with
    | none =>
      simp only
      rw [rword_cons, rins_none ho, List.append_assoc]
      exact Eqv.refl _
    | some b =>
      simp only
      rw [rword_cons, List.append_assoc]
      have h1 := (row_eqv (h r (by simp)) ho).left (rword T)
      have h2 := (rword_put (x := b) fun q hq => h q (List.mem_cons_of_mem _ hq)).right (rins false x r).1
      refine h1.trans ?_
      simpa using h2
theorem rword_tab : ∀ {w : List Int} {T : List (List Int)}, (∀ r ∈ T, Srt3 false r) → Eqv (rword T ++ w) (rword (tab false T w))
  | [], T, _ => by simpa [tab] using Eqv.refl (rword T)
  | x :: w, T, h => by
    have h1 := (rword_put (x := x) h).right w
    have h2 := rword_tab (w := w) (putT_srt (x := x) h)
    have e : tab false T (x :: w) = tab false (putT false T x) w := rfl
    rw [e]
    refine Eqv.trans ?_ h2
    simpa using h1
/-- each word is alike to its table's rows -/
theorem word_rows (w : List Int) : Eqv w (rword (tab false [] w)) := by
  have := rword_tab (w := w) (T := []) (by simp)
  simpa [rword] using this
end Mine

-- part N3
open PySem
namespace Mine

theorem rins_t (x e : Int) (r : List Int) (h : x ≤ e) : rins true x (e :: r) = (x :: r, some e) := by unfold rins; rw [if_pos (up_t.mpr h)]
theorem rins_t' (x e : Int) (r : List Int) (h : e < x) : rins true x (e :: r) = (e :: (rins true x r).1, (rins true x r).2) := by
  conv => lhs; unfold rins
  rw [if_neg (by simp [up_t'.mpr h])]

/-- the columns from the first on, each from below -/
def wc (C : List (List Int)) : List Int := (C.map List.reverse).flatten
theorem wc_cons (c : List Int) (C : List (List Int)) : wc (c :: C) = c.reverse ++ wc C := by simp [wc]

theorem moveR {x : Int} : ∀ {c : List Int} {e : Int}, Srt3 true (e :: c) → x ≤ e → Eqv (x :: (c.reverse ++ [e])) (c.reverse ++ [x, e])
  | [], e, _, _ => Eqv.refl _
  | f :: c, e, hs, hx => by
    have hs' := List.pairwise_cons.mp hs
    have hf := up_t'.mp (hs'.1 f (by simp))
    have h1 := (moveR hs'.2 (show x ≤ f by omega)).right [e]
    have h2 := (E3.b x e f hx hf).eqv.left c.reverse
    have e1 : x :: ((f :: c).reverse ++ [e]) = x :: (c.reverse ++ [f]) ++ [e] := by simp
    have e2 : (f :: c).reverse ++ [x, e] = c.reverse ++ [f, x, e] := by simp
    rw [e1, e2]
    refine h1.trans ?_
    simpa using h2
theorem col_eqv {x : Int} : ∀ {c : List Int} {b : Int}, Srt3 true c → (rins true x c).2 = some b → Eqv (x :: c.reverse) ((rins true x c).1.reverse ++ [b])
  | [], b, _, h => by simp [rins] at h
  | e :: c, b, hs, h => by
    have hs' := List.pairwise_cons.mp hs
    rcases Int.lt_or_le e x with hx | hx
    · rw [rins_t' _ _ _ hx] at h ⊢
      have h : (rins true x c).2 = some b := h
      have h1 := (col_eqv hs'.2 h).right [e]
      obtain ⟨y, t, e1, hy⟩ := rins_head h
      have hb := up_t.mp (rins_out h).1
      have hey : e < y ∧ y ≤ b := by
        rcases hy with rfl | ⟨hm, hy⟩
        · exact ⟨hx, hb⟩
        · exact ⟨up_t'.mp (hs'.1 y hm), by have := up_t'.mp hy; omega⟩
      have e2 : x :: (e :: c).reverse = x :: c.reverse ++ [e] := by simp
      rw [e2]
      refine h1.trans ?_
      simp only [e1]
      have h2 := (E3.a e y b hey.1 hey.2).eqv.left t.reverse
      simpa using h2
    · rw [rins_t _ _ _ hx] at h ⊢
      simp at h; subst h
      have := moveR hs hx
      simpa using this
theorem wc_put : ∀ {C : List (List Int)} {x : Int}, (∀ c ∈ C, Srt3 true c) → Eqv (x :: wc C) (wc (putT true C x))
  | [], x, _ => by simp [wc, putT]; exact Eqv.refl _
  | c :: C, x, h => by
    unfold putT
    rw [wc_cons]
    cases ho : (rins true x c).2 with
    | none =>
      simp only
      rw [wc_cons, rins_none ho]
      simp
      exact Eqv.refl _
    | some b =>
      simp only
      rw [wc_cons]
      have h1 := (col_eqv (h c (by simp)) ho).right (wc C)
      have h2 := (wc_put (x := b) fun q hq => h q (List.mem_cons_of_mem _ hq)).left (rins true x c).1.reverse
      refine Eqv.trans (by simpa using h1) ?_
      simpa using h2
theorem wc_tab : ∀ {w : List Int} {C : List (List Int)}, (∀ c ∈ C, Srt3 true c) → Eqv (w.reverse ++ wc C) (wc (tab true C w))
  | [], C, _ => by simpa [tab] using Eqv.refl (wc C)
  | x :: w, C, h => by
    have h1 := (wc_put (x := x) h).left w.reverse
    have h2 := wc_tab (w := w) (putT_srt (x := x) h)
    have e : tab true C (x :: w) = tab true (putT true C x) w := rfl
    rw [e]
    refine Eqv.trans ?_ h2
    simpa using h1

/-- one line beside the next -/
def Adj (d : Bool) : List Int → List Int → Prop
  | _, [] => True
  | [], _ :: _ => False
  | e :: l, f :: m => up d e f = true ∧ Adj d l m
def Val (d : Bool) : List (List Int) → Prop
  | [] => True
  | [l] => l ≠ [] ∧ Srt3 d l
  | l :: m :: T => l ≠ [] ∧ Srt3 d l ∧ Adj d l m ∧ Val d (m :: T)

theorem up_trans {d : Bool} {a b c : Int} (h1 : up d a b = true) (h2 : up d b c = true) : up d a c = true := by
  cases d
  · rw [up_f] at *; omega
  · rw [up_t] at *; omega
theorem up_weak {d : Bool} {a x b : Int} (h1 : up d x a = false) (h2 : up d x b = true) : up d a b = true := by
  cases d
  · rw [up_f'] at h1; rw [up_f] at *; omega
  · rw [up_t'] at h1; rw [up_t] at *; omega
theorem adj_app {d : Bool} {x : Int} : ∀ {l m : List Int}, Adj d l m → Adj d (l ++ [x]) m
  | l, [], _ => by cases l <;> trivial
  | [], _ :: _, h => h.elim
  | e :: l, f :: m, h => ⟨h.1, adj_app h.2⟩
theorem adj_nil {d : Bool} (l : List Int) : Adj d l [] := by cases l <;> trivial
theorem adj_same {d : Bool} {x b : Int} : ∀ {l m : List Int}, Adj d l m → (rins d x l).2 = some b → Adj d (rins d x l).1 m
  | l, [], _, _ => adj_nil _
  | [], _ :: _, h, _ => h.elim
  | e :: l, f :: m, h, ho => by
    unfold rins at ho ⊢
    by_cases he : up d x e = true
    · rw [if_pos he]; exact ⟨up_trans he h.1, h.2⟩
    · rw [if_neg he] at ho ⊢; exact ⟨h.1, adj_same h.2 ho⟩
theorem adj_bump {d : Bool} {x b : Int} : ∀ {l m : List Int}, Adj d l m → (rins d x l).2 = some b → Adj d (rins d x l).1 (rins d b m).1
  | [], m, _, ho => by simp [rins] at ho
  | e :: l, m, h, ho => by
    unfold rins at ho
    conv => arg 2; unfold rins
    by_cases he : up d x e = true
    · rw [if_pos he] at ho ⊢
      cases ho
      cases m with
      | nil => exact ⟨he, adj_nil _⟩
      | cons f m => unfold rins; rw [if_pos h.1]; exact ⟨he, h.2⟩
    · rw [if_neg he] at ho ⊢
      have ho : (rins d x l).2 = some b := ho
      have heb : up d e b = true := up_weak (by simpa using he) (rins_out ho).1
      cases m with
      | nil => exact ⟨heb, adj_nil _⟩
      | cons f m =>
        have h1 := adj_same h.2 ho
        have h2 := adj_bump h.2 ho
        generalize (rins d x l).1 = l' at *
        unfold rins
        by_cases hf : up d b f = true
        · rw [if_pos hf]; exact ⟨heb, h1⟩
        · rw [if_neg hf]; exact ⟨h.1, h2⟩
theorem val_tail {d : Bool} {l : List Int} {T : List (List Int)} (h : Val d (l :: T)) : Val d T := by
  cases T with
  | nil => trivial
  | cons m T => exact h.2.2.2
theorem val_head {d : Bool} {l : List Int} {T : List (List Int)} (h : Val d (l :: T)) : l ≠ [] ∧ Srt3 d l := by
  cases T with
  | nil => exact h
  | cons m T => exact ⟨h.1, h.2.1⟩
theorem val_srt {d : Bool} : ∀ {T : List (List Int)}, Val d T → ∀ l ∈ T, l ≠ [] ∧ Srt3 d l
  | l :: T, h, q, hq => by
    rcases List.mem_cons.mp hq with rfl | hq
    · exact val_head h
    · exact val_srt (val_tail h) q hq
theorem rins_ne {d : Bool} {x : Int} (r : List Int) : (rins d x r).1 ≠ [] := by
  cases r with
  | nil => simp [rins]
  | cons e r => unfold rins; split <;> simp
theorem val_bump {d : Bool} : ∀ {T : List (List Int)} {l : List Int} {x b : Int}, Val d (l :: T) → (rins d x l).2 = some b → Val d ((rins d x l).1 :: putT d T b)
  | [], l, x, b, h, ho => by
    refine ⟨rins_ne _, rins_srt h.2, ?_, by simp [Val, Srt3]⟩
    have := adj_bump (m := []) (adj_nil l) ho
    simpa [rins] using this
  | m :: T, l, x, b, h, ho => by
    have hadj := adj_bump h.2.2.1 ho
    unfold putT
    cases ho2 : (rins d b m).2 with
    | none =>
      simp only
      refine ⟨rins_ne _, rins_srt h.2.1, hadj, ?_⟩
      have hm := val_head h.2.2.2
      cases T with
      | nil => exact ⟨rins_ne _, rins_srt hm.2⟩
      | cons k T => refine ⟨rins_ne _, rins_srt hm.2, ?_, h.2.2.2.2.2.2⟩; rw [rins_none ho2]; exact adj_app h.2.2.2.2.2.1
    | some b2 =>
      simp only
      exact ⟨rins_ne _, rins_srt h.2.1, hadj, val_bump h.2.2.2 ho2⟩
theorem val_put {d : Bool} {T : List (List Int)} {x : Int} (h : Val d T) : Val d (putT d T x) := by
  cases T with
  | nil => simp [putT, Val, Srt3]
  | cons l T =>
    cases ho : (rins d x l).2 with
    | none =>
      unfold putT
      simp only [ho]
      have hm := val_head h
      cases T with
      | nil => exact ⟨rins_ne _, rins_srt hm.2⟩
      | cons k T => refine ⟨rins_ne _, rins_srt hm.2, ?_, h.2.2.2⟩; rw [rins_none ho]; exact adj_app h.2.2.1
    | some b =>
      have := val_bump h ho
      unfold putT
      simp only [ho]
      exact this
theorem val_tab {d : Bool} : ∀ {w : List Int} {T : List (List Int)}, Val d T → Val d (tab d T w)
  | [], T, h => h
  | x :: w, T, h => val_tab (w := w) (val_put h)

/-- a line laid upon the columns -/
def zipC : List Int → List (List Int) → List (List Int)
  | [], _ => []
  | a :: r, [] => [a] :: zipC r []
  | a :: r, c :: C => (a :: c) :: zipC r C
def trp : List (List Int) → List (List Int)
  | [] => []
  | r :: T => zipC r (trp T)
theorem zipC_len : ∀ (r : List Int) (C : List (List Int)), (zipC r C).length = r.length
  | [], _ => rfl
  | a :: r, [] => by simp [zipC, zipC_len r]
  | a :: r, c :: C => by simp [zipC, zipC_len r]
theorem trp_zipC : ∀ {r : List Int} {C : List (List Int)}, r ≠ [] → C.length ≤ r.length → trp (zipC r C) = r :: trp C
  | [], _, h, _ => absurd rfl h
  | [a], [], _, _ => rfl
  | [a], [c], _, _ => rfl
  | [a], _ :: _ :: _, _, h => by simp at h
  | a :: b :: r, [], _, _ => by
    have ih := trp_zipC (r := b :: r) (C := []) (by simp) (by simp)
    show zipC [a] (trp (zipC (b :: r) [])) = _
    rw [ih]; rfl
  | a :: b :: r, c :: C, _, h => by
    have ih := trp_zipC (r := b :: r) (C := C) (by simp) (by simp at h ⊢; omega)
    show zipC (a :: c) (trp (zipC (b :: r) C)) = _
    rw [ih]; rfl
theorem adj_len {d : Bool} : ∀ {l m : List Int}, Adj d l m → m.length ≤ l.length
  | _, [], _ => by simp
  | [], _ :: _, h => h.elim
  | e :: l, f :: m, h => by have := adj_len h.2; simp; omega
theorem trp_len {d : Bool} {l : List Int} {T : List (List Int)} (h : Val d (l :: T)) : (trp T).length ≤ l.length := by
  cases T with
  | nil => simp [trp]
  | cons m T => simp only [trp, zipC_len]; exact adj_len h.2.2.1
theorem trp_trp {d : Bool} : ∀ {T : List (List Int)}, Val d T → trp (trp T) = T
  | [], _ => rfl
  | r :: T, h => by
    show trp (zipC r (trp T)) = _
    rw [trp_zipC (val_head h).1 (trp_len h), trp_trp (val_tail h)]

/-- a line stands above the columns' heads -/
def HUp (d : Bool) : List Int → List (List Int) → Prop
  | _, [] => True
  | [], _ :: _ => False
  | a :: r, c :: C => (∀ e t, c = e :: t → up d a e = true) ∧ HUp d r C
theorem hup_nil {d : Bool} (r : List Int) : HUp d r [] := by cases r <;> trivial
theorem hup_zipC {d : Bool} : ∀ {r s : List Int} {C : List (List Int)}, Adj d r s → HUp d r (zipC s C)
  | r, [], C, _ => by simp only [zipC]; exact hup_nil r
  | [], _ :: _, _, h => h.elim
  | a :: r, b :: s, [], h => ⟨fun e t he => by cases he; exact h.1, hup_zipC h.2⟩
  | a :: r, b :: s, c :: C, h => ⟨fun e t he => by cases he; exact h.1, hup_zipC h.2⟩
theorem turn_up {d : Bool} {a b : Int} : up d b a = false ↔ up (!d) a b = true := by
  cases d
  · simp [up_f', up_t]
  · simp [up_t', up_f]
theorem val_zipC {d : Bool} : ∀ {r : List Int} {C : List (List Int)}, Srt3 d r → HUp d r C → Val (!d) C → Val (!d) (zipC r C)
  | [], C, _, _, _ => by simp [zipC, Val]
  | [a], [], _, _, _ => by simp [zipC, Val, Srt3]
  | a :: b :: r, [], hs, hh, _ => by
    have hs' := List.pairwise_cons.mp hs
    have ih := val_zipC (r := b :: r) (C := []) hs'.2 (hup_nil _) trivial
    show Val (!d) ([a] :: ([b] :: zipC r []))
    exact ⟨by simp, by simp [Srt3], ⟨turn_up.mp (hs'.1 b (by simp)), adj_nil _⟩, ih⟩
  | [a], c :: C, hs, hh, hC => by
    have hC0 : C = [] := by cases C with
      | nil => rfl
      | cons _ _ => exact hh.2.elim
    subst hC0
    refine ⟨by simp, ?_⟩
    refine List.pairwise_cons.mpr ⟨fun y hy => ?_, hC.2⟩
    cases c with
    | nil => simp at hy
    | cons e t =>
      have h1 := hh.1 e t rfl
      have hs2 := List.pairwise_cons.mp hC.2
      have h1' : up (!d) e a = false := by rw [turn_up]; simpa using h1
      rcases List.mem_cons.mp hy with rfl | hy
      · exact h1'
      · have h2 := hs2.1 y hy
        cases d
        · simp only [Bool.not_false, up_t'] at *; omega
        · simp only [Bool.not_true, up_f'] at *; omega
  | a :: b :: r, c :: C, hs, hh, hC => by
    have hs' := List.pairwise_cons.mp hs
    have ih := val_zipC (r := b :: r) (C := C) hs'.2 hh.2 (val_tail hC)
    have hab := turn_up.mp (hs'.1 b (by simp))
    have hcs : Srt3 (!d) (a :: c) := by
      refine List.pairwise_cons.mpr ⟨fun y hy => ?_, (val_head hC).2⟩
      cases c with
      | nil => simp at hy
      | cons e t =>
        have h1 := hh.1 e t rfl
        have hs2 := List.pairwise_cons.mp (val_head hC).2
        have h1' : up (!d) e a = false := by rw [turn_up]; simpa using h1
        rcases List.mem_cons.mp hy with rfl | hy
        · exact h1'
        · have h2 := hs2.1 y hy
          cases d
          · simp only [Bool.not_false, up_t'] at *; omega
          · simp only [Bool.not_true, up_f'] at *; omega
    cases C with
    | nil =>
      show Val (!d) ((a :: c) :: ([b] :: zipC r []))
      exact ⟨by simp, hcs, ⟨hab, adj_nil _⟩, ih⟩
    | cons c2 C =>
      show Val (!d) ((a :: c) :: ((b :: c2) :: zipC r C))
      exact ⟨by simp, hcs, ⟨hab, hC.2.2.1⟩, ih⟩
theorem val_trp {d : Bool} : ∀ {T : List (List Int)}, Val d T → Val (!d) (trp T)
  | [], _ => trivial
  | [r], h => val_zipC h.2 (hup_nil r) trivial
  | r :: s :: T, h => val_zipC h.2.1 (hup_zipC h.2.2.1) (val_trp h.2.2.2)

/-- a column's word put into a row leaves its least there -/
theorem rins_last {x f : Int} : ∀ {R : List Int}, (∀ y ∈ R, y ≤ x) → x < f → rins false x (R ++ [f]) = (R ++ [x], some f)
  | [], _, h => rins_f _ _ _ h
  | e :: R, hR, h => by
    rw [List.cons_append, rins_f' _ _ _ (hR e (by simp)), rins_last (fun y hy => hR y (List.mem_cons_of_mem _ hy)) h]; rfl
theorem rins_end {x : Int} : ∀ {R : List Int}, (∀ y ∈ R, y ≤ x) → rins false x R = (R ++ [x], none)
  | [], _ => rfl
  | e :: R, hR => by rw [rins_f' _ _ _ (hR e (by simp)), rins_end fun y hy => hR y (List.mem_cons_of_mem _ hy)]; rfl
theorem blk : ∀ {c : List Int} {a : Int} {R : List Int}, (∀ y ∈ R, y ≤ a) → Srt3 true (a :: c) → rowRun R (c.reverse ++ [a]) = (R ++ [a], c.reverse)
  | [], a, R, hR, _ => by simp [rowRun, rins_end hR]
  | f :: c, a, R, hR, hs => by
    have hs' := List.pairwise_cons.mp hs
    have hf := up_t'.mp (hs'.1 f (by simp))
    have ih := blk (c := c) (a := f) (R := R) (fun y hy => by have := hR y hy; omega) hs'.2
    have e : (f :: c).reverse ++ [a] = (c.reverse ++ [f]) ++ [a] := by simp
    rw [e, rowRun_app, ih]
    simp only [rowRun, rins_last hR hf]
    simp
theorem row_cols : ∀ {r : List Int} {C : List (List Int)} {R : List Int}, Srt3 false (R ++ r) → C.length ≤ r.length → (∀ c ∈ zipC r C, Srt3 true c) → rowRun R (wc (zipC r C)) = (R ++ r, wc C)
  | [], C, R, _, hl, _ => by
    have : C = [] := by simpa using hl
    subst this; simp [zipC, wc, rowRun]
  | a :: r, [], R, hs, _, hc => by
    have hR : ∀ y ∈ R, y ≤ a := fun y hy => up_f'.mp ((List.pairwise_append.mp hs).2.2 y hy a (by simp))
    have ih := row_cols (r := r) (C := []) (R := R ++ [a]) (by simpa using hs) (by simp) fun c h => hc c (List.mem_cons_of_mem _ h)
    simp only [zipC]
    rw [wc_cons, rowRun_app]
    have := blk (c := []) hR (by simp [Srt3])
    simp only [List.reverse_nil, List.nil_append] at this
    rw [show [a].reverse = [a] from rfl, this, ih]
    simp [wc]
  | a :: r, c :: C, R, hs, hl, hc => by
    have hR : ∀ y ∈ R, y ≤ a := fun y hy => up_f'.mp ((List.pairwise_append.mp hs).2.2 y hy a (by simp))
    have ih := row_cols (r := r) (C := C) (R := R ++ [a]) (by simpa using hs) (by simpa using hl) fun c h => hc c (List.mem_cons_of_mem _ h)
    simp only [zipC]
    rw [wc_cons, rowRun_app]
    have := blk (c := c) hR (hc (a :: c) (by simp [zipC]))
    rw [List.reverse_cons, this, ih, wc_cons]
    simp
theorem wc_ne {r : List Int} {C : List (List Int)} (h : r ≠ []) : wc (zipC r C) ≠ [] := by
  cases r with
  | nil => exact absurd rfl h
  | cons a r => cases C <;> simp [zipC, wc]
/-- the columns' word gives the table -/
theorem tab_wc : ∀ {T : List (List Int)}, Val false T → tab false [] (wc (trp T)) = T
  | [], _ => rfl
  | r :: T, h => by
    have hh := val_head h
    have hv := val_trp h
    show tab false [] (wc (zipC r (trp T))) = _
    rw [tab_nil (wc_ne hh.1), tab_cons, row_cols (R := []) (by simpa using hh.2) (trp_len h) (fun c hc => (val_srt hv c hc).2)]
    simp [tab_wc (val_tail h)]

/-- the law -/
theorem readings_eqv {T : List (List Int)} {w : List Int} (hT : T = tab false [] w) : Eqv (rword T) w ∧ Eqv (wc (trp T)) w := by
  have h1 : Eqv (rword T) w := by rw [hT]; exact (word_rows w).symm
  refine ⟨h1, ?_⟩
  have hv : Val false T := by rw [hT]; exact val_tab trivial
  have h2 := word_rows (wc (trp T))
  rw [tab_wc hv] at h2
  exact h2.trans h1
theorem law3_rows {u v told : List Int} (h : Eqv told v) : tab false (tab false [] u) told = tab false [] (u ++ v) := by
  rw [tab_app]
  exact h _ (tab_srt (by simp))
theorem law3_cols {u v a : List Int} (h : Eqv a u) : tab true (trp (tab false [] v)) a.reverse = trp (tab false [] (u ++ v)) := by
  have hv0 : Val false (tab false [] v) := val_tab trivial
  have hC0 : Val true (trp (tab false [] v)) := val_trp hv0
  have hC := val_tab (w := a.reverse) hC0
  have h1 := wc_tab (w := a.reverse) (C := trp (tab false [] v)) (fun c hc => (val_srt hC0 c hc).2)
  rw [List.reverse_reverse] at h1
  have h2 := (h.app (readings_eqv (T := tab false [] v) rfl).2).symm.trans h1
  have hT : Val false (trp (tab true (trp (tab false [] v)) a.reverse)) := val_trp hC
  have e1 : trp (trp (tab true (trp (tab false [] v)) a.reverse)) = tab true (trp (tab false [] v)) a.reverse := trp_trp hC
  have e2 := tab_wc hT
  rw [e1] at e2
  rw [← e1]
  congr 1
  rw [← e2]
  exact (h2 [] (by simp)).symm
end Mine

-- part W3
namespace Mine

/-- the place in a line -/
def pos3 (d : Bool) (x : Int) (r : List Int) : Nat := r.findIdx (up d x)
theorem pos3_le (d : Bool) (x : Int) (r : List Int) : pos3 d x r ≤ r.length := List.findIdx_le_length
theorem rins_at (d : Bool) (x : Int) : ∀ r : List Int, (pos3 d x r = r.length → rins d x r = (r ++ [x], none)) ∧ ∀ e, r[pos3 d x r]? = some e → rins d x r = (r.set (pos3 d x r) x, some e)
  | [] => by simp [pos3, rins]
  | a :: r => by
    have ih := rins_at d x r
    unfold pos3 at ih ⊢
    rw [List.findIdx_cons]
    unfold rins
    by_cases h : up d x a = true
    · rw [if_pos h, h]
      refine ⟨fun e => by simp at e, fun e he => ?_⟩
      simp at he; subst he; simp
    · have h' : up d x a = false := by simpa using h
      rw [if_neg h, h']
      refine ⟨fun e => ?_, fun e he => ?_⟩
      · have := ih.1 (by simpa using e)
        rw [this]; rfl
      · have := ih.2 e (by simpa using he)
        rw [this]; rfl
theorem pos3_cut {d : Bool} {x : Int} : ∀ {r : List Int}, Srt3 d r → ∀ (j : Nat) e, r[j]? = some e → up d x e = decide (pos3 d x r ≤ j)
  | [], _, j, e, h => by simp at h
  | a :: r, hs, j, e, h => by
    have hs' := List.pairwise_cons.mp hs
    have ih := pos3_cut (x := x) hs'.2
    unfold pos3 at ih ⊢
    rw [List.findIdx_cons]
    by_cases hu : up d x a = true
    · rw [hu]
      have : up d x e = true := by
        cases j with
        | zero => simp at h; subst h; exact hu
        | succ j =>
          have := hs'.1 e (List.mem_of_getElem? (by simpa using h))
          cases d
          · rw [up_f'] at this; rw [up_f] at *; omega
          · rw [up_t'] at this; rw [up_t] at *; omega
      simp [this]
    · have hu' : up d x a = false := by simpa using hu
      rw [hu']
      cases j with
      | zero => simp at h; subst h; simp [hu']
      | succ j =>
        rw [ih j e (by simpa using h)]
        simp

/-- a table in the store -/
structure TabAt (m : Nat) (st : Store) (k : Nat) (ks : List Nat) (T : List (List Int)) : Prop where
  top : st[k]? = some (ks.map V.ref)
  len : ks.length = T.length
  row : ∀ (j : Nat) q r, ks[j]? = some q → T[j]? = some r → st[q]? = some (r.map V.int)
  nd : ks.Nodup
  nk : k ∉ ks
  lo : m ≤ k ∧ ∀ q ∈ ks, m ≤ q

/-- bounds -/
def Bd3 (k : Nat) (T : List (List Int)) : Prop := T.length ≤ k ∧ ∀ r ∈ T, r.length ≤ k
theorem rins_len {d : Bool} {x : Int} : ∀ (r : List Int), (rins d x r).1.length ≤ r.length + 1
  | [] => by simp [rins]
  | e :: r => by
    have := rins_len (d := d) (x := x) r
    unfold rins; split <;> simp; omega
theorem bd3_mono {k l : Nat} {T : List (List Int)} (h : Bd3 k T) (hkl : k ≤ l) : Bd3 l T := ⟨by have := h.1; omega, fun r hr => by have := h.2 r hr; omega⟩
theorem bd3_put {d : Bool} : ∀ {T : List (List Int)} {x : Int} {k : Nat}, Bd3 k T → (putT d T x).length ≤ T.length + 1 ∧ ∀ r ∈ putT d T x, r.length ≤ k + 1
  | [], x, k, h => by simp [putT]
  | r :: T, x, k, h => by
    have hr := h.2 r (by simp)
    have hl := rins_len (d := d) (x := x) r
    have ih := fun b => bd3_put (d := d) (T := T) (x := b) (k := k) ⟨by have := h.1; simp at this; omega, fun q hq => h.2 q (List.mem_cons_of_mem _ hq)⟩
    unfold putT
    cases ho : (rins d x r).2 with
    | none =>
      simp only
      refine ⟨by simp, fun q hq => ?_⟩
      rcases List.mem_cons.mp hq with rfl | hq
      · omega
      · have := h.2 q (List.mem_cons_of_mem _ hq); omega
    | some b =>
      simp only
      refine ⟨by have := (ih b).1; simp; omega, fun q hq => ?_⟩
      rcases List.mem_cons.mp hq with rfl | hq
      · omega
      · exact (ih b).2 q hq
theorem bd3_put' {d : Bool} {T : List (List Int)} {x : Int} {k : Nat} (h : Bd3 k T) : Bd3 (k + 1) (putT d T x) := ⟨by have := (bd3_put (d := d) (x := x) h).1; have := h.1; omega, (bd3_put h).2⟩
theorem bd3_tab {d : Bool} : ∀ {w : List Int} {T : List (List Int)} {k : Nat}, Bd3 k T → Bd3 (k + w.length) (tab d T w)
  | [], T, k, h => h
  | x :: w, T, k, h => by
    have := bd3_tab (d := d) (w := w) (bd3_put' (d := d) (x := x) h)
    rw [List.length_cons, show k + (w.length + 1) = k + 1 + w.length by omega]; exact this

def inFor (cs : List Stmt) (i : Nat) : List Stmt := match cs[i]? with
  | some (Stmt.For _ _ b _ _) => b
  | _ => []
theorem ftrue {α : Type} (l : List α) : (l.filter fun _ => true) = l := List.filter_eq_self.mpr fun _ _ => rfl

/-- what a put leaves alone -/
def Fr3 (st st' : Store) (k : Nat) (ks : List Nat) : Prop := st.length ≤ st'.length ∧ ∀ i, i < st.length → i ≠ k → i ∉ ks → st'[i]? = st[i]?

theorem TabAt.setRow {m : Nat} {st : Store} {k : Nat} {ks : List Nat} {pre post : List (List Int)} {r r' : List Int} {q : Nat} (h : TabAt m st k ks (pre ++ r :: post)) (hq : ks[pre.length]? = some q) : TabAt m (st.set q (r'.map V.int)) k ks (pre ++ r' :: post) := by
  have hqm : q ∈ ks := List.mem_of_getElem? hq
  have hql : q < st.length := (List.getElem?_eq_some_iff.mp (h.row pre.length q r hq (by simp))).1
  refine ⟨?_, by have := h.len; simpa using this, fun j p s hj hs => ?_, h.nd, h.nk, h.lo⟩
  · have hne : q ≠ k := fun e => h.nk (e ▸ hqm)
    rw [List.getElem?_set_ne hne]; exact h.top
  · by_cases e : j = pre.length
    · subst e
      rw [hq] at hj; cases hj
      simp at hs; subst hs
      exact List.getElem?_set_self hql
    · have hpq : q ≠ p := fun e' => by
        subst e'
        exact e ((List.getElem?_inj (List.getElem?_eq_some_iff.mp hj).1 h.nd).mp (hj.trans hq.symm))
      rw [List.getElem?_set_ne hpq]
      refine h.row j p s hj ?_
      by_cases hlt : j < pre.length
      · rw [List.getElem?_append_left hlt] at hs ⊢; exact hs
      · rw [List.getElem?_append_right (by omega)] at hs ⊢
        obtain ⟨i, hi⟩ : ∃ i, j - pre.length = i + 1 := ⟨j - pre.length - 1, by omega⟩
        rw [hi] at hs ⊢
        simpa using hs

section
variable {B : Bs} {n m : Nat}

theorem put_ex (h : L3 B) {L : Addr} {st : Store} {k : Nat} {ks : List Nat} {T : List (List Int)} {x : Int} {d : Bool} (P : TabAt m st k ks T) (hsrt : ∀ r ∈ T, Srt3 d r) (hb : Bd3 1000 T) :
    EX B (n + 3) (callEnvC (fdOf (hd.heap_39 B.w.params) 39) L 39) m (fun y => ((["lines", "x", "down"] : List Str).zip [.ref k, .int x, .bool d]).lookup y) st (bodyOf (fdOf (hd.heap_39 B.w.params) 39)) (fun fl _ st' => retOf fl = .none ∧ ∃ ks', TabAt m st' k ks' (putT d T x) ∧ (∀ q ∈ ks', q ∈ ks ∨ st.length ≤ q) ∧ Fr3 st st' k ks) := by
  refine ex_cons ?_
  refine x_for (xs := ["line"]) (pi_list (a := .ref k) (l := ks.map V.ref) (pn rfl) P.top) trivial
    (fun i ρ st' => ρ "lines" = some (.ref k) ∧ ρ "down" = some (.bool d) ∧ ∃ pre y, ρ "x" = some (.int y) ∧ pre.length = i ∧ putT d T x = pre ++ putT d (T.drop i) y ∧ TabAt m st' k ks (pre ++ T.drop i) ∧ st'.length = st.length ∧ (∀ i, i ∉ ks → st'[i]? = st[i]?)) ?_ ?_ ?_
  · exact ⟨rfl, rfl, [], x, rfl, rfl, rfl, P, rfl, fun _ _ => rfl⟩
  · rintro i v ρ st' hi ⟨n1, n2, pre, y, n3, hpre, hput, P', hl', hfr⟩
    obtain ⟨q, hq, rfl⟩ : ∃ q, ks[i]? = some q ∧ V.ref q = v := by simpa using hi
    have hiT : i < T.length := by rw [← P.len]; exact (List.getElem?_eq_some_iff.mp hq).1
    have hdrop : T.drop i = T[i] :: T.drop (i + 1) := List.drop_eq_getElem_cons hiT
    have hrm : T[i] ∈ T := List.getElem_mem hiT
    have hr := hsrt _ hrm
    have hrl := hb.2 _ hrm
    generalize T[i] = r at *
    rw [hdrop] at hput P'
    subst hpre
    have hrow : st'[q]? = some (r.map V.int) := P'.row _ q r hq (by simp)
    have hqm : q ∈ ks := List.mem_of_getElem? hq
    refine ⟨P'.top, _, pa_name (by simp) (.inl (by kernel_rfl)), ?_⟩
    have n1 : (upd ρ "line" (.ref q)) "lines" = some (.ref k) := nm_ne n1
    have n2 : (upd ρ "line" (.ref q)) "down" = some (.bool d) := nm_ne n2
    have n3 : (upd ρ "line" (.ref q)) "x" = some (.int y) := nm_ne n3
    have n4 : (upd ρ "line" (.ref q)) "line" = some (.ref q) := nm_eq
    generalize upd ρ "line" (.ref q) = ρ at *
    have hcut := pos3_cut (x := y) hr
    have hple := pos3_le d y r
    obtain ⟨hend, hin⟩ := rins_at d y r
    generalize pos3 d y r = p at *
    refine ex_cons ?_
    refine xa (PE.pm (v := .int p) (pe_ifexp (c := d) (pt_val (pn n2) tr_bool) (fun hd' => ?_) (fun hd' => ?_)) ?_)
    · subst hd'
      refine pe_callFn (f_ok h 32 (by kernel_rfl)) (by kernel_rfl) (g_g h (by kernel_rfl)) (pes_cons (pn n4) (pes_cons (pn n3) pes_nil)) (left_pl (n := n + 1) h (a := .ref q) hrow (by simp; omega) (by simpa using hple) fun j v hv => ?_)
      obtain ⟨e, he, rfl⟩ : ∃ e, r[j]? = some e ∧ V.int e = v := by simpa using hv
      have := hcut j e he
      refine o_ltD ?_
      rw [Bool.eq_iff_iff] at this ⊢
      simp only [up_t, decide_eq_true_eq] at this ⊢
      omega
    · subst hd'
      refine pe_callFn (f_ok h 23 (by kernel_rfl)) (by kernel_rfl) (g_g h (by kernel_rfl)) (pes_cons (pn n4) (pes_cons (pn n3) pes_nil)) (right_pl (n := n + 1) h (a := .ref q) hrow (by simp; omega) (by simpa using hple) fun j v hv => ?_)
      obtain ⟨e, he, rfl⟩ : ∃ e, r[j]? = some e ∧ V.int e = v := by simpa using hv
      have := hcut j e he
      refine o_ltD ?_
      rw [Bool.eq_iff_iff] at this ⊢
      simp only [up_f, decide_eq_true_eq] at this ⊢
      omega
    refine ex_cons ?_
    refine x_if (c := (p : Int) == r.length) (pt_cmp (pn nm_eq) (pe_callB (g_len h) (by kernel_rfl) (pes_cons (pn (nm_ne n4)) pes_nil) (o_lenN (a := .ref q) hrow (k := r.length) (by simp) (by omega))) o_eq) (fun ht => ?_) (fun hf => ?_)
    · have hp : p = r.length := by have := eq_of_beq ht; omega
      have hri := hend hp
      refine ex_cons ?_
      refine x_expr ?_
      refine pm_meth (v₀ := .ref q) (pn (nm_ne n4)) hrow ?_ F.slot_list_append rfl
      refine PEs.pms (pes_cons (pn (nm_ne n3)) pes_nil) ?_
      refine om_append hrow (P'.lo.2 q hqm) (by simp [sizeLine]; omega) ?_
      refine ex_cons (x_return0 ⟨rfl, ks, ?_, fun q hq => .inl hq, ?_, fun i hi h1 h2 => ?_⟩)
      · rw [hput]
        unfold putT
        rw [hri]
        have := P'.setRow (r' := r ++ [y]) hq
        simpa using this
      · rw [List.length_set]; omega
      · have hne : q ≠ i := fun e => h2 (e ▸ hqm)
        rw [List.getElem?_set_ne hne]; exact hfr i h2
    · have hp : p < r.length := by
        have : ¬ (p : Int) = r.length := by simpa using hf
        omega
      have he : r[p]? = some r[p] := List.getElem?_eq_getElem hp
      have hri := hin _ he
      generalize r[p] = e at he hri
      refine ex_nil ?_
      refine ex_cons ?_
      refine x_swap (v1 := .int e) (v2 := .int y) (q := q) (l := r.map V.int) (j := p) (pes_cons (pe_sub (pn (nm_ne n4)) (pn nm_eq) (o_item (a := .ref q) hrow (by omega) (by simp [he]) (by simp; omega))) (pes_cons (pn (nm_ne n3)) pes_nil)) (by kernel_rfl) (pn (nm_ne (nm_ne n4))) hrow (pn (nm_ne nm_eq)) (by omega) (by simp; omega) (by simp; omega) (P'.lo.2 q hqm) ?_
      have es : (r.map V.int).set (p : Int).toNat (V.int y) = (r.set p y).map V.int := by simp
      rw [es]
      refine ex_nil ⟨nm_ne (nm_ne n1), nm_ne (nm_ne n2), pre ++ [r.set p y], e, nm_eq, by simp, ?_, ?_, by rw [List.length_set]; exact hl', fun i hi => ?_⟩
      · rw [hput]
        conv => lhs; unfold putT
        rw [hri]; simp
      · have := P'.setRow (r' := r.set p y) hq
        simpa using this
      · have hne : q ≠ i := fun e => hi (e ▸ hqm)
        rw [List.getElem?_set_ne hne]; exact hfr i hi
  · rintro ρ st' ⟨n1, n2, pre, y, n3, hpre, hput, P', hl', hfr⟩
    have hlen : (ks.map V.ref).length = T.length := by simp [P.len]
    rw [hlen] at hpre hput P'
    rw [List.drop_of_length_le (Nat.le_refl _)] at hput P'
    simp only [List.append_nil] at P'
    refine ⟨P'.top, ?_⟩
    refine ex_cons ?_
    refine x_expr ?_
    have hkl : k < st'.length := (List.getElem?_eq_some_iff.mp P'.top).1
    refine pm_meth (v₀ := .ref k) (l := ks.map V.ref) (pn n1) P'.top ?_ F.slot_list_append rfl
    refine pms_cons ?_
    refine pm_list (vs := [.int y]) (pes_cons (pn n3) pes_nil) (pms_nil ?_)
    have htop : (st' ++ [[V.int y]])[k]? = some (ks.map V.ref) := by rw [List.getElem?_append_left hkl]; exact P'.top
    refine om_append htop P'.lo.1 (by simp [sizeLine]; have := hb.1; have := P.len; omega) ?_
    have hrl : ∀ (j : Nat) q, ks[j]? = some q → q < st'.length := fun j q hj => by
      have hjl := (List.getElem?_eq_some_iff.mp hj).1
      exact (List.getElem?_eq_some_iff.mp (P'.row j q _ hj (List.getElem?_eq_getElem (by rw [← P'.len]; exact hjl)))).1
    refine ex_nil ⟨rfl, ks ++ [st'.length], ?_, fun q hq => ?_, ?_, fun i hi h1 h2 => ?_⟩
    · rw [hput]
      show TabAt m _ k (ks ++ [st'.length]) (pre ++ [[y]])
      refine ⟨?_, by simp [P'.len], fun j q r hj hr => ?_, ?_, ?_, P'.lo.1, fun q hq => ?_⟩
      · rw [List.getElem?_set_self (by simp; omega)]; simp
      · by_cases hjl : j < ks.length
        · rw [List.getElem?_append_left hjl] at hj
          rw [List.getElem?_append_left (by rw [← P'.len]; exact hjl)] at hr
          have hqk : k ≠ q := fun e => P'.nk (e ▸ List.mem_of_getElem? hj)
          rw [List.getElem?_set_ne hqk, List.getElem?_append_left (hrl j q hj)]
          exact P'.row j q r hj hr
        · have hjl2 := (List.getElem?_eq_some_iff.mp hj).1
          have hje : j = ks.length := by simp at hjl2; omega
          subst hje
          rw [P'.len] at hr
          simp at hj hr
          subst hj; subst hr
          rw [List.getElem?_set_ne (by omega)]
          simp
      · refine List.nodup_append.mpr ⟨P'.nd, by simp, fun a ha b hb' e => ?_⟩
        cases List.mem_singleton.mp hb'
        obtain ⟨j, hj⟩ := List.mem_iff_getElem?.mp ha
        have := hrl j a hj
        omega
      · intro hm
        rcases List.mem_append.mp hm with hm | hm
        · exact P'.nk hm
        · have := List.mem_singleton.mp hm; omega
      · rcases List.mem_append.mp hq with hq | hq
        · exact P'.lo.2 q hq
        · cases List.mem_singleton.mp hq
          have := P'.lo.1; omega
    · rcases List.mem_append.mp hq with hq | hq
      · exact .inl hq
      · cases List.mem_singleton.mp hq; exact .inr (by omega)
    · simp; omega
    · rw [List.getElem?_set_ne (fun e => h1 e.symm), List.getElem?_append_left (by omega)]; exact hfr i h2
end
end Mine

-- part X3
namespace Mine

def rowsV (T : List (List Int)) : V := .lst (T.map rowV)
theorem rows_rep {H H' : Hd} {h : Heap} {x : Value} {T : List (List Int)} (e1 : H'.hs.take H.hs.length = H.hs) (e2 : H'.xs = H.xs) (r : Rep H' h x (rowsV T)) : Rep H h x (rowsV T) := by
  have hsub : ∀ a, H.has a → H'.has a := fun a ha => by
    rcases ha with ha | ha
    · rw [← e1] at ha; exact .inl (List.mem_of_mem_take ha)
    · exact .inr (e2 ▸ ha)
  cases r with
  | @lst ad vs q l ha ho hr =>
    refine .lst (fun h' => ha (hsub _ h')) ho (RepAll.of_get ?_ fun i y v hy hv => ?_)
    · exact hr.length
    · obtain ⟨w, hw, rw'⟩ := hr.get' hy
      rw [hv] at hw; cases hw
      obtain ⟨s, hs, rfl⟩ : ∃ s, T[i]? = some s ∧ rowV s = v := by simpa using hv
      cases rw' with
      | lst ha' ho' hr' => exact .lst (fun h' => ha' (hsub _ h')) ho' (ints_any hr')

/-- the columns as the program makes them -/
def wid3 (T : List (List Int)) : Nat := (T.map List.length).foldl max 0
def cols3 (T : List (List Int)) : List (List Int) := (List.range (wid3 T)).map fun j => T.filterMap (·[j]?)
theorem foldl_maxN : ∀ (l : List Nat) (a : Nat), a ≤ l.foldl max a ∧ (∀ x ∈ l, x ≤ l.foldl max a) ∧ (l.foldl max a = a ∨ l.foldl max a ∈ l)
  | [], a => ⟨Nat.le_refl _, by simp, .inl rfl⟩
  | b :: l, a => by
    obtain ⟨h1, h2, h3⟩ := foldl_maxN l (max a b)
    simp only [List.foldl_cons]
    refine ⟨by omega, fun x hx => ?_, ?_⟩
    · rcases List.mem_cons.mp hx with rfl | hx
      · omega
      · exact h2 x hx
    · rcases h3 with h | h
      · rcases Nat.le_total a b with h' | h'
        · right; rw [h, Nat.max_eq_right h']; simp
        · left; rw [h, Nat.max_eq_left h']
      · exact .inr (List.mem_cons_of_mem _ h)
theorem zipC_get : ∀ (r : List Int) (C : List (List Int)) (j : Nat), (zipC r C)[j]? = r[j]?.map fun a => a :: (C[j]?.getD [])
  | [], C, j => by simp [zipC]
  | a :: r, [], j => by
    cases j with
    | zero => simp [zipC]
    | succ j => simp only [zipC, List.getElem?_cons_succ]; rw [zipC_get r [] j]; simp
  | a :: r, c :: C, j => by
    cases j with
    | zero => simp [zipC]
    | succ j => simp only [zipC, List.getElem?_cons_succ]; rw [zipC_get r C j]
theorem val_len {d : Bool} : ∀ {T : List (List Int)} {r : List Int}, Val d (r :: T) → ∀ s ∈ T, s.length ≤ r.length
  | [], r, _, s, hs => by simp at hs
  | m :: T, r, h, s, hs => by
    have h1 := adj_len h.2.2.1
    rcases List.mem_cons.mp hs with rfl | hs
    · exact h1
    · have := val_len h.2.2.2 s hs; omega
theorem wid3_cons {d : Bool} {T : List (List Int)} {r : List Int} (h : Val d (r :: T)) : wid3 (r :: T) = r.length := by
  have hl := val_len h
  unfold wid3
  obtain ⟨h1, h2, h3⟩ := foldl_maxN ((r :: T).map List.length) 0
  have h4 := h2 r.length (by simp)
  rcases h3 with h3 | h3
  · omega
  · obtain ⟨s, hs, e⟩ := List.mem_map.mp h3
    rcases List.mem_cons.mp hs with rfl | hs
    · exact e.symm
    · have := hl s hs; omega
theorem wid3_le {T : List (List Int)} : ∀ s ∈ T, s.length ≤ wid3 T := fun s hs => (foldl_maxN (T.map List.length) 0).2.1 _ (List.mem_map_of_mem hs)
theorem cols3_trp {d : Bool} : ∀ {T : List (List Int)}, Val d T → cols3 T = trp T
  | [], _ => rfl
  | r :: T, h => by
    have ih := cols3_trp (val_tail h)
    show cols3 (r :: T) = zipC r (trp T)
    rw [← ih]
    unfold cols3
    rw [wid3_cons h]
    apply List.ext_getElem?
    intro j
    rw [zipC_get]
    by_cases hj : j < r.length
    · have e1 : r[j]? = some r[j] := List.getElem?_eq_getElem hj
      rw [List.getElem?_map, List.getElem?_range hj, e1]
      simp only [Option.map_some, List.filterMap_cons, e1]
      congr 2
      by_cases hw : j < wid3 T
      · rw [List.getElem?_map, List.getElem?_range hw]; rfl
      · rw [List.getElem?_map, List.getElem?_eq_none (by simp; omega)]
        simp only [Option.map_none, Option.getD_none]
        rw [List.filterMap_eq_nil_iff]
        intro s hs
        have := wid3_le s hs
        exact List.getElem?_eq_none (by omega)
    · have e1 : r[j]? = none := List.getElem?_eq_none (by omega)
      rw [e1]
      exact List.getElem?_eq_none (by simp; omega)

theorem col_filter (j : Nat) : ∀ T : List (List Int), (T.filterMap (·[j]?)).map V.int = (T.filter fun r => decide (j < r.length)).map fun r => V.int (r.getD j 0)
  | [] => rfl
  | r :: T => by
    by_cases hj : j < r.length
    · simp only [List.filterMap_cons, List.getElem?_eq_getElem hj, List.filter_cons, decide_eq_true hj, if_true, List.map_cons, col_filter j T]
      simp [hj]
    · simp only [List.filterMap_cons, List.getElem?_eq_none (show r.length ≤ j by omega), List.filter_cons, decide_eq_false hj, col_filter j T]
      simp

section
variable {B : Bs} {n m : Nat} {st : Store}

theorem put_om (h : L3 B) {k : Nat} {ks : List Nat} {T : List (List Int)} {x : Int} {d : Bool} (P : TabAt m st k ks T) (hsrt : ∀ r ∈ T, Srt3 d r) (hb : Bd3 1000 T) {Ψ : V → Store → Prop}
    (hp : ∀ st' ks', TabAt m st' k ks' (putT d T x) → (∀ q ∈ ks', q ∈ ks ∨ st.length ≤ q) → Fr3 st st' k ks → Ψ .none st') : OM B (n + 4) m st (fun xs => call (.ref 39) xs) [.ref k, .int x, .bool d] Ψ := by
  refine fn_om (names := ["lines", "x", "down"]) (ws := [.ref k, .int x, .bool d]) (pos := fun xs => xs) (kw := fun _ => []) (f_ok h 39 (by kernel_rfl)) (by kernel_rfl) rfl (fun H hp xs S rr => ?_) fun L => (put_ex h P hsrt hb).mono fun f ρ' st' ⟨q, ks', a1, a2, a3⟩ => by rw [q]; exact hp st' ks' a1 a2 a3
  cases rr with
  | @cons y1 _ _ _ r1 rr =>
    cases rr with
    | @cons y2 _ _ _ r2 rr =>
      cases rr with
      | @cons y3 _ _ _ r3 rr =>
        cases rr
        refine ⟨[y1, y2, y3], fun S => ?_, .cons r1 (.cons r2 (.cons r3 .nil))⟩
        rw [h.hK]
        kernel_rfl

theorem table_pl (h : L3 B) {T : List (List Int)} {w : List Int} {d : Bool} (hsrt : ∀ r ∈ T, Srt3 d r) (hb : Bd3 300 T) (hw : w.length ≤ 300) : PL B (n + 6) st (fun xs => call (.ref 44) xs) [rowsV T, rowV w, .bool d] (rowsV (tab d T w)) := by
  refine OM.plRows (fn_om (n := n + 5) (names := ["lines", "numbers", "down"]) (ws := [rowsV T, rowV w, .bool d]) (pos := fun xs => xs) (kw := fun _ => []) (f_ok h 44 (by kernel_rfl)) (by kernel_rfl) rfl (fun H hp xs S rr => ?_) fun L => ?_)
  · cases rr with
    | @cons y1 _ _ _ r1 rr =>
      cases rr with
      | @cons y2 _ _ _ r2 rr =>
        cases rr with
        | @cons y3 _ _ _ r3 rr =>
          cases rr
          refine ⟨[y1, y2, y3], fun S => ?_, .cons r1 (.cons r2 (.cons r3 .nil))⟩
          rw [h.hK]
          kernel_rfl
  · refine ex_cons ?_
    refine xuF (xs := ["line"]) (pi_list (a := rowsV T) (l := T.map rowV) (pn rfl) rfl) trivial (by kernel_rfl) (fun y hy => by cases List.mem_singleton.mp hy; exact .inl (by kernel_rfl)) T (by simp) (by simp [sizeLine]; have := hb.1; omega) (fun i v r hv hr C => ?_) ?_
    · have : v = rowV r := by rw [List.getElem?_map, hr] at hv; simpa using hv.symm
      subst this
      refine ⟨_, pa_name (by simp) (.inl (by kernel_rfl)), pf_slice (a := rowV r) (pn nm_eq) rfl ?_, upd_weak (.inl (by kernel_rfl)) fun y u h => h⟩
      have := hb.2 r (List.mem_of_getElem? hr)
      simp [sizeLine]; omega
    have P0 : TabAt st.length (st ++ (T.map (·.map V.int) ++ [(List.range T.length).map fun j => V.ref (st.length + j)])) (st.length + T.length) ((List.range T.length).map fun j => st.length + j) T := by
      refine ⟨?_, by simp, fun j q r hj hr => ?_, ?_, ?_, by omega, fun q hq => ?_⟩
      · rw [List.getElem?_append_right (by omega)]; simp
      · have hjl : j < T.length := (List.getElem?_eq_some_iff.mp hr).1
        obtain rfl : st.length + j = q := by simpa [hjl] using hj
        rw [List.getElem?_append_right (by omega), List.getElem?_append_left (by simp; omega)]
        simp [hr]
      · refine List.pairwise_map.mpr (List.nodup_range.imp fun {a b} h e => h (by omega))
      · intro hm
        obtain ⟨j, hj, e⟩ := List.mem_map.mp hm
        have := List.mem_range.mp hj
        omega
      · obtain ⟨j, hj, e⟩ := List.mem_map.mp hq
        omega
    have F0 : ∀ i, i < st.length → (st ++ (T.map (·.map V.int) ++ [(List.range T.length).map fun j => V.ref (st.length + j)]))[i]? = st[i]? := fun i hi => List.getElem?_append_left hi
    have L0 : st.length ≤ (st ++ (T.map (·.map V.int) ++ [(List.range T.length).map fun j => V.ref (st.length + j)])).length := by simp
    generalize (st ++ (T.map (·.map V.int) ++ [(List.range T.length).map fun j => V.ref (st.length + j)])) = st1 at *
    generalize st.length + T.length = k at *
    generalize ((List.range T.length).map fun j => st.length + j) = ks at *
    refine ex_cons ?_
    refine x_for (xs := ["x"]) (pi_list (a := rowV w) (l := w.map V.int) (pn (nm_ne rfl)) rfl) trivial
      (fun i ρ st' => ρ "lines" = some (.ref k) ∧ ρ "down" = some (.bool d) ∧ ∃ ks, TabAt st.length st' k ks (tab d T (w.take i)) ∧ (∀ i, i < st.length → st'[i]? = st[i]?) ∧ st.length ≤ st'.length) ?_ ?_ ?_
    · exact ⟨nm_eq, nm_ne rfl, ks, P0, F0, L0⟩
    · rintro i v ρ st' hi ⟨n1, n2, ks, P, F, Ll⟩
      obtain ⟨x, hx, rfl⟩ : ∃ x, w[i]? = some x ∧ V.int x = v := by simpa using hi
      have hil : i < w.length := (List.getElem?_eq_some_iff.mp hx).1
      refine ⟨rfl, _, pa_name (by simp) (.inl (by kernel_rfl)), ?_⟩
      refine ex_cons ?_
      refine x_expr ?_
      refine pm_callFn (f_ok h 39 (by kernel_rfl)) (by kernel_rfl) (g_g h (by kernel_rfl)) (PEs.pms (pes_cons (pn (nm_ne n1)) (pes_cons (pn nm_eq) (pes_cons (pn (nm_ne n2)) pes_nil))) ?_)
      have hbt : Bd3 1000 (tab d T (w.take i)) := bd3_mono (bd3_tab (d := d) (w := w.take i) hb) (by simp; omega)
      refine put_om (n := n + 1) h P (tab_srt hsrt) hbt fun st'' ks' a1 a2 a3 => ?_
      refine ex_nil ⟨nm_ne n1, nm_ne n2, ks', ?_, fun j hj => ?_, by have := a3.1; omega⟩
      · have e : tab d T (w.take (i + 1)) = putT d (tab d T (w.take i)) x := by
          rw [List.take_add_one, hx]; simp [tab]
        rw [e]; exact a1
      · have hk := P.lo.1
        rw [a3.2 j (by omega) (by omega) (fun hm => by have := P.lo.2 j hm; omega), F j hj]
    · rintro ρ st' ⟨n1, n2, ks, P, F, Ll⟩
      have e : w.take (w.map V.int).length = w := List.take_of_length_le (by simp)
      rw [e] at P
      refine ⟨rfl, ex_cons (x_return (PE.pm (pn n1) ⟨k, ks, rfl, P.lo.1, P.top, P.len, fun j q r hq hr => ⟨P.lo.2 q (List.mem_of_getElem? hq), P.row j q r hq hr⟩, st'.drop st.length, ?_⟩))⟩
      apply List.ext_getElem?
      intro i
      by_cases hi : i < st.length
      · rw [List.getElem?_append_left hi, F i hi]
      · rw [List.getElem?_append_right (by omega), List.getElem?_drop]
        congr 1; omega

theorem columns_pl (h : L3 B) {T : List (List Int)} (hb : Bd3 300 T) : PL B (n + 2) st (fun xs => call (.ref 49) xs) [rowsV T] (rowsV (cols3 T)) := by
  have hw : wid3 T ≤ 300 := by
    rcases (foldl_maxN (T.map List.length) 0).2.2 with e | e
    · unfold wid3; omega
    · obtain ⟨s, hs, e'⟩ := List.mem_map.mp e
      unfold wid3; rw [← e']; exact hb.2 s hs
  refine OM.pl (fn_om (n := n + 1) (names := ["rows"]) (ws := [rowsV T]) (pos := fun xs => xs) (kw := fun _ => []) (f_ok h 49 (by kernel_rfl)) (by kernel_rfl) rfl (fun H hp xs S rr => ?_) fun L => ?_) (fun H H' h x e1 e2 r => rows_rep e1 e2 r)
  · cases rr with
    | @cons y1 _ _ _ r1 rr =>
      cases rr
      refine ⟨[y1], fun S => ?_, .cons r1 .nil⟩
      rw [h.hK]
      kernel_rfl
  · refine ex_cons ?_
    refine xa (PE.pm (v := .int (wid3 T)) (pe_callB (g_b h (by kernel_rfl) (v := .builtin "max") (by decide +kernel) (by decide +kernel)) (by kernel_rfl) (pes_cons (pe_bin (pe_list (pes_cons pe_int pes_nil)) (PC.pe (out := T.map fun r => V.int (r.length : Nat)) (pc_name T rowV (fun _ => true) (fun r => .int (r.length : Nat)) (by rw [ftrue]) (pi_list (a := rowsV T) (l := T.map rowV) (pc rfl) rfl) rfl trivial (fun a _ C => pts_nil) (fun r hr _ C => ?_) (by simp [sizeLine]; have := hb.1; omega))) (o_addL rfl rfl (by simp [sizeLine]; have := hb.1; omega))) pes_nil) (o_maxL (ns := 0 :: T.map fun r => ((r.length : Nat) : Int)) (M := (wid3 T : Nat)) (by simp [lis]) ?_ ?_)) ?_)
    · have := hb.2 r hr
      exact pe_callB (g_len h) (by kernel_rfl) (pes_cons (pn nm_eq) pes_nil) (o_lenN (a := rowV r) rfl (by simp) (by omega))
    · rcases (foldl_maxN (T.map List.length) 0).2.2 with e | e
      · have e' : wid3 T = 0 := e
        rw [e']; simp
      · obtain ⟨s, hs, e'⟩ := List.mem_map.mp e
        have e'' : wid3 T = s.length := e'.symm
        rw [e'']
        exact List.mem_cons_of_mem _ (List.mem_map.mpr ⟨s, hs, rfl⟩)
    · intro x hx
      rcases List.mem_cons.mp hx with rfl | hx
      · omega
      · obtain ⟨s, hs, rfl⟩ := List.mem_map.mp hx
        have := wid3_le s hs
        omega
    refine ex_cons (x_return (PE.pm (PC.pe (out := (cols3 T).map rowV) (pc_nameC (List.range (wid3 T)) (fun j => .int (j : Nat)) (fun _ => true) (fun j => rowV (T.filterMap (·[j]?))) (by rw [ftrue]; simp [cols3]) (pi_rangeN (k := wid3 T) (pn nm_eq) rfl (by omega) (g_b h (by kernel_rfl) (by decide +kernel) (by decide +kernel))) rfl trivial (fun a _ C => pts_nil) (fun j _ _ C => ?_) (by simp [sizeLine]; omega))) ⟨rfl, [], by simp⟩))
    refine PC.pe (out := (T.filterMap (·[j]?)).map V.int) (pc_name T rowV (fun r => decide (j < r.length)) (fun r => .int (r.getD j 0)) ?_ (pi_list (a := rowsV T) (l := T.map rowV) (pc (nm_ne (rs (nm_ne rfl)))) rfl) rfl trivial (fun r hr C' => ?_) (fun r hr hlt C' => ?_) (by simp [sizeLine]; have := hb.1; omega))
    · exact col_filter j T
    · have := hb.2 r hr
      refine pts_one ?_
      have hc : decide (j < r.length) = decide (((j : Nat) : Int) < ((r.length : Nat) : Int)) := by simp
      rw [hc]
      exact pt_cmp (pc (nm_ne (rs nm_eq))) (pe_callB (g_len h) (by kernel_rfl) (pes_cons (pn nm_eq) pes_nil) (o_lenN (a := rowV r) rfl (by simp) (by omega))) o_lt
    · have hlt : j < r.length := by simpa using hlt
      have := hb.2 r hr
      exact pe_sub (pn nm_eq) (pc (nm_ne (rs nm_eq))) (o_item (a := rowV r) rfl (by omega) (by simp [List.getD_eq_getElem?_getD, hlt]) (by simp; omega))
end
end Mine

-- part Y3
namespace Mine

theorem row_py (r : List Int) (st : Store) (f : Nat) : py st (f + 1) (rowV r) = some (.list (r.map PyData.int)) := by
  have : pys st f (r.map V.int) = some (r.map PyData.int) := by
    induction r with
    | nil => simp [pys]
    | cons a r ih => simp [pys, py, ih]
  simp only [rowV, py, this]; rfl
theorem rows_pys (T : List (List Int)) (st : Store) (f : Nat) : pys st (f + 1) (T.map rowV) = some (T.map fun r => .list (r.map PyData.int)) := by
  induction T with
  | nil => simp [pys]
  | cons r T ih => simp only [List.map_cons, pys, row_py, ih]
theorem rows_py (T : List (List Int)) (st : Store) (f : Nat) : py st (f + 2) (rowsV T) = some (.list (T.map fun r => .list (r.map PyData.int))) := by
  simp only [rowsV, py, rows_pys]; rfl
theorem tabs_pys (Ts : List (List (List Int))) (st : Store) (f : Nat) : pys st (f + 2) (Ts.map rowsV) = some (Ts.map fun T => .list (T.map fun r => .list (r.map PyData.int))) := by
  induction Ts with
  | nil => simp [pys]
  | cons T Ts ih => simp only [List.map_cons, pys, rows_py, ih]
theorem layAll {n : Nat} : ∀ (ds : List PyData), (∀ d ∈ ds, d.canLay0 = true ∧ d.depth ≤ n) → PyData.canLayAll0 ds = true ∧ PyData.depthAll ds ≤ n
  | [], _ => by simp [PyData.canLayAll0, PyData.depthAll]
  | d :: ds, h => by
    have h1 := h d (by simp)
    have h2 := layAll ds fun d hd => h d (by simp [hd])
    simp only [PyData.canLayAll0, PyData.depthAll, h1.1, h2.1, true_and, Bool.and_self]
    omega
theorem lay_row (r : List Int) : (PyData.list (r.map PyData.int)).canLay0 = true ∧ (PyData.list (r.map PyData.int)).depth ≤ 3 := by
  have := layAll (n := 2) (r.map PyData.int) (fun d hd => by
    obtain ⟨e, _, rfl⟩ := List.mem_map.mp hd
    simp [PyData.canLay0, PyData.depth])
  simp only [PyData.canLay0, PyData.depth, this.1, true_and]
  omega
theorem lay_rows (T : List (List Int)) : (PyData.list (T.map fun r => .list (r.map PyData.int))).canLay0 = true ∧ (PyData.list (T.map fun r => .list (r.map PyData.int))).depth ≤ 4 := by
  have := layAll (n := 3) (T.map fun r => .list (r.map PyData.int)) (fun d hd => by
    obtain ⟨e, _, rfl⟩ := List.mem_map.mp hd
    exact lay_row e)
  simp only [PyData.canLay0, PyData.depth, this.1, true_and]
  omega
theorem lay_tabs (Ts : List (List (List Int))) : (PyData.list (Ts.map fun T => .list (T.map fun r => .list (r.map PyData.int)))).canLay0 = true ∧ (PyData.list (Ts.map fun T => .list (T.map fun r => .list (r.map PyData.int)))).depth ≤ 5 := by
  have := layAll (n := 4) (Ts.map fun T => .list (T.map fun r => .list (r.map PyData.int))) (fun d hd => by
    obtain ⟨e, _, rfl⟩ := List.mem_map.mp hd
    exact lay_rows e)
  simp only [PyData.canLay0, PyData.depth, this.1, true_and]
  omega
theorem row_shaped (r : List Int) : SeqAt.shaped (.list (r.map PyData.int)) = true := by
  have := lay_row r
  simp only [SeqAt.shaped, this.1, Bool.true_and, decide_eq_true_eq]; omega
theorem tabs_shaped (Ts : List (List (List Int))) : SeqAt.shaped (.list (Ts.map fun T => .list (T.map fun r => .list (r.map PyData.int)))) = true := by
  have := lay_tabs Ts
  simp only [SeqAt.shaped, this.1, Bool.true_and, decide_eq_true_eq]; omega

theorem adj_get {d : Bool} : ∀ {l m : List Int} {j : Nat} {a b : Int}, Adj d l m → l[j]? = some a → m[j]? = some b → up d a b = true
  | _, [], j, a, b, _, _, h => by simp at h
  | [], _ :: _, j, a, b, h, _, _ => h.elim
  | e :: l, f :: m, j, a, b, h, h1, h2 => by
    cases j with
    | zero => simp at h1 h2; subst h1; subst h2; exact h.1
    | succ j => exact adj_get h.2 (by simpa using h1) (by simpa using h2)
theorem val_adj {d : Bool} : ∀ {T : List (List Int)} {i : Nat} {r s : List Int}, Val d T → T[i]? = some r → T[i + 1]? = some s → Adj d r s
  | [], i, r, s, _, h, _ => by simp at h
  | [l], i, r, s, _, _, h => by simp at h
  | l :: m :: T, i, r, s, hv, h1, h2 => by
    cases i with
    | zero => simp at h1 h2; subst h1; subst h2; exact hv.2.2.1
    | succ i => exact val_adj (val_tail hv) (by simpa using h1) (by simpa using h2)

theorem map_get {α β : Type} {f : α → β} {l : List α} {i : Nat} {v : β} (h : (l.map f)[i]? = some v) : ∃ a, l[i]? = some a ∧ f a = v := by
  rw [List.getElem?_map] at h
  cases e : l[i]? with
  | none => rw [e] at h; cases h
  | some a => rw [e] at h; cases h; exact ⟨a, rfl, rfl⟩
theorem upd_new {ρ : Nm} {x : Str} {v : V} (h : ρ x = none) : ∀ y u, ρ y = some u → upd ρ x v y = some u := fun y u hy => by
  unfold upd
  rw [if_neg (fun e => by rw [e, h] at hy; cases hy)]; exact hy
theorem none_ne {ρ : Nm} {x y : Str} {v : V} (h : ρ y = none) (hne : y ≠ x := by decide +kernel) : upd ρ x v y = none := by unfold upd; rw [if_neg hne]; exact h
theorem none_rs {scope : Scope} {ρ : Nm} {x : Str} (hk : scope.names.lookup x = some .local := by kernel_rfl) : restr scope ρ x = none := by unfold restr; rw [hk]; rfl

section
variable {B : Bs} {n m : Nat} {st : Store}

theorem o_geF {a b : Int} (h : a < b) : P2 B n st (compareOp .GtE) (.int a) (.int b) (.bool false) := by
  have := o_ge (B := B) (n := n) (st := st) (a := a) (b := b)
  rwa [decide_eq_false (by omega)] at this

theorem in_order_pl (h : L3 B) {T : List (List Int)} (hv : Val false T) (hb : Bd3 300 T) (h64 : ∀ r ∈ T, r.length < 64) : PL B (n + 2) st (fun xs => call (.ref 54) xs) [rowsV T] (.bool true) := by
  refine OM.plFlat rfl (fn_om (n := n + 1) (names := ["rows"]) (ws := [rowsV T]) (pos := fun xs => xs) (kw := fun _ => []) (f_ok h 54 (by kernel_rfl)) (by kernel_rfl) rfl (fun H hp xs S rr => ?_) fun L => ?_)
  · cases rr with
    | @cons y1 _ _ _ r1 rr =>
      cases rr
      refine ⟨[y1], fun S => ?_, .cons r1 .nil⟩
      rw [h.hK]
      kernel_rfl
  · refine ex_cons ?_
    refine x_if (c := false) (pt_cmp (PC.pe (out := []) (pc_name T rowV (fun _ => false) (fun r => rowV r) (by simp) (pi_list (a := rowsV T) (l := T.map rowV) (pn rfl) rfl) rfl trivial (fun r hr C => ?_) (fun r _ hf C => by cases hf) (by simp [sizeLine]; have := hb.1; omega))) (pe_list pes_nil) (o_neSame 1 1 (d := .list []) (by simp [py, pys]) (by simp [py, pys]) (by rfl))) (fun h => by cases h) fun _ => ?_
    · have hs := (val_srt hv r hr).2
      refine pts_one (pt_cmp (pn nm_eq) (pe_callB (g_b h (by kernel_rfl) (v := .builtin "sorted") (by decide +kernel) (by decide +kernel)) (by kernel_rfl) (pes_cons (pn nm_eq) pes_nil) (o_sortedInts (a := rowV r) (ns := r) (out := r) rfl (h64 r hr) fun ns' h1 h2 => ?_)) (o_neSame 1 1 (row_py r st 0) (row_py r st 0) (row_shaped r)))
      exact List.Perm.eq_of_pairwise (le := (· ≤ ·)) (fun a b _ _ h1 h2 => Int.le_antisymm h1 h2) h2 (hs.imp fun {a b} h => up_f'.mp h) h1
    refine ex_nil ?_
    have hz : zipV (T.map rowV) (slc (T.map rowV) (some 1) none none) = List.zipWith (fun r s => V.tup [rowV r, rowV s]) T (T.drop 1) := by
      rw [slc_from (x := 1) _ 1 rfl, zipV, ← List.map_drop, List.zipWith_map]
    have hpc : ∀ {e : Expr}, PC B (n + 1) (callEnvC (fdOf (hd.heap_39 B.w.params) 54) L 54) (fun y => ((["rows"] : List Str).zip [rowsV T]).lookup y) st e ((((List.zipWith (fun r s => List.replicate (min r.length s.length) ([] : List V)) T (T.drop 1))).map List.flatten).flatten) → PE B (n + 1) (callEnvC (fdOf (hd.heap_39 B.w.params) 54) L 54) (fun y => ((["rows"] : List Str).zip [rowsV T]).lookup y) st e (.lst []) := fun {e} hp => by
      have hp := hp.pe
      have e0 : (((List.zipWith (fun r s => List.replicate (min r.length s.length) ([] : List V)) T (T.drop 1))).map List.flatten).flatten = [] := by
        rw [List.flatten_eq_nil_iff]
        intro l hl
        obtain ⟨os, hos, rfl⟩ := List.mem_map.mp hl
        obtain ⟨i, hi⟩ := List.mem_iff_getElem?.mp hos
        rw [List.getElem?_zipWith] at hi
        cases h1 : T[i]? with
        | none => rw [h1] at hi; simp at hi
        | some r =>
          cases h2 : (T.drop 1)[i]? with
          | none => rw [h1, h2] at hi; simp at hi
          | some s => rw [h1, h2] at hi; simp at hi; subst hi; simp
      rwa [e0] at hp
    refine ex_cons (x_return (PE.pm (v := .bool true) (pe_cmp (hpc (pc_comp2 (xs := ["up", "low", "a", "b"]) (pi_zip (l := T.map rowV) (pn (v := rowsV T) rfl) (pe_slice (a := rowsV T) (l := T.map rowV) (pn rfl) rfl (pp_some pe_int) pp_none pp_none (by simp) (by simp [sizeLine]; have := hb.1; omega)) rfl rfl (g_b h (by kernel_rfl) (by decide +kernel) (by decide +kernel)) (by kernel_rfl)) ⟨_, _, _, rfl⟩ (by kernel_rfl) (fun x hx => ?_) _ ?_ (fun i v os hvv hos C => ?_) ?_)) (pe_list pes_nil) (o_eqSame 1 1 (d := .list []) (by simp [py, pys]) (by simp [py, pys]) (by rfl))) ⟨rfl, [], by simp⟩))
    · simp only [List.mem_cons, List.not_mem_nil, or_false] at hx
      rcases hx with rfl | rfl | rfl | rfl <;> exact .inl (by kernel_rfl)
    · rw [hz]; simp [List.length_zipWith]
    · rw [hz, List.getElem?_zipWith] at hvv
      rw [List.getElem?_zipWith] at hos
      cases h1 : T[i]? with
      | none => rw [h1] at hvv; simp at hvv
      | some r =>
        cases h2 : (T.drop 1)[i]? with
        | none => rw [h1, h2] at hvv; simp at hvv
        | some s =>
          rw [h1, h2] at hvv hos
          simp at hvv hos
          subst hvv; subst hos
          have hadj : Adj false r s := val_adj hv h1 (by rw [List.getElem?_drop, Nat.add_comm] at h2; exact h2)
          refine ⟨_, zipV (r.map V.int) (s.map V.int), _, _, _, pa_tuple (pas_cons (pa_name (by simp) (.inl (by kernel_rfl))) (pas_cons (pa_name (by simp) (.inl (by kernel_rfl))) pas_nil)), upd_weak (.inl (by kernel_rfl)) (upd_weak (.inl (by kernel_rfl)) fun y u h => h), pi_zip (l := r.map V.int) (m := s.map V.int) (pn (v := rowV r) (nm_ne nm_eq)) (pn (v := rowV s) nm_eq) rfl rfl (g_b h (by kernel_rfl) (by decide +kernel) (by decide +kernel)) (by kernel_rfl), ⟨_, _, _, rfl⟩, by simp [zipV], fun j v out hj ho => ?_⟩
          obtain ⟨va, vb, ha, hb', rfl⟩ := zipV_get hj
          obtain ⟨a, ha', rfl⟩ : ∃ a, r[j]? = some a ∧ V.int a = va := by simpa using ha
          obtain ⟨b, hb'', rfl⟩ : ∃ b, s[j]? = some b ∧ V.int b = vb := by simpa using hb'
          have hab := up_f.mp (adj_get hadj ha' hb'')
          have ho' : out = [] := by
            have := List.mem_of_getElem? ho
            exact (List.mem_replicate.mp this).2
          refine ⟨_, false, V.none, pa_tuple (pas_cons (pa_name (by simp) (.inl (by kernel_rfl))) (pas_cons (pa_name (by simp) (.inl (by kernel_rfl))) pas_nil)), pts_one (pt_cmp (pn (nm_ne nm_eq)) (pn nm_eq) (o_geF hab)), (fun h => by cases h), ho', fun y u hy => upd_new (none_ne (none_ne (none_ne none_rs))) _ _ (upd_new (none_ne (none_ne none_rs)) _ _ hy)⟩
    · have e0 : (((List.zipWith (fun r s => List.replicate (min r.length s.length) ([] : List V)) T (T.drop 1))).map List.flatten).flatten = [] := by
        rw [List.flatten_eq_nil_iff]
        intro l hl
        obtain ⟨os, hos, rfl⟩ := List.mem_map.mp hl
        obtain ⟨i, hi⟩ := List.mem_iff_getElem?.mp hos
        rw [List.getElem?_zipWith] at hi
        cases h1 : T[i]? with
        | none => rw [h1] at hi; simp at hi
        | some r =>
          cases h2 : (T.drop 1)[i]? with
          | none => rw [h1, h2] at hi; simp at hi
          | some s => rw [h1, h2] at hi; simp at hi; subst hi; simp
      rw [e0]; simp [sizeLine]

theorem readings_pl (h : L3 B) {T : List (List Int)} (hb : Bd3 300 T) (hb2 : Bd3 300 (cols3 T)) : PL B (n + 3) st (fun xs => call (.ref 59) xs) [rowsV T] (rowsV [rword T, wc (cols3 T)]) := by
  refine OM.pl (fn_om (n := n + 2) (names := ["rows"]) (ws := [rowsV T]) (pos := fun xs => xs) (kw := fun _ => []) (f_ok h 59 (by kernel_rfl)) (by kernel_rfl) rfl (fun H hp xs S rr => ?_) fun L => ?_) (fun H H' h x e1 e2 r => rows_rep e1 e2 r)
  · cases rr with
    | @cons y1 _ _ _ r1 rr =>
      cases rr
      refine ⟨[y1], fun S => ?_, .cons r1 .nil⟩
      rw [h.hK]
      kernel_rfl
  · have sz : ∀ (U : List (List Int)), Bd3 300 U → U.flatten.length ≤ 90000 := fun U hU => by
      have : ∀ (V : List (List Int)), (∀ r ∈ V, r.length ≤ 300) → V.flatten.length ≤ V.length * 300 := fun V => by
        induction V with
        | nil => simp
        | cons r V ih =>
          intro hV
          have h1 := hV r (by simp)
          have h2 := ih fun q hq => hV q (List.mem_cons_of_mem _ hq)
          simp only [List.flatten_cons, List.length_append, List.length_cons]
          omega
      have h1 := this U hU.2
      have h2 := hU.1
      have : U.length * 300 ≤ 300 * 300 := Nat.mul_le_mul_right _ h2
      omega
    have outE : ∀ U : List (List Int), ((U.map fun r => r.map fun x => [V.int x]).map List.flatten).flatten = U.flatten.map V.int := fun U => by
      induction U with
      | nil => rfl
      | cons r U ih =>
        simp only [List.map_cons, List.flatten_cons, List.map_append, ih]
        congr 1
        induction r with
        | nil => rfl
        | cons a r ih2 => simp [ih2]
    refine ex_cons ?_
    have e1 : slc (T.map rowV) none none (some (-1)) = T.reverse.map rowV := by rw [slc_rev, List.map_reverse]
    refine xu (out := (rword T).map V.int) (y := "lines") (outE T.reverse ▸ pc_comp2 (xs := ["row", "x"]) (pi_list (a := .lst (T.reverse.map rowV)) (l := T.reverse.map rowV) (e1 ▸ pe_slice (a := rowsV T) (l := T.map rowV) (pn rfl) rfl pp_none pp_none (pp_some (pe_un pe_int o_neg)) (by simp) (by simp [sizeLine]; have := hb.1; omega)) rfl) trivial (by kernel_rfl) (fun x hx => ?_) (T.reverse.map fun r => r.map fun x => [V.int x]) (by simp) (fun i v os hvv hos C => ?_) ?_) ?_
    · simp only [List.mem_cons, List.not_mem_nil, or_false] at hx
      rcases hx with rfl | rfl <;> exact .inl (by kernel_rfl)
    · obtain ⟨r, hr, rfl⟩ : ∃ r, T.reverse[i]? = some r ∧ rowV r = v := map_get hvv
      rw [List.getElem?_map, hr] at hos
      cases hos
      refine ⟨_, r.map V.int, _, _, _, pa_name (by simp) (.inl (by kernel_rfl)), upd_weak (.inl (by kernel_rfl)) fun y u h => h, pi_list (a := rowV r) (l := r.map V.int) (pn nm_eq) rfl, trivial, by simp, fun j v out hj ho => ?_⟩
      obtain ⟨x, hx, rfl⟩ : ∃ x, r[j]? = some x ∧ V.int x = v := by simpa using hj
      rw [List.getElem?_map, hx] at ho
      cases ho
      exact ⟨_, true, V.int x, pa_name (by simp) (.inl (by kernel_rfl)), pts_nil, (fun _ => pn nm_eq), rfl, fun y u hy => upd_new (none_ne none_rs) _ _ hy⟩
    · rw [outE, List.length_map]
      have := sz T.reverse ⟨by simpa using hb.1, fun r hr => hb.2 r (by simpa using hr)⟩
      simp only [sizeLine]; omega
    refine ex_cons ?_
    refine xu (out := (wc (cols3 T)).map V.int) (y := "columns") ((show ((((cols3 T).map List.reverse).map fun r => r.map fun x => [V.int x]).map List.flatten).flatten = (wc (cols3 T)).map V.int from outE _) ▸ pc_comp2 (xs := ["column", "x"]) (pi_list (a := rowsV (cols3 T)) (l := (cols3 T).map rowV) (pe_callFn (f_ok h 49 (by kernel_rfl)) (by kernel_rfl) (g_g h (by kernel_rfl)) (pes_cons (pn (nm_ne rfl)) pes_nil) (columns_pl (n := n) h hb)) rfl) trivial (by kernel_rfl) (fun x hx => ?_) (((cols3 T).map List.reverse).map fun r => r.map fun x => [V.int x]) (by simp) (fun i v os hvv hos C => ?_) ?_) ?_
    · simp only [List.mem_cons, List.not_mem_nil, or_false] at hx
      rcases hx with rfl | rfl <;> exact .inl (by kernel_rfl)
    · obtain ⟨c, hc, rfl⟩ : ∃ c, (cols3 T)[i]? = some c ∧ rowV c = v := by simpa [List.getElem?_map] using hvv
      rw [List.getElem?_map, List.getElem?_map, hc] at hos
      cases hos
      have hcl := hb2.2 c (List.mem_of_getElem? hc)
      have e2 : slc (c.map V.int) none none (some (-1)) = c.reverse.map V.int := by rw [slc_rev, List.map_reverse]
      refine ⟨_, c.reverse.map V.int, _, _, _, pa_name (by simp) (.inl (by kernel_rfl)), upd_weak (.inl (by kernel_rfl)) fun y u h => h, pi_list (a := .lst (c.reverse.map V.int)) (l := c.reverse.map V.int) (e2 ▸ pe_slice (a := rowV c) (l := c.map V.int) (pn nm_eq) rfl pp_none pp_none (pp_some (pe_un pe_int o_neg)) (by simp) (by simp [sizeLine]; omega)) rfl, trivial, by simp, fun j v out hj ho => ?_⟩
      obtain ⟨x, hx, rfl⟩ : ∃ x, c.reverse[j]? = some x ∧ V.int x = v := map_get hj
      rw [List.getElem?_map, hx] at ho
      cases ho
      exact ⟨_, true, V.int x, pa_name (by simp) (.inl (by kernel_rfl)), pts_nil, (fun _ => pn nm_eq), rfl, fun y u hy => upd_new (none_ne none_rs) _ _ hy⟩
    · rw [outE, List.length_map]
      have := sz ((cols3 T).map List.reverse) ⟨by simpa using hb2.1, fun r hr => by obtain ⟨c, hc, rfl⟩ := List.mem_map.mp hr; simpa using hb2.2 c hc⟩
      simp only [sizeLine]; omega
    exact ex_cons (x_return (PE.pm (v := rowsV [rword T, wc (cols3 T)]) (pe_list (pes_cons (pn (nm_ne nm_eq)) (pes_cons (pn nm_eq) pes_nil))) ⟨rfl, [], by simp⟩))
end
end Mine

-- part Z3
namespace Mine

theorem rins_cells {d : Bool} {x : Int} : ∀ (r : List Int), (rins d x r).1.length = r.length + (if (rins d x r).2.isNone then 1 else 0)
  | [] => by simp [rins]
  | e :: r => by
    have ih := rins_cells (d := d) (x := x) r
    unfold rins
    split
    · simp
    · simp only [List.length_cons, ih]; omega
theorem put_cells {d : Bool} : ∀ (T : List (List Int)) (x : Int), (putT d T x).flatten.length = T.flatten.length + 1
  | [], x => by simp [putT]
  | r :: T, x => by
    have h := rins_cells (d := d) (x := x) r
    unfold putT
    cases ho : (rins d x r).2 with
    | none => rw [ho] at h; simp at h; simp [h]; omega
    | some b =>
      rw [ho] at h; simp at h
      have ih := put_cells (d := d) T b
      simp only [List.flatten_cons, List.length_append, h, ih]; omega
theorem tab_cells {d : Bool} : ∀ (w : List Int) (T : List (List Int)), (tab d T w).flatten.length = T.flatten.length + w.length
  | [], T => by simp [tab]
  | x :: w, T => by
    have := tab_cells (d := d) w (putT d T x)
    rw [put_cells] at this
    have e : tab d T (x :: w) = tab d (putT d T x) w := rfl
    rw [e, this]; simp; omega
theorem rword_len (T : List (List Int)) : (rword T).length = T.flatten.length := by
  induction T with
  | nil => rfl
  | cons r T ih => rw [rword_cons, List.length_append, ih, List.flatten_cons, List.length_append]; omega
theorem wc_len {T : List (List Int)} (hv : Val false T) : (wc (cols3 T)).length = T.flatten.length := by
  have h := tab_cells (d := false) (wc (trp T)) []
  rw [tab_wc hv] at h
  rw [cols3_trp hv, h]; simp
theorem bd3_cols {k : Nat} {T : List (List Int)} (h : Bd3 k T) : Bd3 k (cols3 T) := by
  refine ⟨?_, fun c hc => ?_⟩
  · have : wid3 T ≤ k := by
      rcases (foldl_maxN (T.map List.length) 0).2.2 with e | e
      · unfold wid3; omega
      · obtain ⟨s, hs, e'⟩ := List.mem_map.mp e
        unfold wid3; rw [← e']; exact h.2 s hs
    simp [cols3]; exact this
  · obtain ⟨j, _, rfl⟩ := List.mem_map.mp hc
    exact Nat.le_trans (List.length_filterMap_le ..) h.1
theorem rins_self {d : Bool} {x : Int} : ∀ (r : List Int), x ∈ (rins d x r).1
  | [] => by simp [rins]
  | e :: r => by
    unfold rins
    split
    · simp
    · exact List.mem_cons_of_mem _ (rins_self r)
theorem rins_some {d : Bool} {x e : Int} : ∀ {r : List Int}, e ∈ r → up d x e = true → (rins d x r).2 ≠ none
  | a :: r, hm, hu => by
    unfold rins
    split
    · simp
    · rename_i ha
      rcases List.mem_cons.mp hm with rfl | hm
      · exact absurd hu ha
      · exact rins_some hm hu
/-- the last number goes below another, so no row has all -/
theorem rows_63 {w : List Int} (hw : w.length ≤ 62) : ∀ r ∈ tab false [] (w ++ [1, 0]), r.length < 64 := by
  have hv : Val false (tab false [] (w ++ [1, 0])) := val_tab trivial
  have hb : Bd3 63 (tab false [] (w ++ [1])) := bd3_mono (bd3_tab (d := false) (w := w ++ [1]) (T := []) (k := 0) ⟨by simp, by simp⟩) (by simp; omega)
  have e : tab false [] (w ++ [1, 0]) = putT false (tab false [] (w ++ [1])) 0 := by
    have : w ++ [1, 0] = (w ++ [1]) ++ [0] := by simp
    rw [this, tab_app]; rfl
  have e2 : tab false [] (w ++ [1]) = putT false (tab false [] w) 1 := by rw [tab_app]; rfl
  have hone : ∃ r T, tab false [] (w ++ [1]) = r :: T ∧ (1 : Int) ∈ r := by
    rw [e2]
    cases tab false [] w with
    | nil => exact ⟨[1], [], rfl, by simp⟩
    | cons r T =>
      unfold putT
      cases (rins false 1 r).2 with
      | none => exact ⟨_, _, rfl, rins_self r⟩
      | some b => exact ⟨_, _, rfl, rins_self r⟩
  obtain ⟨r, T, e3, h1⟩ := hone
  rw [e, e3] at hv ⊢
  rw [e3] at hb
  have hs := rins_some (d := false) (x := 0) h1 (up_f.mpr (by decide))
  cases ho : (rins false 0 r).2 with
  | none => exact absurd ho hs
  | some b =>
    have hl := rins_cells (d := false) (x := 0) r
    rw [ho] at hl
    simp at hl
    have hr := hb.2 r (by simp)
    unfold putT at hv ⊢
    simp only [ho] at hv ⊢
    intro q hq
    rcases List.mem_cons.mp hq with rfl | hq
    · omega
    · have := val_len hv q hq; omega

def way3 (ns : List Int) : Int := match ns with
  | [] => 4
  | a :: _ => a
def num3 (way x : Int) : Int := if 0 < way.fmod 4 then x.fmod (way.fmod 4 + 1) else x
def nums3 (ns : List Int) : List Int := ((ns.drop 1) ++ [1, 0]).map (num3 (way3 ns))
theorem nums3_end (ns : List Int) : nums3 ns = (ns.drop 1).map (num3 (way3 ns)) ++ [1, 0] := by
  have h0 : ∀ way, num3 way 0 = 0 := fun way => by
    unfold num3
    split
    · simp
    · rfl
  have h1 : ∀ way, num3 way 1 = 1 := fun way => by
    unfold num3
    split
    · rename_i h
      rw [Int.fmod_eq_emod_of_nonneg _ (by omega)]
      exact Int.emod_eq_of_lt (by decide) (by omega)
    · rfl
  simp [nums3, h0, h1]

section
variable {B : Bs} {n m : Nat}

theorem law_ex3 (h : L3 B) {L : Addr} {ns : List Int} (hfit : ns.length ≤ 63) :
    EX B (n + 7) (callEnvC (fdOf (hd.heap_39 B.w.params) 64) L 64) 0 (fun y => ((["script"] : List Str).zip [.lst (ns.map V.int)]).lookup y) [] (bodyOf (fdOf (hd.heap_39 B.w.params) 64)) (fun fl _ st' => retOf fl = .bool true) := by
  refine ex_cons ?_
  refine xc (PE.pm (v := .int (way3 ns)) (pe_ifexp (c := !(ns.map V.int).isEmpty) (pt_val (pn (v := .lst (ns.map V.int)) (by kernel_rfl)) (tr_lis rfl (by simp; omega))) (fun ht => ?_) (fun hf => ?_)) ?_)
  · cases ns with
    | nil => simp at ht
    | cons a r => exact pe_sub (pn (v := .lst ((a :: r).map V.int)) (by kernel_rfl)) pe_int (o_item (c := .int a) (l := (a :: r).map V.int) rfl (by decide) rfl (by simp at hfit ⊢; omega))
  · cases ns with
    | nil => exact pe_int
    | cons a r => simp at hf
  have hk4 : 0 ≤ (way3 ns).fmod 4 := Int.fmod_nonneg_of_pos _ (by decide)
  refine ex_cons ?_
  refine xu (out := (nums3 ns).map V.int) (pc_name ((ns.drop 1) ++ [1, 0]) V.int (fun _ => true) (fun x => .int (num3 (way3 ns) x)) (by rw [ftrue]; unfold nums3; rw [List.map_map]; rfl) (pi_list (a := .lst (((ns.drop 1) ++ [1, 0]).map V.int)) (l := ((ns.drop 1) ++ [1, 0]).map V.int) ?_ rfl) rfl trivial (fun a _ C => pts_nil) (fun x _ _ C => ?_) (by simp [sizeLine]; omega)) ?_
  · have e : ((ns.drop 1) ++ [1, 0]).map V.int = slc (ns.map V.int) (some 1) none none ++ [.int 1, .int 0] := by
      rw [slc_from (x := 1) _ 1 rfl]; simp
    rw [e]
    refine pe_bin (pe_slice (pn (v := .lst (ns.map V.int)) (nm_ne (by kernel_rfl))) rfl (pp_some pe_int) pp_none pp_none (by simp) (by simp [sizeLine]; omega)) (pe_list (pes_cons pe_int (pes_cons pe_int pes_nil))) (o_addL rfl rfl ?_)
    rw [slc_from (x := 1) _ 1 rfl]
    simp [sizeLine]; omega
  · refine pe_ifexp (c := decide (0 < (way3 ns).fmod 4)) (pt_cmp (pe_bin (pc (nm_ne (rs nm_eq))) pe_int (o_mod (by decide))) pe_int o_gt) (fun ht => ?_) (fun hf => ?_)
    · unfold num3
      rw [if_pos (by simpa using ht)]
      exact pe_bin (pn nm_eq) (pe_bin (pe_bin (pc (nm_ne (rs nm_eq))) pe_int (o_mod (by decide))) pe_int o_add) (o_mod (by omega))
    · unfold num3
      rw [if_neg (by simpa using hf)]
      exact pn nm_eq
  have hN := nums3_end ns
  have h63 : ∀ r ∈ tab false [] (nums3 ns), r.length < 64 := by rw [hN]; exact rows_63 (by simp; omega)
  have hlen : (nums3 ns).length ≤ 64 := by rw [hN]; simp; omega
  generalize nums3 ns = ms at *
  generalize way3 ns = way at *
  clear hN
  refine ex_cons ?_
  obtain ⟨c, hc⟩ : ∃ c : Nat, (way.fdiv 4).fmod ((ms.length : Nat) + 1) = c := ⟨((way.fdiv 4).fmod ((ms.length : Nat) + 1)).toNat, by
    have := Int.fmod_nonneg_of_pos (way.fdiv 4) (show (0 : Int) < (ms.length : Nat) + 1 by omega)
    omega⟩
  refine xa (PE.pm (v := .int c) (hc ▸ pe_bin (pe_bin (pc (nm_ne nm_eq)) pe_int (o_fdiv (by decide))) (pe_bin (pe_callB (g_len h) (by kernel_rfl) (pes_cons (pn nm_eq) pes_nil) (o_lenN (a := .lst (ms.map V.int)) rfl (k := ms.length) (by simp) (by omega))) pe_int o_add) (o_mod (by omega))) ?_)
  have hu : ms.take c ++ ms.drop c = ms := List.take_append_drop c ms
  have hul : (ms.take c).length ≤ 64 := by simp; omega
  have hvl : (ms.drop c).length ≤ 64 := by simp; omega
  have eu : V.lst (slc (ms.map V.int) none (some (c : Nat)) none) = rowV (ms.take c) := by rw [slc_upto (x := ((c : Nat) : Int)) _ c rfl, ← List.map_take]; rfl
  have ev : V.lst (slc (ms.map V.int) (some (c : Nat)) none none) = rowV (ms.drop c) := by rw [slc_from (x := ((c : Nat) : Int)) _ c rfl, ← List.map_drop]; rfl
  generalize ms.take c = u at *
  generalize ms.drop c = v at *
  have b0 : Bd3 300 ([] : List (List Int)) := ⟨by simp, by simp⟩
  have bt : ∀ w : List Int, w.length ≤ 64 → Bd3 64 (tab false [] w) := fun w hw => bd3_mono (bd3_tab (d := false) (w := w) (T := []) (k := 0) ⟨by simp, by simp⟩) (by omega)
  refine ex_cons ?_
  refine x_assignT (xs := ["first", "second", "whole"]) (PE.pm (PC.pe (out := [rowsV (tab false [] u), rowsV (tab false [] v), rowsV (tab false [] ms)]) (pc_name [u, v, ms] rowV (fun _ => true) (fun w => rowsV (tab false [] w)) (by rw [ftrue]; rfl) (pi_tuple (l := [rowV u, rowV v, rowV ms]) (pe_tuple (pes_cons (eu ▸ pe_slice (a := .lst (ms.map V.int)) (l := ms.map V.int) (pn (nm_ne nm_eq)) rfl pp_none (pp_some (pn nm_eq)) pp_none (by simp) (by simp [sizeLine]; omega)) (pes_cons (ev ▸ pe_slice (a := .lst (ms.map V.int)) (l := ms.map V.int) (pn (nm_ne nm_eq)) rfl (pp_some (pn nm_eq)) pp_none pp_none (by simp) (by simp [sizeLine]; omega)) (pes_cons (pn (nm_ne nm_eq)) pes_nil))))) rfl trivial (fun a _ C => pts_nil) (fun w hw _ C => ?_) (by simp [sizeLine]))) ?_)
  · have hwl : w.length ≤ 64 := by
      simp only [List.mem_cons, List.not_mem_nil, or_false] at hw
      rcases hw with rfl | rfl | rfl <;> assumption
    exact pe_callFn (f_ok h 44 (by kernel_rfl)) (by kernel_rfl) (g_g h (by kernel_rfl)) (pes_cons (v := rowsV []) (pe_list pes_nil) (pes_cons (pn nm_eq) (pes_cons pe_bool pes_nil))) (table_pl (n := n + 1) h (by simp) b0 (by omega))
  refine ⟨_, pa_tupleL (pas_cons (pa_name (by simp) (.inr (by kernel_rfl))) (pas_cons (pa_name (by simp) (.inr (by kernel_rfl))) (pas_cons (pa_name (by simp) (.inl (by kernel_rfl))) pas_nil))), ?_⟩
  -- the law
  have hvF : Val false (tab false [] u) := val_tab trivial
  have hvS : Val false (tab false [] v) := val_tab trivial
  have hvW : Val false (tab false [] ms) := val_tab trivial
  have bF := bt u hul
  have bS := bt v hvl
  have bW := bt ms hlen
  have rF := readings_eqv (T := tab false [] u) rfl
  have rS := readings_eqv (T := tab false [] v) rfl
  have cF := tab_cells (d := false) u []
  have cS := tab_cells (d := false) v []
  have lF1 := rword_len (tab false [] u)
  have lF2 := wc_len hvF
  have lS1 := rword_len (tab false [] v)
  have lS2 := wc_len hvS
  rw [← cols3_trp hvF] at rF
  rw [← cols3_trp hvS] at rS
  have k1 : tab false (tab false [] u) (rword (tab false [] v)) = tab false [] ms := by rw [← hu]; exact law3_rows rS.1
  have k2 : tab false (tab false [] u) (wc (cols3 (tab false [] v))) = tab false [] ms := by rw [← hu]; exact law3_rows rS.2
  have k3 : tab true (cols3 (tab false [] v)) (rword (tab false [] u)).reverse = cols3 (tab false [] ms) := by rw [← hu, cols3_trp hvS, cols3_trp (T := tab false [] (u ++ v)) (d := false) (val_tab (T := []) trivial)]; exact law3_cols rF.1
  have k4 : tab true (cols3 (tab false [] v)) (wc (cols3 (tab false [] u))).reverse = cols3 (tab false [] ms) := by rw [← hu, cols3_trp hvS, cols3_trp (T := tab false [] (u ++ v)) (d := false) (val_tab (T := []) trivial)]; exact law3_cols rF.2
  have sF : ∀ r ∈ tab false [] u, Srt3 false r := fun r hr => (val_srt hvF r hr).2
  have sC : ∀ r ∈ cols3 (tab false [] v), Srt3 true r := fun r hr => by
    rw [cols3_trp hvS] at hr
    exact (val_srt (d := true) (val_trp hvS) r hr).2
  simp only [List.flatten_nil, List.length_nil, Nat.zero_add] at cF cS
  generalize tab false [] u = fi at *
  generalize tab false [] v = se at *
  generalize tab false [] ms = wh at *
  have m300 : ∀ {T : List (List Int)}, Bd3 64 T → Bd3 300 T := fun hb => bd3_mono hb (by omega)
  refine ex_cons ?_
  refine x_if (c := false) (pt_not (b := true) (pt_val (pe_callFn (f_ok h 54 (by kernel_rfl)) (by kernel_rfl) (g_g h (by kernel_rfl)) (pes_cons (pn nm_eq) pes_nil) (in_order_pl (n := n + 5) h hvW (m300 bW) h63)) tr_bool)) (fun h => by cases h) fun _ => ?_
  refine ex_nil ?_
  refine ex_cons ?_
  refine x_if (c := false) (pt_cmp (PC.pe (out := [wh, wh].map rowsV) (pc_name [rword se, wc (cols3 se)] rowV (fun _ => true) (fun told => rowsV (tab false fi told)) (by rw [ftrue]; simp [k1, k2]) (pi_list (a := rowsV [rword se, wc (cols3 se)]) (l := [rowV (rword se), rowV (wc (cols3 se))]) (pe_callFn (f_ok h 59 (by kernel_rfl)) (by kernel_rfl) (g_g h (by kernel_rfl)) (pes_cons (pc (nm_ne nm_eq)) pes_nil) (readings_pl (n := n + 4) h (m300 bS) (m300 (bd3_cols bS)))) rfl) rfl trivial (fun a _ C => pts_nil) (fun told ht _ C => ?_) (by simp [sizeLine]))) (pe_list (pes_cons (pn nm_eq) (pes_cons (pn nm_eq) pes_nil))) (o_neSame 3 3 (d := .list ([wh, wh].map fun T => .list (T.map fun r => .list (r.map PyData.int)))) ?_ ?_ (tabs_shaped _))) (fun h => by cases h) fun _ => ?_
  · have hl : told.length ≤ 300 := by
      simp only [List.mem_cons, List.not_mem_nil, or_false] at ht
      rcases ht with rfl | rfl <;> omega
    exact pe_callFn (f_ok h 44 (by kernel_rfl)) (by kernel_rfl) (g_g h (by kernel_rfl)) (pes_cons (pc (nm_ne (rs (nm_ne (nm_ne nm_eq))))) (pes_cons (pn nm_eq) (pes_cons pe_bool pes_nil))) (table_pl (n := n + 1) h sF (m300 bF) hl)
  · show py [] (2 + 1) (.lst ([wh, wh].map rowsV)) = _
    simp only [py, tabs_pys [wh, wh] [] 0]; rfl
  · show py [] (2 + 1) (.lst ([wh, wh].map rowsV)) = _
    simp only [py, tabs_pys [wh, wh] [] 0]; rfl
  refine ex_nil ?_
  refine ex_cons ?_
  refine xa (PE.pm (pe_callFn (f_ok h 49 (by kernel_rfl)) (by kernel_rfl) (g_g h (by kernel_rfl)) (pes_cons (pn nm_eq) pes_nil) (columns_pl (n := n + 5) h (m300 bW))) ?_)
  refine ex_cons ?_
  refine xu (out := [(rword fi).reverse, (wc (cols3 fi)).reverse].map rowV) (pc_name [rword fi, wc (cols3 fi)] rowV (fun _ => true) (fun told => rowV told.reverse) (by rw [ftrue]; rfl) (pi_list (a := rowsV [rword fi, wc (cols3 fi)]) (l := [rowV (rword fi), rowV (wc (cols3 fi))]) (pe_callFn (f_ok h 59 (by kernel_rfl)) (by kernel_rfl) (g_g h (by kernel_rfl)) (pes_cons (pc (nm_ne (nm_ne (nm_ne nm_eq)))) pes_nil) (readings_pl (n := n + 4) h (m300 bF) (m300 (bd3_cols bF)))) rfl) rfl trivial (fun a _ C => pts_nil) (fun told ht _ C => ?_) (by simp [sizeLine])) ?_
  · have hl : told.length ≤ 300 := by
      simp only [List.mem_cons, List.not_mem_nil, or_false] at ht
      rcases ht with rfl | rfl <;> omega
    have e : V.lst (slc (told.map V.int) none none (some (-1))) = rowV told.reverse := by rw [slc_rev, ← List.map_reverse]; rfl
    exact e ▸ pe_slice (a := rowV told) (l := told.map V.int) (pn nm_eq) rfl pp_none pp_none (pp_some (pe_un pe_int o_neg)) (by simp) (by simp [sizeLine]; omega)
  refine ex_cons (x_return (PE.pm (v := .bool true) (pe_cmp (PC.pe (out := [cols3 wh, cols3 wh].map rowsV) (pc_name [(rword fi).reverse, (wc (cols3 fi)).reverse] rowV (fun _ => true) (fun told => rowsV (tab true (cols3 se) told)) (by rw [ftrue]; simp [k3, k4]) (pi_list (a := .lst ([(rword fi).reverse, (wc (cols3 fi)).reverse].map rowV)) (l := [(rword fi).reverse, (wc (cols3 fi)).reverse].map rowV) (pn nm_eq) rfl) rfl trivial (fun a _ C => pts_nil) (fun told ht _ C => ?_) (by simp [sizeLine]))) (pe_list (pes_cons (pn (nm_ne nm_eq)) (pes_cons (pn (nm_ne nm_eq)) pes_nil))) (o_eqSame 3 3 (d := .list ([cols3 wh, cols3 wh].map fun T => .list (T.map fun r => .list (r.map PyData.int)))) ?_ ?_ (tabs_shaped _))) rfl))
  · have hl : told.length ≤ 300 := by
      simp only [List.mem_cons, List.not_mem_nil, or_false] at ht
      rcases ht with rfl | rfl <;> simp <;> omega
    exact pe_callFn (f_ok h 44 (by kernel_rfl)) (by kernel_rfl) (g_g h (by kernel_rfl)) (pes_cons (v := rowsV (cols3 se)) (pe_callFn (f_ok h 49 (by kernel_rfl)) (by kernel_rfl) (g_g h (by kernel_rfl)) (pes_cons (pc (nm_ne (rs (nm_ne (nm_ne (nm_ne nm_eq)))))) pes_nil) (columns_pl (n := n + 5) h (m300 bS))) (pes_cons (pn nm_eq) (pes_cons pe_bool pes_nil))) (table_pl (n := n + 1) h sC (m300 (bd3_cols bS)) hl)
  · show py [] (2 + 1) (.lst ([cols3 wh, cols3 wh].map rowsV)) = _
    simp only [py, tabs_pys [cols3 wh, cols3 wh] [] 0]; rfl
  · show py [] (2 + 1) (.lst ([cols3 wh, cols3 wh].map rowsV)) = _
    simp only [py, tabs_pys [cols3 wh, cols3 wh] [] 0]; rfl
end
end Mine

-- part H3
open Mine in
set_option maxRecDepth 100000 in
set_option maxHeartbeats 8000000 in
theorem PySem.Challenge.cw_dm0011_03_holds : PySem.Challenge.rw_dm0011_03.Holds := by
  exact hd (by
  intro w s₀ s₁ mg mb G Y a o pm cd doc dV kV ho hdat hcd hD hmg hg args vals as hpre hlay hrd hwl hlo
  have T := G.T
  have KX := kIn_of Y
  clear ho hdat hcd hD G Y
  wrow_args hpre hlay hrd hwl hlo
  rename_i ns _ _ hLy _ _ _ _ sc vs _ hL _ hW _ hI _ hn _
  have hn : ns.length ≤ 63 := by omega
  have hmgf : ∀ (name : Str) (ad : Addr), gname (hd.heap_39 w.params) name = some (.ref ad) → mg name = some (.ref ad) := fun name ad e => by
    unfold gname at e
    split at e
    · rename_i c d es n sl hK
      obtain ⟨o, es', ep, ho, hd', _, hm⟩ := T.g
      have := KX _ _ hK
      rw [ho] at this
      cases this
      cases hd'
      rw [← hm, e]
    · cases e
  have X : TabsFit hd.view_39 mg (hd.heap_39 w.params) [] := ⟨by simp, fun t ht => by simp at ht, fun t ht => by simp at ht, fun t ht => by simp at ht, fun t ht => by simp at ht⟩
  let B : Bs := Bs.of T PySem.Challenge.rw_dm0011_03.row.prog w (by kernel_rfl) rfl (hd.heap_39 w.params) KX [] X
  have h3 : L3 B := ⟨rfl, rfl⟩
  have h1 : mg "law" = some (.ref 64) := hmgf _ _ (by kernel_rfl)
  rw [h1] at hmg
  cases hmg
  refine law_end (B := B) (n := 7) (fun b o hb e => ?_) (fun b o e => ?_) (fun t ht => ?_) hg (f_ok h3 64 (by kernel_rfl)) (by kernel_rfl) (fun x S => by kernel_rfl) (well_list hW hL) hI (fun L => (law_ex3 (n := 0) h3 (by omega)).mono fun _ _ _ q => q) (by omega) (fun _ => rfl) ?_
  · exact hideAll_get _ e fun hm => hb (let ⟨t, ht, e⟩ := List.mem_map.mp hm; ⟨t, ht, e⟩)
  · exact of_hideAll _ e
  · have ht : t ∈ ([] : List Tab) := ht
    simp at ht
  · kernel_rfl)
