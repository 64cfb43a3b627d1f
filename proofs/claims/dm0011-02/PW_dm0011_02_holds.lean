import PyProof.Rows.All
import Wide.All
import OpenK.AllK
import Wide.FinOn
import PySem.Challenge.RW_dm0011_02
open PySem PySem.W PyProof.Rows
set_option Elab.async false
set_option linter.unusedVariables false
set_option linter.unusedSimpArgs false
set_option maxRecDepth 100000
set_option maxHeartbeats 8000000

-- part Gw1
namespace Mine

/-- pure values: `ref k` is the k-th mutable list -/
inductive V where
  | none
  | bool (b : Bool)
  | int (i : Int)
  | str (s : Str)
  | tup (l : List V)
  | lst (l : List V)
  | ref (k : Nat)
  | val (x : Value)

abbrev Store := List (List V)

noncomputable def tupObj (vs : Array Value) (n : Nat) : Obj := { cls := .type "tuple", data := .seq vs n }
noncomputable def lisObj (vs : Array Value) (n : Nat) : Obj := { cls := .type "list", data := .seq vs n }

/-- the addresses of the mutable lists, and of other things that no data may reach -/
structure Hd where
  hs : List Addr
  xs : List Addr
noncomputable def Hd.has (H : Hd) (a : Addr) : Prop := a ∈ H.hs ∨ a ∈ H.xs

mutual
inductive Rep (H : Hd) (h : Heap) : Value → V → Prop
  | none : Rep H h .none .none
  | bool (b) : Rep H h (.bool b) (.bool b)
  | int (i t) : Rep H h (.int i t) (.int i)
  | str (x t) : Rep H h (.str x t) (.str x)
  | tup {a vs n l} : ¬ H.has a → h.get? a = some (tupObj vs n) → RepAll H h vs.toList l → Rep H h (.ref a) (.tup l)
  | lst {a vs n l} : ¬ H.has a → h.get? a = some (lisObj vs n) → RepAll H h vs.toList l → Rep H h (.ref a) (.lst l)
  | ref {k a} : H.hs[k]? = some a → Rep H h (.ref a) (.ref k)
  | val (x) : Rep H h x (.val x)
inductive RepAll (H : Hd) (h : Heap) : List Value → List V → Prop
  | nil : RepAll H h [] []
  | cons {x xs v vs} : Rep H h x v → RepAll H h xs vs → RepAll H h (x :: xs) (v :: vs)
end

noncomputable def IsSeq (o : Obj) : Prop := ∃ vs n, o.data = .seq vs n

/-- the objects of the text's code tables -/
noncomputable def TabO (o : Obj) : Prop := o.cls = .none ∧ ∃ fs, o.data = .fields fs
theorem seq_notTab {o : Obj} (h : IsSeq o) : ¬ TabO o := fun ⟨_, fs, e⟩ => by obtain ⟨vs, n, e'⟩ := h; rw [e] at e'; cases e'

/-- data is kept: handles grow by fresh ones, all other sequences stay -/
structure DKeep (H : Hd) (h : Heap) (H' : Hd) (h' : Heap) : Prop where
  pre : ∃ N, H'.hs = H.hs ++ N
  new : ∀ a, H'.has a → ¬ H.has a → h.get? a = none
  keep : ∀ b o, ¬ H.has b → IsSeq o → h.get? b = some o → h'.get? b = some o

theorem DKeep.of_full {H : Hd} {h h' : Heap} (hk : ∀ b o, h.get? b = some o → h'.get? b = some o) : DKeep H h H h' :=
  ⟨⟨[], by simp⟩, fun _ h1 h2 => absurd h1 h2, fun b o _ _ e => hk b o e⟩

theorem DKeep.notMem {H H' : Hd} {h h' : Heap} (x : DKeep H h H' h') {a : Addr} {o : Obj} (ha : ¬ H.has a) (ho : h.get? a = some o) : ¬ H'.has a := by
  intro hm
  rw [x.new a hm ha] at ho; cases ho

theorem isSeq_tup (vs n) : IsSeq (tupObj vs n) := ⟨vs, n, rfl⟩
theorem isSeq_lis (vs n) : IsSeq (lisObj vs n) := ⟨vs, n, rfl⟩

mutual
theorem Rep.ext {H H' : Hd} {h h' : Heap} (x : DKeep H h H' h') : ∀ {y : Value} {v : V}, Rep H h y v → Rep H' h' y v
  | _, _, .none => .none
  | _, _, .bool b => .bool b
  | _, _, .int i t => .int i t
  | _, _, .str s t => .str s t
  | _, _, .tup ha ho hr => .tup (x.notMem ha ho) (x.keep _ _ ha (isSeq_tup ..) ho) (RepAll.ext x hr)
  | _, _, .lst ha ho hr => .lst (x.notMem ha ho) (x.keep _ _ ha (isSeq_lis ..) ho) (RepAll.ext x hr)
  | _, _, .ref hk => .ref (by
      obtain ⟨N, e⟩ := x.pre
      have := (List.getElem?_eq_some_iff.mp hk).1
      rw [e, List.getElem?_append_left this]; exact hk)
  | _, _, .val y => .val y
theorem RepAll.ext {H H' : Hd} {h h' : Heap} (x : DKeep H h H' h') : ∀ {ys : List Value} {vs : List V}, RepAll H h ys vs → RepAll H' h' ys vs
  | _, _, .nil => .nil
  | _, _, .cons hy hr => .cons (Rep.ext x hy) (RepAll.ext x hr)
end

section
variable {H : Hd} {h : Heap} {xs ys : List Value} {vs ws : List V} {x : Value} {v : V}
theorem RepAll.length (r : RepAll H h xs vs) : xs.length = vs.length := by
  induction xs generalizing vs with
  | nil => cases r; rfl
  | cons y xs ih => cases r with | cons _ r => simp [ih r]
theorem RepAll.append (r : RepAll H h xs vs) (q : RepAll H h ys ws) : RepAll H h (xs ++ ys) (vs ++ ws) := by
  induction xs generalizing vs with
  | nil => cases r; exact q
  | cons y xs ih => cases r with | cons hy r => exact .cons hy (ih r)
theorem RepAll.one (r : Rep H h x v) : RepAll H h [x] [v] := .cons r .nil
theorem RepAll.get {i : Nat} (r : RepAll H h xs vs) (hi : vs[i]? = some v) : ∃ x, xs[i]? = some x ∧ Rep H h x v := by
  induction xs generalizing vs i with
  | nil => cases r; simp at hi
  | cons y xs ih =>
    cases r with
    | cons hy r =>
      cases i with
      | zero => simp at hi; subst hi; exact ⟨y, rfl, hy⟩
      | succ i => simpa using ih r (by simpa using hi)
theorem RepAll.get' {i : Nat} (r : RepAll H h xs vs) (hi : xs[i]? = some x) : ∃ v, vs[i]? = some v ∧ Rep H h x v := by
  induction xs generalizing vs i with
  | nil => simp at hi
  | cons y xs ih =>
    cases r with
    | cons hy r =>
      cases i with
      | zero => simp at hi; subst hi; exact ⟨_, rfl, hy⟩
      | succ i => simpa using ih r (by simpa using hi)
theorem RepAll.take (r : RepAll H h xs vs) (n : Nat) : RepAll H h (xs.take n) (vs.take n) := by
  induction xs generalizing vs n with
  | nil => cases r; simpa using RepAll.nil
  | cons y xs ih =>
    cases r with
    | cons hy r =>
      cases n with
      | zero => exact .nil
      | succ n => exact .cons hy (ih r n)
theorem RepAll.drop (r : RepAll H h xs vs) (n : Nat) : RepAll H h (xs.drop n) (vs.drop n) := by
  induction xs generalizing vs n with
  | nil => cases r; simpa using RepAll.nil
  | cons y xs ih =>
    cases r with
    | cons hy r =>
      cases n with
      | zero => exact .cons hy r
      | succ n => exact ih r n
end

/-- the store of mutable lists stands in the heap -/
structure SimH (H : Hd) (st : Store) (h : Heap) : Prop where
  len : H.hs.length = st.length
  nd : H.hs.Nodup
  at_ : ∀ (k : Nat) (a : Addr) (l : List V), H.hs[k]? = some a → st[k]? = some l → ∃ vs n, h.get? a = some (lisObj vs n) ∧ RepAll H h vs.toList l
  live : ∀ a, H.has a → ∃ o, h.get? a = some o ∧ IsSeq o
  dj : ∀ a ∈ H.xs, a ∉ H.hs


/-- a code whose body makes lambdas: the code, its table, the lambdas' name -/
structure Tab where
  c : Addr
  P : Addr
  q : Str

/-- what stands below the law's call -/
structure Bs where
  prog : Program
  w : World
  h₀ : Heap
  mg : Str → Option Value
  mb : Str → Option Value
  g : h₀.Ns mainGlobals mg
  b : h₀.Ns builtinsNs mb
  lim : h₀.NoLimit
  seer : h₀.NoSeer
  tree : prog.given.tree = none
  K : Frag
  KX : K.In h₀
  bb : ∀ x : Str, x ≠ "__name__" → mb x = bootBuiltins x
  bm : ∃ bm ob, mg "__builtins__" = some (.ref bm) ∧ bm ≠ builtinsNs ∧ h₀.get? bm = some ob ∧ ob.cls = .type "module" ∧ ob.dict = some builtinsNs ∧ ob.data = .plain
  tabs : List Tab
  hid : ∀ t ∈ tabs, h₀.get? t.P = none
  codes : ∀ t ∈ tabs, CodeHd h₀ t.c t.P
  apartT : (tabs.map (·.P)).Nodup

noncomputable def Bs.isT (B : Bs) (b : Addr) : Prop := ∃ t ∈ B.tabs, t.P = b
/-- new upon the base -/
noncomputable def Bs.free (B : Bs) (b : Addr) : Prop := B.h₀.get? b = none ∧ ¬ B.isT b
/-- a table that may grow -/
noncomputable def Ex (B : Bs) (b : Addr) (o : Obj) : Prop := B.isT b ∧ TabO o

/-- the tables -/
noncomputable def TabsOk (B : Bs) (h : Heap) : Prop := ∀ t ∈ B.tabs, ∃ ps, h.get? t.P = some (tabObj ps) ∧ TriplesOk ps.toList ∧ ∀ pos cv, codeAmong pos ps.toList = some cv → h.CodeRec cv t.q

/-- all is kept but tables that grow -/
structure KH (B : Bs) (h h' : Heap) : Prop where
  keep : ∀ b o, ¬ Ex B b o → h.get? b = some o → h'.get? b = some o
  tab : TabsOk B h → TabsOk B h'
  live : ∀ b o, h.get? b = some o → ∃ o', h'.get? b = some o'

theorem ex_seq {B : Bs} {b : Addr} {o : Obj} (h : IsSeq o) : ¬ Ex B b o := fun e => seq_notTab h e.2
theorem ex_h0 {B : Bs} {b : Addr} {o o' : Obj} (h : B.h₀.get? b = some o) : ¬ Ex B b o' := fun ⟨⟨t, ht, e⟩, _⟩ => by subst e; rw [B.hid t ht] at h; cases h
theorem Bs.free.no {B : Bs} {b : Addr} {o : Obj} (f : B.free b) (e : B.h₀.get? b = some o) : False := by rw [f.1] at e; cases e

theorem tabs_full {B : Bs} {h h' : Heap} (hk : ∀ b o, h.get? b = some o → h'.get? b = some o) (x : TabsOk B h) : TabsOk B h' := fun t ht =>
  let ⟨ps, h1, h2, h3⟩ := x t ht
  ⟨ps, hk _ _ h1, h2, fun pos cv e => (h3 pos cv e).keeps hk⟩
theorem KH.of {B : Bs} {h h' : Heap} (hk : ∀ b o, h.get? b = some o → h'.get? b = some o) : KH B h h' := ⟨fun b o _ e => hk b o e, tabs_full hk, fun b o e => ⟨o, hk b o e⟩⟩
theorem KH.refl (B : Bs) (h : Heap) : KH B h h := .of fun _ _ e => e
theorem KH.seq {B : Bs} {h h' : Heap} (k : KH B h h') {b : Addr} {o : Obj} (hs : IsSeq o) (e : h.get? b = some o) : h'.get? b = some o := k.keep b o (ex_seq hs) e
theorem KH.ns {B : Bs} {h h' : Heap} (k : KH B h h') {a : Addr} {m : Str → Option Value} (x : h.Ns a m) : h'.Ns a m := by
  refine x.at' fun o e => k.keep a o (fun ⟨_, _, fs, ed⟩ => ?_) e
  obtain ⟨o', es, ep, ho', hd, _⟩ := x
  rw [e] at ho'; cases ho'; rw [ed] at hd; cases hd
theorem KH.cell {B : Bs} {h h' : Heap} (k : KH B h h') {a : Addr} {v : Option Value} (x : h.IsCell a v) : h'.IsCell a v := by
  obtain ⟨o, ho, hd⟩ := x
  exact ⟨o, k.keep a o (fun ⟨_, _, fs, ed⟩ => by rw [ed] at hd; cases hd) ho, hd⟩
theorem KH.trans {B : Bs} {h h' h'' : Heap} (x : KH B h h') (y : KH B h' h'') : KH B h h'' := ⟨fun b o n e => y.keep b o n (x.keep b o n e), fun t => y.tab (x.tab t), fun b o e => let ⟨o', e'⟩ := x.live b o e; y.live b o' e'⟩

theorem DKeep.of_keeps {B : Bs} {H : Hd} {h h' : Heap} (hk : KH B h h') : DKeep H h H h' :=
  ⟨⟨[], by simp⟩, fun _ h1 h2 => absurd h1 h2, fun b o _ hs e => hk.seq hs e⟩
theorem SimH.keeps {B : Bs} {H : Hd} {st : Store} {h h' : Heap} (x : SimH H st h) (hk : KH B h h') : SimH H st h' :=
  ⟨x.len, x.nd, fun k a l ha hl => let ⟨vs, n, ho, hr⟩ := x.at_ k a l ha hl; ⟨vs, n, hk.seq (isSeq_lis ..) ho, hr.ext (.of_keeps hk)⟩, fun a ha => let ⟨o, ho, hs⟩ := x.live a ha; ⟨o, hk.seq hs ho, hs⟩, x.dj⟩

/-- the names of a frame -/
structure EnvRep (env : Env) (ρ : Str → Option V) (H : Hd) (h : Heap) : Prop where
  kind : env.scope.kind = .function
  gl : env.globals = mainGlobals
  bi : env.builtins = builtinsNs
  loc : ∃ m, h.Ns env.locals m ∧ ∀ x v, env.kindOf x = some .local → ρ x = some v → ∃ y, m x = some y ∧ Rep H h y v
  cell : ∀ x v, (env.kindOf x = some .cell ∨ env.kindOf x = some .free) → ρ x = some v → ∃ c y, env.cells.lookup x = some c ∧ h.IsCell c (some y) ∧ Rep H h y v
  cells : ∀ x c, (x, c) ∈ env.cells → ∃ v, h.IsCell c v
  has : ∀ x, (env.kindOf x = some .cell ∨ env.kindOf x = some .free) → ∃ c, env.cells.lookup x = some c
  apart : env.cells.Pairwise fun x y => x.2 ≠ y.2

/-- the base heap stands, the handles are new upon it -/
structure Base (B : Bs) (H : Hd) (h : Heap) : Prop where
  keep : ∀ b o, B.h₀.get? b = some o → h.get? b = some o
  new : ∀ a, H.has a → B.free a
  tab : TabsOk B h

/-- what is new is free -/
theorem Base.free {B : Bs} {H : Hd} {h : Heap} (x : Base B H h) {b : Addr} (hb : h.get? b = none) : B.free b := by
  refine ⟨?_, fun ⟨t, ht, e⟩ => ?_⟩
  · cases e : B.h₀.get? b with
    | none => rfl
    | some o => have := x.keep b o e; rw [hb] at this; cases this
  · obtain ⟨ps, h1, _⟩ := x.tab t ht
    rw [e, hb] at h1; cases h1

structure Sim (B : Bs) (env : Env) (ρ : Str → Option V) (st : Store) (H : Hd) (h : Heap) : Prop where
  base : Base B H h
  sto : SimH H st h
  en : EnvRep env ρ H h

theorem EnvRep.keeps {B : Bs} {env : Env} {ρ : Str → Option V} {H : Hd} {h h' : Heap} (x : EnvRep env ρ H h) (hk : KH B h h') : EnvRep env ρ H h' := by
  refine ⟨x.kind, x.gl, x.bi, ?_, fun n v hn hv => ?_, fun n c hn => ?_, x.has, x.apart⟩
  · obtain ⟨m, hm, hr⟩ := x.loc
    exact ⟨m, hk.ns hm, fun n v hn hv => let ⟨y, hy, r⟩ := hr n v hn hv; ⟨y, hy, r.ext (.of_keeps hk)⟩⟩
  · obtain ⟨c, y, h1, h2, h3⟩ := x.cell n v hn hv
    exact ⟨c, y, h1, hk.cell h2, h3.ext (.of_keeps hk)⟩
  · obtain ⟨v, h2⟩ := x.cells n c hn
    exact ⟨v, hk.cell h2⟩

theorem EnvRep.full {env : Env} {ρ : Str → Option V} {H : Hd} {h h' : Heap} (x : EnvRep env ρ H h) (hk : ∀ b o, h.get? b = some o → h'.get? b = some o) : EnvRep env ρ H h' := by
  refine ⟨x.kind, x.gl, x.bi, ?_, fun n v hn hv => ?_, fun n c hn => ?_, x.has, x.apart⟩
  · obtain ⟨m, hm, hr⟩ := x.loc
    exact ⟨m, hm.keeps hk, fun n v hn hv => let ⟨y, hy, r⟩ := hr n v hn hv; ⟨y, hy, r.ext (.of_full hk)⟩⟩
  · obtain ⟨c, y, h1, h2, h3⟩ := x.cell n v hn hv
    exact ⟨c, y, h1, h2.keeps hk, h3.ext (.of_full hk)⟩
  · obtain ⟨v, h2⟩ := x.cells n c hn
    exact ⟨v, h2.keeps hk⟩

theorem Base.keeps {B : Bs} {H : Hd} {h h' : Heap} (x : Base B H h) (hk : KH B h h') : Base B H h' :=
  ⟨fun b o e => hk.keep b o (ex_h0 e) (x.keep b o e), x.new, hk.tab x.tab⟩

theorem Sim.keeps {B : Bs} {env : Env} {ρ : Str → Option V} {st : Store} {H : Hd} {h h' : Heap} (x : Sim B env ρ st H h) (hk : KH B h h') : Sim B env ρ st H h' :=
  ⟨x.base.keeps hk, x.sto.keeps hk, x.en.keeps hk⟩

/-- room for n more levels of calls -/
structure Rm (n : Nat) (A : Around) : Prop where
  hd : A.handled = none
  dp : A.depth + n ≤ 890
  un : A.units + 20 * n ≤ 9000
  fr : ∃ env l, A.frames = some (env :: l) ∧ env.scope.isGenerator = false ∧ env.scope.isCoroutine = false ∧ env.builtins = builtinsNs ∧ env.globals = mainGlobals

theorem Rm.mono {n m : Nat} {A : Around} (x : Rm n A) (h : m ≤ n) : Rm m A := ⟨x.hd, by have := x.dp; omega, by have := x.un; omega, x.fr⟩
theorem Rm.deeper {n : Nat} {A : Around} (x : Rm (n + 1) A) (env : Env) (h1 : env.scope.isGenerator = false) (h2 : env.scope.isCoroutine = false) (h3 : env.builtins = builtinsNs) (h4 : env.globals = mainGlobals) : Rm n (A.deeper env) :=
  ⟨x.hd, by have := x.dp; simp only [Around.deeper]; omega, by have := x.un; simp only [Around.deeper]; omega, by
    obtain ⟨e, l, hf, _⟩ := x.fr
    exact ⟨env, e :: l, by simp only [Around.deeper, hf]; rfl, h1, h2, h3, h4⟩⟩
theorem Rm.in1 {n : Nat} {A : Around} (x : Rm (n + 1) A) : Rm n A.in1 := ⟨x.hd, by have := x.dp; simp only; omega, by have := x.un; simp only; omega, x.fr⟩

/-- as Keeps, but tables may grow -/
inductive KT (B : Bs) (s s' : Shared) : Prop
  | mk (h' : Heap) (tk : Nat) (e : s' = { s with heap := h', toks := tk }) (k : KH B s.heap h')
theorem kp_refl {B : Bs} (s : Shared) : KT B s s := ⟨s.heap, s.toks, rfl, .refl ..⟩
theorem kp_trans {B : Bs} {s s' s'' : Shared} (x : KT B s s') (y : KT B s' s'') : KT B s s'' := by
  obtain ⟨h, tk, rfl, hk⟩ := x
  obtain ⟨h', tk', rfl, hk'⟩ := y
  exact ⟨h', tk', rfl, hk.trans hk'⟩
theorem kp_get {B : Bs} {s s' : Shared} (x : KT B s s') : KH B s.heap s'.heap := by
  obtain ⟨h, tk, rfl, hk⟩ := x; exact hk
theorem kp_dk {B : Bs} {s s' : Shared} (x : KT B s s') (H : Hd) : DKeep H s.heap H s'.heap := .of_keeps (kp_get x)

/-- a pure expression has this value -/
noncomputable def PE (B : Bs) (n : Nat) (env : Env) (ρ : Str → Option V) (st : Store) (e : Expr) (v : V) : Prop :=
  ∀ A, Rm n A → ∀ E s H, Sim B env ρ st H s.heap →
    wpAny (model B.prog B.w) A (eval e env) (fun x s' => KT B s s' ∧ Rep H s'.heap x v) E s

/-- a test has this truth -/
noncomputable def PT (B : Bs) (n : Nat) (env : Env) (ρ : Str → Option V) (st : Store) (e : Expr) (b : Bool) : Prop :=
  ∀ A, Rm n A → ∀ E s H, Sim B env ρ st H s.heap →
    wpAny (model B.prog B.w) A (isTrue e env (eval e env)) (fun x s' => x = b ∧ KT B s s') E s

end Mine

-- part Gw2
namespace Mine

/-- base and store, no frame -/
structure SB (B : Bs) (st : Store) (H : Hd) (h : Heap) : Prop where
  base : Base B H h
  sto : SimH H st h
theorem Sim.sb {B : Bs} {env : Env} {ρ : Str → Option V} {st : Store} {H : Hd} {h : Heap} (x : Sim B env ρ st H h) : SB B st H h := ⟨x.base, x.sto⟩
theorem SB.keeps {B : Bs} {st : Store} {H : Hd} {h h' : Heap} (x : SB B st H h) (hk : KH B h h') : SB B st H h' := ⟨x.base.keeps hk, x.sto.keeps hk⟩

/-- an operation upon values -/
noncomputable def P1 (B : Bs) (n : Nat) (st : Store) (t : Value → Sem Value) (a c : V) : Prop :=
  ∀ A, Rm n A → ∀ E s H x, SB B st H s.heap → Rep H s.heap x a → wpAny (model B.prog B.w) A (t x) (fun z s' => KT B s s' ∧ Rep H s'.heap z c) E s
noncomputable def P2 (B : Bs) (n : Nat) (st : Store) (t : Value → Value → Sem Value) (a b c : V) : Prop :=
  ∀ A, Rm n A → ∀ E s H x y, SB B st H s.heap → Rep H s.heap x a → Rep H s.heap y b → wpAny (model B.prog B.w) A (t x y) (fun z s' => KT B s s' ∧ Rep H s'.heap z c) E s
/-- an operation upon a list of values -/
noncomputable def PL (B : Bs) (n : Nat) (st : Store) (t : List Value → Sem Value) (as : List V) (c : V) : Prop :=
  ∀ A, Rm n A → ∀ E s H xs, SB B st H s.heap → RepAll H s.heap xs as → wpAny (model B.prog B.w) A (t xs) (fun z s' => KT B s s' ∧ Rep H s'.heap z c) E s
/-- truth of a value -/
noncomputable def PTr (B : Bs) (n : Nat) (st : Store) (a : V) (b : Bool) : Prop :=
  ∀ A, Rm n A → ∀ E s H x, SB B st H s.heap → Rep H s.heap x a → wpAny (model B.prog B.w) A (truthy x) (fun z s' => z = b ∧ KT B s s') E s

section
variable {B : Bs} {n : Nat} {env : Env} {ρ : Str → Option V} {st : Store}

theorem kp_tok (s : Shared) (k : Nat) : KT B s { s with toks := k } := ⟨s.heap, k, rfl, .refl ..⟩
theorem kp_heap {s : Shared} {h : Heap} (hk : ∀ b o, s.heap.get? b = some o → h.get? b = some o) : KT B s { s with heap := h } := ⟨h, s.toks, rfl, .of hk⟩
theorem kp_push (s : Shared) (o : Obj) : KT B s { s with heap := s.heap.push o } := kp_heap fun _ _ e => Heap.get?_push_of_some _ e

-- constants
theorem pe_int {i : Int} {k : Nat} {pos : Pos} : PE B n env ρ st (.Constant (.int i) k pos) (.int i) := fun A _ E s H _ => by
  show wpAny _ A (mkInt i) _ _ _
  exact wpAny_mkInt ⟨kp_tok .., .int ..⟩
theorem pe_str {x : Str} {k : Nat} {pos : Pos} : PE B n env ρ st (.Constant (.str x) k pos) (.str x) := fun A _ E s H _ => by
  show wpAny _ A (mkText x) _ _ _
  exact wpAny_mkText ⟨kp_tok .., .str ..⟩
theorem pe_bool {b : Bool} {k : Nat} {pos : Pos} : PE B n env ρ st (.Constant (.bool b) k pos) (.bool b) := fun A _ E s H _ => wpAny_pure ⟨kp_refl _, .bool b⟩
theorem pe_none {k : Nat} {pos : Pos} : PE B n env ρ st (.Constant .none k pos) .none := fun A _ E s H _ => wpAny_pure ⟨kp_refl _, .none⟩

-- names
theorem pe_name {x : Str} {pos : Pos} {v : V} (hv : ρ x = some v) (hk : env.kindOf x = some .local ∨ env.kindOf x = some .cell ∨ env.kindOf x = some .free)
    (hd : (x == ("__debug__" : Str)) = false := by kernel_rfl) (hc : (x == ("__classdict__" : Str)) = false := by kernel_rfl) : PE B n env ρ st (.Name x pos) v := fun A _ E s H S => by
  refine wpAny_Name ?_ hd
  rcases hk with hk | hk | hk
  · obtain ⟨m, hm, hr⟩ := S.en.loc
    obtain ⟨y, hy, r⟩ := hr x v hk hv
    exact wpAny_loadName_local S.en.kind hk hm hy ⟨kp_refl _, r⟩
  · obtain ⟨c, y, h1, h2, h3⟩ := S.en.cell x v (.inl hk) hv
    exact wpAny_loadName_cell S.en.kind hk h1 h2 ⟨kp_refl _, h3⟩
  · obtain ⟨c, y, h1, h2, h3⟩ := S.en.cell x v (.inr hk) hv
    exact wpAny_loadName_free S.en.kind hk h1 h2 ⟨kp_refl _, h3⟩ hc

theorem ld_glob {A : Around} {E : Value → Shared → Prop} {s : Shared} {H : Hd} {x : Str} {pos : Pos} {y : Value} {Q : Value → Shared → Prop} (S : Sim B env ρ st H s.heap)
    (hk : env.kindOf x = some .globalImplicit) (hv : (B.mg x).or (B.mb x) = some y) (h : Q y s) (hd : (x == ("__debug__" : Str)) = false := by kernel_rfl) :
    wpAny (model B.prog B.w) A (eval (.Name x pos) env) Q E s := by
  refine wpAny_Name ?_ hd
  unfold loadName
  simp only [Env.blockKind, S.en.kind, hk, ScopeKind.isAnnotationScope, Bool.false_and, Bool.false_eq_true, if_false]
  unfold loadGlobal
  rw [S.en.gl, S.en.bi]
  refine wpAny_bind (wpAny_nsGet (B.g.keeps S.base.keep) ?_)
  cases hg : B.mg x with
  | some z => rw [hg] at hv; cases hv; exact wpAny_pure h
  | none =>
    rw [hg] at hv
    refine wpAny_bind (wpAny_nsGet (B.b.keeps S.base.keep) ?_)
    have hv' : B.mb x = some y := hv
    rw [hv']; exact wpAny_pure h

-- generic nodes
theorem pe_bin {l r : Expr} {op : Operator} {pos : Pos} {a b c : V} (h1 : PE B n env ρ st l a) (h2 : PE B n env ρ st r b) (h3 : P2 B n st (binaryOp op) a b c) : PE B n env ρ st (.BinOp l op r pos) c := fun A hA E s H S => by
  refine wpAny_BinOp (wpAny_mono (h1 A hA E s H S) (fun x s₁ ⟨k1, r1⟩ => wpAny_mono (h2 A hA E s₁ H (S.keeps (kp_get k1))) (fun y s₂ ⟨k2, r2⟩ => ?_) fun _ _ e => e) fun _ _ e => e)
  have k := kp_trans k1 k2
  exact wpAny_mono (h3 A hA E s₂ H x y (S.sb.keeps (kp_get k)) (r1.ext (kp_dk k2 H)) r2) (fun z s₃ ⟨k3, r3⟩ => ⟨kp_trans k k3, r3⟩) fun _ _ e => e
theorem pt_cmp {l r : Expr} {op : CmpOp} {pos : Pos} {a b : V} {c : Bool} (h1 : PE B n env ρ st l a) (h2 : PE B n env ρ st r b) (h3 : P2 B n st (compareOp op) a b (.bool c)) (hm : behindInMarks op r = false := by with_unfolding_all rfl) : PT B n env ρ st (.Compare l [op] [r] pos) c := fun A hA E s H S => by
  refine wpAny_isTrue_Compare1 (wpAny_mono (h1 A hA E s H S) (fun x s₁ ⟨k1, r1⟩ => wpAny_mono (h2 A hA E s₁ H (S.keeps (kp_get k1))) (fun y s₂ ⟨k2, r2⟩ => ?_) fun _ _ e => e) fun _ _ e => e) hm
  have k := kp_trans k1 k2
  refine wpAny_mono (h3 A hA E s₂ H x y (S.sb.keeps (kp_get k)) (r1.ext (kp_dk k2 H)) r2) (fun z s₃ ⟨k3, r3⟩ => ?_) fun _ _ e => e
  cases r3
  exact wpAny_truthy_bool ⟨rfl, kp_trans k k3⟩
theorem pe_un {e : Expr} {op : UnaryOp} {pos : Pos} {a c : V} (h1 : PE B n env ρ st e a) (h3 : P1 B n st (unaryOp op) a c) : PE B n env ρ st (.UnaryOp op e pos) c := fun A hA E s H S =>
  wpAny_UnaryOp (wpAny_mono (h1 A hA E s H S) (fun x s₁ ⟨k1, r1⟩ => wpAny_mono (h3 A hA E s₁ H x (S.sb.keeps (kp_get k1)) r1) (fun z s₃ ⟨k3, r3⟩ => ⟨kp_trans k1 k3, r3⟩) fun _ _ e => e) fun _ _ e => e)
theorem pe_ifexp {t a b : Expr} {pos : Pos} {c : Bool} {v : V} (h1 : PT B n env ρ st t c) (h2 : c = true → PE B n env ρ st a v) (h3 : c = false → PE B n env ρ st b v) : PE B n env ρ st (.IfExp t a b pos) v := fun A hA E s H S => by
  refine wpAny_IfExp (wpAny_mono (h1 A hA E s H S) (fun x s₁ ⟨e1, k1⟩ => ?_) fun _ _ e => e)
  subst e1
  cases x with
  | true => exact wpAny_mono (h2 rfl A hA E s₁ H (S.keeps (kp_get k1))) (fun z s₃ ⟨k3, r3⟩ => ⟨kp_trans k1 k3, r3⟩) fun _ _ e => e
  | false => exact wpAny_mono (h3 rfl A hA E s₁ H (S.keeps (kp_get k1))) (fun z s₃ ⟨k3, r3⟩ => ⟨kp_trans k1 k3, r3⟩) fun _ _ e => e
theorem pt_val {e : Expr} {a : V} {b : Bool} (h1 : PE B n env ρ st e a) (h2 : PTr B n st a b) (he : ∀ whole, isTrue e env whole = (do let v ← whole; standAt e.pos; holding [v] (truthy v)) := by intro _; rfl) : PT B n env ρ st e b := fun A hA E s H S =>
  wpAny_isTrue_value (wpAny_mono (h1 A hA E s H S) (fun x s₁ ⟨k1, r1⟩ => wpAny_mono (h2 A hA E s₁ H x (S.sb.keeps (kp_get k1)) r1) (fun z s₂ ⟨e2, k2⟩ => ⟨e2, kp_trans k1 k2⟩) fun _ _ e => e) fun _ _ e => e) (he _)
-- int operations
theorem o_add {a b : Int} : P2 B n st (binaryOp .Add) (.int a) (.int b) (.int (a + b)) := fun A _ E s H x y _ rx ry => by cases rx; cases ry; exact add_int ⟨kp_tok .., .int ..⟩
theorem o_sub {a b : Int} : P2 B n st (binaryOp .Sub) (.int a) (.int b) (.int (a - b)) := fun A _ E s H x y _ rx ry => by cases rx; cases ry; exact sub_int ⟨kp_tok .., .int ..⟩
theorem o_mul {a b : Int} (hm : IntMulOk a b) : P2 B n st (binaryOp .Mult) (.int a) (.int b) (.int (a * b)) := fun A _ E s H x y _ rx ry => by cases rx; cases ry; exact mul_int ⟨kp_tok .., .int ..⟩ hm
theorem o_mod {a b : Int} (hb : b ≠ 0) : P2 B n st (binaryOp .Mod) (.int a) (.int b) (.int (a.fmod b)) := fun A _ E s H x y _ rx ry => by cases rx; cases ry; exact mod_int hb ⟨kp_tok .., .int ..⟩
theorem pylongRoom {A : Around} {s : Shared} {H : Hd} (S : SB B st H s.heap) (R : Rm n A) : PylongRoom (model B.prog B.w) A s := by
  obtain ⟨env, l, hf, h1, h2, h3, h4⟩ := R.fr
  exact PylongRoom.of (B.lim.keeps S.base.keep) (by have := R.dp; simp only [Builtin.pylongFrames, recursionLimit]; omega) (SeerAt.of (B.seer.keeps S.base.keep) B.tree hf h1 h2 h3 h4)
theorem o_fdiv {a b : Int} (hb : b ≠ 0) : P2 B n st (binaryOp .FloorDiv) (.int a) (.int b) (.int (a.fdiv b)) := fun A R E s H x y S rx ry => by
  cases rx; cases ry; exact floordiv_int hb ⟨kp_tok .., .int ..⟩ (.inr (pylongRoom S R))
theorem o_lt {a b : Int} : P2 B n st (compareOp .Lt) (.int a) (.int b) (.bool (decide (a < b))) := fun A _ E s H x y _ rx ry => by cases rx; cases ry; exact lt_int ⟨kp_refl _, .bool _⟩
theorem o_eq {a b : Int} : P2 B n st (compareOp .Eq) (.int a) (.int b) (.bool (a == b)) := fun A _ E s H x y _ rx ry => by cases rx; cases ry; exact eq_int ⟨kp_refl _, .bool _⟩
theorem o_ne {a b : Int} : P2 B n st (compareOp .NotEq) (.int a) (.int b) (.bool (a != b)) := fun A _ E s H x y _ rx ry => by cases rx; cases ry; exact ne_int ⟨kp_refl _, .bool _⟩
theorem o_neg {a : Int} : P1 B n st (unaryOp .USub) (.int a) (.int (-a)) := fun A _ E s H x _ rx => by cases rx; exact neg_int ⟨kp_tok .., .int ..⟩
theorem o_isNone : P2 B n st (compareOp .Is) .none .none (.bool true) := fun A _ E s H x y _ rx ry => by cases rx; cases ry; exact is_none_none ⟨kp_refl _, .bool _⟩
noncomputable def notNone : V → Bool
  | .none => false
  | .val .none => false
  | _ => true
theorem o_isNotNone {v : V} (hv : notNone v = true) : P2 B n st (compareOp .Is) v .none (.bool false) := fun A _ E s H x y _ rx ry => by
  cases ry
  refine is_none_ne ?_ ⟨kp_refl _, .bool _⟩
  rintro rfl
  cases rx <;> simp [notNone] at hv
end
end Mine

-- part Gw3
namespace Mine

/-- the items of a list value -/
noncomputable def lis (st : Store) : V → Option (List V)
  | .lst l => some l
  | .ref k => st[k]?
  | _ => none

theorem lis_at {B : Bs} {st : Store} {H : Hd} {h : Heap} {x : Value} {v : V} {l : List V} (S : SimH H st h) (r : Rep H h x v) (hl : lis st v = some l) :
    ∃ a vs n, x = .ref a ∧ h.get? a = some (lisObj vs n) ∧ RepAll H h vs.toList l := by
  cases r with
  | lst ha ho hr => cases hl; exact ⟨_, _, _, rfl, ho, hr⟩
  | ref hk =>
    obtain ⟨vs, n, ho, hr⟩ := S.at_ _ _ _ hk hl
    exact ⟨_, vs, n, rfl, ho, hr⟩
  | _ => cases hl

theorem isList_of {h : Heap} {a : Addr} {vs : Array Value} {n : Nat} (ho : h.get? a = some (lisObj vs n)) : h.IsList a vs := ⟨_, ho, rfl, n, rfl⟩
theorem isTup_of {h : Heap} {a : Addr} {vs : Array Value} {n : Nat} (ho : h.get? a = some (tupObj vs n)) : IsTup h a vs := ⟨_, ho, rfl, n, rfl⟩
theorem RepAll.size {H : Hd} {h : Heap} {vs : Array Value} {l : List V} (r : RepAll H h vs.toList l) : vs.size = l.length := by
  have := r.length; simpa using this

/-- the arguments of a call, a display's items -/
noncomputable def PEs (B : Bs) (n : Nat) (env : Env) (ρ : Str → Option V) (st : Store) (es : List Expr) (vs : List V) : Prop :=
  ∀ A, Rm n A → ∀ E s H pos, Sim B env ρ st H s.heap →
    wpAny (model B.prog B.w) A (spliced (backTo pos (starEach es env))) (fun xs s' => KT B s s' ∧ RepAll H s'.heap xs vs) E s

theorem notMem_size {H : Hd} {st : Store} {h : Heap} (S : SimH H st h) : ¬ H.has h.objs.size := fun hm => by
  obtain ⟨o, ho, _⟩ := S.live _ hm
  exact Nat.lt_irrefl _ (Heap.lt_size ho)

/-- indices picked out of a list -/
theorem RepAll.pick {H : Hd} {h : Heap} {xs : List Value} {l : List V} (r : RepAll H h xs l) : ∀ ix : List Nat, RepAll H h (ix.filterMap (xs[·]?)) (ix.filterMap (l[·]?))
  | [] => .nil
  | i :: ix => by
    have ih := RepAll.pick r ix
    cases hx : xs[i]? with
    | none =>
      have hl : l[i]? = none := by
        rw [List.getElem?_eq_none_iff] at hx ⊢
        rw [← r.length]; exact hx
      simp only [List.filterMap_cons, hx, hl]; exact ih
    | some x =>
      obtain ⟨v, hv, rv⟩ := r.get' hx
      simp only [List.filterMap_cons, hx, hv]
      exact .cons rv ih

/-- a slice of a list -/
noncomputable def slc (l : List V) (lo hi st : Option Int) : List V :=
  (sliceRange (sliceBounds lo hi st l.length).1 (sliceBounds lo hi st l.length).2.1 (sliceBounds lo hi st l.length).2.2).filterMap (l[·]?)

theorem RepAll.slice {H : Hd} {h : Heap} {vs : Array Value} {l : List V} (r : RepAll H h vs.toList l) (lo hi st : Option Int) : RepAll H h (slicePick vs lo hi st).toList (slc l lo hi st) := by
  unfold slicePick slc
  rw [r.size]
  have := r.pick (sliceRange (sliceBounds lo hi st l.length).1 (sliceBounds lo hi st l.length).2.1 (sliceBounds lo hi st l.length).2.2)
  simpa using this

section
variable {B : Bs} {n : Nat} {env : Env} {ρ : Str → Option V} {st : Store}

theorem pes_nil : PEs B n env ρ st [] [] := fun A _ E s H pos _ => args_nil ⟨kp_refl _, .nil⟩
theorem pes_cons {e : Expr} {es : List Expr} {v : V} {vs : List V} (h1 : PE B n env ρ st e v) (h2 : PEs B n env ρ st es vs)
    (he : starEach (e :: es) env = (false, eval e env) :: starEach es env := by rfl) : PEs B n env ρ st (e :: es) (v :: vs) := fun A hA E s H pos S =>
  args_cons (wpAny_mono (h1 A hA E s H S) (fun x s₁ ⟨k1, r1⟩ => wpAny_mono (h2 A hA E s₁ H pos (S.keeps (kp_get k1))) (fun xs s₂ ⟨k2, r2⟩ => ⟨kp_trans k1 k2, .cons (r1.ext (kp_dk k2 H)) r2⟩) fun _ _ e => e) fun _ _ e => e) he

theorem pe_tuple {es : List Expr} {k : Nat} {pos : Pos} {vs : List V} (h1 : PEs B n env ρ st es vs) (hsz : vs.length ≤ sizeLine := by simp [sizeLine]) : PE B n env ρ st (.Tuple es k pos) (.tup vs) := fun A hA E s H S => by
  refine Tuple_ (wpAny_mono (h1 A hA E s H pos S) (fun xs s₁ ⟨k1, r1⟩ => ?_) fun _ _ e => e)
  have S1 := S.keeps (kp_get k1)
  refine wpAny_newObj_type ⟨kp_trans k1 (kp_push ..), .tup (vs := xs.toArray) (n := 0) (notMem_size S1.sto) (Heap.get?_push_size _ rfl) ?_⟩ (by show xs.toArray.size ≤ sizeLine; rw [List.size_toArray, r1.length]; exact hsz)
  exact r1.ext (kp_dk (B := B) (kp_push s₁ _) H)
theorem pe_list {es : List Expr} {pos : Pos} {vs : List V} (h1 : PEs B n env ρ st es vs) (hsz : vs.length ≤ sizeLine := by simp [sizeLine]) : PE B n env ρ st (.List es pos) (.lst vs) := fun A hA E s H S => by
  refine List_ (wpAny_mono (h1 A hA E s H pos S) (fun xs s₁ ⟨k1, r1⟩ => ?_) fun _ _ e => e)
  have S1 := S.keeps (kp_get k1)
  refine wpAny_newObj_type ⟨kp_trans k1 (kp_push ..), .lst (vs := xs.toArray) (n := 0) (notMem_size S1.sto) (Heap.get?_push_size _ rfl) ?_⟩ (by show xs.toArray.size ≤ sizeLine; rw [List.size_toArray, r1.length]; exact hsz)
  exact r1.ext (kp_dk (B := B) (kp_push s₁ _) H)

-- items
theorem pe_sub {e i : Expr} {pos : Pos} {a k c : V} (h1 : PE B n env ρ st e a) (h2 : PE B n env ρ st i k) (h3 : P2 B n st (subscriptTail e i) a k c) : PE B n env ρ st (.Subscript e i pos) c := fun A hA E s H S => by
  refine Subscript_ (wpAny_mono (h1 A hA E s H S) (fun x s₁ ⟨k1, r1⟩ => wpAny_mono (h2 A hA E s₁ H (S.keeps (kp_get k1))) (fun y s₂ ⟨k2, r2⟩ => ?_) fun _ _ e => e) fun _ _ e => e)
  have k := kp_trans k1 k2
  exact wpAny_mono (h3 A hA E s₂ H x y (S.sb.keeps (kp_get k)) (r1.ext (kp_dk k2 H)) r2) (fun z s₃ ⟨k3, r3⟩ => ⟨kp_trans k k3, r3⟩) fun _ _ e => e

theorem o_item {e i : Expr} {a c : V} {l : List V} {k : Int} (hl : lis st a = some l) (h0 : 0 ≤ k) (hx : l[k.toNat]? = some c) (hfit : l.length < 2 ^ 62)
    (hs : ∀ o j, subscripted i false o j = operate [o, j] (getItem o j) := by intro _ _; rfl) : P2 B n st (subscriptTail e i) a (.int k) c := fun A _ E s H x y S rx ry => by
  cases ry
  obtain ⟨ad, vs, m, rfl, ho, hr⟩ := lis_at (B := B) S.sto rx hl
  obtain ⟨z, hz, rz⟩ := hr.get hx
  have hlt : k.toNat < l.length := (List.getElem?_eq_some_iff.mp hx).1
  exact tail_any (isList_of ho).typeIs slot_list_getitem.lookup (wpAny_getItem_list (isList_of ho) h0 (by omega) (by simpa using hz) ⟨kp_refl _, rz⟩) (hs _ _)
-- slices
/-- the parts of a slice -/
noncomputable def PPart (B : Bs) (n : Nat) (env : Env) (ρ : Str → Option V) (st : Store) (e : Option Expr) (k : Option Int) : Prop :=
  ∀ A, Rm n A → ∀ E s H, Sim B env ρ st H s.heap → wpAny (model B.prog B.w) A (evalPart e env) (fun x s' => KT B s s' ∧ IsPart x k) E s
theorem pp_none : PPart B n env ρ st none none := fun A _ E s H _ => wpAny_pure ⟨kp_refl _, .none⟩
theorem pp_some {e : Expr} {i : Int} (h : PE B n env ρ st e (.int i)) : PPart B n env ρ st (some e) (some i) := fun A hA E s H S => by
  show wpAny _ A (eval e env) _ _ _
  exact wpAny_mono (h A hA E s H S) (fun x s₁ ⟨k1, r1⟩ => ⟨k1, by cases r1; exact .int ..⟩) fun _ _ e => e
theorem pe_slice {e : Expr} {lo hi stp : Option Expr} {p pos : Pos} {a : V} {l : List V} {i j k : Option Int} (h1 : PE B n env ρ st e a) (hl : lis st a = some l) (h2 : PPart B n env ρ st lo i) (h3 : PPart B n env ρ st hi j) (h4 : PPart B n env ρ st stp k)
    (hk : k ≠ some 0) (hsz : l.length ≤ sizeLine) : PE B n env ρ st (.Subscript e (.Slice lo hi stp p) pos) (.lst (slc l i j k)) := fun A hA E s H S => by
  refine Subscript_ (wpAny_mono (h1 A hA E s H S) (fun x s₁ ⟨k1, r1⟩ => wpAny_Slice (wpAny_mono (h2 A hA E s₁ H (S.keeps (kp_get k1))) (fun y s₂ ⟨k2, r2⟩ => wpAny_mono (h3 A hA E s₂ H (S.keeps (kp_get (kp_trans k1 k2)))) (fun z s₃ ⟨k3, r3⟩ =>
    wpAny_mono (h4 A hA E s₃ H (S.keeps (kp_get (kp_trans k1 (kp_trans k2 k3))))) (fun u s₄ ⟨k4, r4⟩ => ?_) fun _ _ e => e) fun _ _ e => e) fun _ _ e => e)) fun _ _ e => e)
  have kk := kp_trans k1 (kp_trans k2 (kp_trans k3 k4))
  have S4 := S.keeps (kp_get kk)
  have r1' := r1.ext (kp_dk (B := B) (kp_trans k2 (kp_trans k3 k4)) H)
  obtain ⟨ad, vs, m, rfl, ho, hr⟩ := lis_at (B := B) S4.sto r1' hl
  have ho' := Heap.get?_push_of_some { cls := .type "slice", data := .fields #[y, z, u] } ho
  have S5 := S4.sto.keeps (B := B) (kp_get (kp_push s₄ { cls := .type "slice", data := .fields #[y, z, u] }))
  refine tail_any (T := "list") (id := "list.__getitem__") (ops := match stp with | none => [Value.ref s₄.heap.objs.size, Value.ref ad] | some _ => [Value.ref ad, Value.ref s₄.heap.objs.size]) (isList_of ho').typeIs slot_list_getitem.lookup (wpAny_getItem_list_slice (isList_of ho') (Heap.IsSliceOf.new ..) r2 r3 r4 hk ⟨kp_trans kk (kp_trans (kp_push ..) (kp_push ..)), ?_⟩ (by rw [hr.size]; exact hsz)) (by cases stp <;> rfl)
  exact .lst (notMem_size S5) (Heap.get?_push_size _ rfl) ((hr.slice i j k).ext (kp_dk (B := B) (kp_trans (kp_push s₄ _) (kp_push _ _)) H))

-- calls of built-in functions by their names
theorem pe_callB {x : Str} {np pos : Pos} {e : Expr} {es : List Expr} {id : String} {as : List V} {c : V} (hv : (B.mg x).or (B.mb x) = some (.builtin id)) (hk : env.kindOf x = some .globalImplicit) (h1 : PEs B n env ρ st (e :: es) as)
    (h2 : PL B n st (fun xs => call (.builtin id) xs) as c) (hd : (x == ("__debug__" : Str)) = false := by kernel_rfl)
    (he : starEach (e :: es) env = (false, eval e env) :: starEach es env := by rfl) (hplain : ∀ pos, (backTo pos (starEach es env)).any (·.1) = false := by intro _; rfl) :
    PE B n env ρ st (.Call (.Name x np) (e :: es) [] pos) c := fun A hA E s H S => by
  refine wpAny_Call_ofName (ld_glob S hk hv ?_ hd)
  refine callWith_builtin1 (wpAny_mono (h1 A hA E s H pos S) (fun xs s₁ ⟨k1, r1⟩ => ?_) fun _ _ e => e) he (hplain pos)
  exact wpAny_mono (h2 A hA E s₁ H xs (S.sb.keeps (kp_get k1)) r1) (fun z s₂ ⟨k2, r2⟩ => ⟨kp_trans k1 k2, r2⟩) fun _ _ e => e

theorem PL.one {t : List Value → Sem Value} {a c : V} (h : P1 B n st (fun x => t [x]) a c) : PL B n st t [a] c := fun A hA E s H xs S r => by
  cases r with | cons r1 r => cases r; exact h A hA E s H _ S r1
theorem PL.two {t : List Value → Sem Value} {a b c : V} (h : P2 B n st (fun x y => t [x, y]) a b c) : PL B n st t [a, b] c := fun A hA E s H xs S r => by
  cases r with | cons r1 r => cases r with | cons r2 r => cases r; exact h A hA E s H _ _ S r1 r2

theorem o_len {a : V} {l : List V} (hl : lis st a = some l) (hfit : l.length < 2 ^ 62) : PL B n st (fun xs => call (.builtin "len") xs) [a] (.int l.length) := PL.one fun A _ E s H x S rx => by
  obtain ⟨ad, vs, m, rfl, ho, hr⟩ := lis_at (B := B) S.sto rx hl
  refine len_list (isList_of ho) (by rw [hr.size]; omega) ⟨kp_tok .., ?_⟩
  rw [hr.size]; exact .int ..
theorem tr_lis {a : V} {l : List V} (hl : lis st a = some l) (hfit : l.length < 2 ^ 62) : PTr B n st a (!l.isEmpty) := fun A _ E s H x S rx => by
  obtain ⟨ad, vs, m, rfl, ho, hr⟩ := lis_at (B := B) S.sto rx hl
  have hsz := hr.size
  refine wpAny_truthy_list (isList_of ho) (by rw [hsz]; omega) ⟨?_, kp_tok ..⟩
  cases l with
  | nil => have : vs = #[] := by simpa using hsz
           simp [this]
  | cons v l => simp only [List.isEmpty_cons, Bool.not_false, Bool.not_eq_eq_eq_not, Bool.not_true]; rw [Array.isEmpty_eq_false_iff]; rintro rfl; simp at hsz
theorem o_addL {a b : V} {l m : List V} (hl : lis st a = some l) (hm : lis st b = some m) (hsz : l.length + m.length ≤ sizeLine) : P2 B n st (binaryOp .Add) a b (.lst (l ++ m)) := fun A _ E s H x y S rx ry => by
  obtain ⟨ad, vs, q, rfl, ho, hr⟩ := lis_at (B := B) S.sto rx hl
  obtain ⟨bd, ws, q', rfl, ho', hr'⟩ := lis_at (B := B) S.sto ry hm
  refine PySem.P.add_list (n := q) (n2 := q') ho ho' ⟨kp_push .., .lst (notMem_size S.sto) (Heap.get?_push_size _ rfl) ?_⟩ (by have := hr.size; have := hr'.size; omega) 
  have := (hr.append hr').ext (kp_dk (B := B) (kp_push s { cls := .type "list", data := .seq (vs ++ ws) }) H)
  simpa using this
end
end Mine

-- part Gw4
namespace Mine

noncomputable def upd (ρ : Str → Option V) (x : Str) (v : V) : Str → Option V := fun y => if y = x then some v else ρ y

/-- what the frame's own names write -/
noncomputable def wrt (env : Env) (xs : List Str) (b : Addr) : Prop := b = env.locals ∨ ∃ x ∈ xs, env.kindOf x = some .cell ∧ env.cells.lookup x = some b

theorem EnvRep.notSeq {env : Env} {ρ : Str → Option V} {H : Hd} {h : Heap} (x : EnvRep env ρ H h) {xs : List Str} {b : Addr} (hb : wrt env xs b) {o : Obj} (ho : h.get? b = some o) : ¬ IsSeq o := by
  rintro ⟨vs, n, hd⟩
  rcases hb with rfl | ⟨y, _, _, hc⟩
  · obtain ⟨m, ⟨o', es, ep, ho', hd', _⟩, _⟩ := x.loc
    rw [ho] at ho'; cases ho'; rw [hd] at hd'; cases hd'
  · obtain ⟨v, o', ho', hd'⟩ := x.cells y b (mem_of_lookup hc)
    rw [ho] at ho'; cases ho'; rw [hd] at hd'; cases hd'

/-- a heap that keeps all but some non-sequences -/
theorem SimH.keepSeq {H : Hd} {st : Store} {h h' : Heap} (S : SimH H st h) (hk : ∀ b o, IsSeq o → h.get? b = some o → h'.get? b = some o) : SimH H st h' :=
  ⟨S.len, S.nd, fun k a l ha hl => let ⟨vs, n, ho, hr⟩ := S.at_ k a l ha hl; ⟨vs, n, hk _ _ (isSeq_lis ..) ho, hr.ext ⟨⟨[], by simp⟩, fun _ h1 h2 => absurd h1 h2, fun b o _ hs e => hk b o hs e⟩⟩, fun a ha => let ⟨o, ho, hs⟩ := S.live a ha; ⟨o, hk _ _ hs ho, hs⟩, S.dj⟩
theorem dk_seq {H : Hd} {h h' : Heap} (hk : ∀ b o, IsSeq o → h.get? b = some o → h'.get? b = some o) : DKeep H h H h' :=
  ⟨⟨[], by simp⟩, fun _ h1 h2 => absurd h1 h2, fun b o _ hs e => hk b o hs e⟩

/-- what a code's table may name -/
noncomputable def CodeO (o : Obj) : Prop := ∃ vs q t, o.data = .fields vs ∧ vs[1]? = some (.str q t)
theorem tabs_ne {B : Bs} {h h' : Heap} (x : TabsOk B h) {W : Addr → Prop} (hk : ∀ b o, ¬ W b → h.get? b = some o → h'.get? b = some o) (hW : ∀ b, W b → ¬ B.isT b) (hC : ∀ b o, W b → h.get? b = some o → ¬ CodeO o) : TabsOk B h' := fun t ht => by
  obtain ⟨ps, h1, h2, h3⟩ := x t ht
  refine ⟨ps, hk _ _ (fun hw => hW _ hw ⟨t, ht, rfl⟩) h1, h2, fun pos cv e => ?_⟩
  obtain ⟨c, o, vs, u, e1, e2, e3, e4⟩ := h3 pos cv e
  exact ⟨c, o, vs, u, e1, hk _ _ (fun hw => hC _ _ hw e2 ⟨vs, _, _, e3, e4⟩) e2, e3, e4⟩
theorem base_ne {B : Bs} {H : Hd} {h h' : Heap} (x : Base B H h) {W : Addr → Prop} (hk : ∀ b o, ¬ W b → h.get? b = some o → h'.get? b = some o) (hW : ∀ b, W b → B.free b) (hC : ∀ b o, W b → h.get? b = some o → ¬ CodeO o) : Base B H h' :=
  ⟨fun b o e => hk b o (fun hw => (hW b hw).no e) (x.keep b o e), x.new, tabs_ne x.tab hk (fun b hb => (hW b hb).2) hC⟩
theorem ns_notCode {h : Heap} {C : Addr} {q : Str → Option Value} (hn : h.Ns C q) {o : Obj} (e : h.get? C = some o) : ¬ CodeO o := fun ⟨_, _, _, hd, _⟩ => by
  obtain ⟨o', es, ep, ho', hd', _⟩ := hn
  rw [e] at ho'; cases ho'; rw [hd] at hd'; cases hd'
/-- a new namespace is changed -/
theorem KH.but {B : Bs} {h h' h'' : Heap} {C : Addr} {q : Str → Option Value} (k : KH B h h') (hC : h.get? C = none) (hn : h'.Ns C q) (hs : Heap.SameBut C h' h'') : KH B h h'' where
  keep := fun b o hx e => hs.extBut b o (fun e' => by subst e'; rw [hC] at e; cases e) (k.keep b o hx e)
  tab := fun T => tabs_ne (k.tab T) (W := (· = C)) (fun b o hb e => hs.extBut b o hb e) (fun b hb ⟨t, ht, e⟩ => by
    obtain ⟨ps, h1, _⟩ := T t ht
    rw [e, hb, hC] at h1; cases h1) fun b o hb e => by subst hb; exact ns_notCode hn e
  live := fun b o e => let ⟨o', e'⟩ := k.live b o e; ⟨o', hs.extBut b o' (fun e'' => by subst e''; rw [hC] at e; cases e) e'⟩
theorem EnvRep.notCode {env : Env} {ρ : Str → Option V} {H : Hd} {h : Heap} (x : EnvRep env ρ H h) {xs : List Str} {b : Addr} (hb : wrt env xs b) {o : Obj} (ho : h.get? b = some o) : ¬ CodeO o := by
  rintro ⟨vs, q, t, hd, _⟩
  rcases hb with rfl | ⟨y, _, _, hc⟩
  · obtain ⟨m, ⟨o', es, ep, ho', hd', _⟩, _⟩ := x.loc
    rw [ho] at ho'; cases ho'; rw [hd] at hd'; cases hd'
  · obtain ⟨v, o', ho', hd'⟩ := x.cells y b (mem_of_lookup hc)
    rw [ho] at ho'; cases ho'; rw [hd] at hd'; cases hd'
theorem seq_notCode {o : Obj} (h : IsSeq o) : ¬ CodeO o := fun ⟨_, _, _, e, _⟩ => by obtain ⟨vs, n, e'⟩ := h; rw [e] at e'; cases e'

/-- a frame's own objects are new upon the base -/
structure Own (B : Bs) (env : Env) (xs : List Str) : Prop where
  new : ∀ b, wrt env xs b → B.free b

inductive PAq (B : Bs) (env : Env) (st : Store) (xs : List Str) (ρ' : Str → Option V) (H : Hd) (s s' : Shared) : Prop
  | mk (h' : Heap) (tk : Nat) (e : s' = { s with heap := h', toks := tk }) (S : Sim B env ρ' st H h') (kp : ∀ b o, ¬ wrt env xs b → s.heap.get? b = some o → h'.get? b = some o)
/-- the assignment of a value to a target: names of the target, the frame afterwards -/
noncomputable def PA (B : Bs) (n : Nat) (env : Env) (st : Store) (target : Expr) (v : V) (xs : List Str) (ρ ρ' : Str → Option V) : Prop :=
  ∀ A, Rm n A → Own B env xs → ∀ E s H x, Sim B env ρ st H s.heap → Rep H s.heap x v →
    wpAny (model B.prog B.w) A (assign target env x) (fun _ s' => PAq B env st xs ρ' H s s') E s

theorem sim_storeLocal {B : Bs} {env : Env} {ρ : Str → Option V} {st : Store} {H : Hd} {h h' : Heap} {x : Str} {y : Value} {v : V} {m : Str → Option Value} {xs : List Str} (S : Sim B env ρ st H h) (O : Own B env xs)
    (hx : env.kindOf x = some .local) (hm : h.Ns env.locals m) (hr : ∀ x v, env.kindOf x = some .local → ρ x = some v → ∃ y, m x = some y ∧ Rep H h y v) (hn : h'.Ns env.locals (fun z => if z = x then some y else m z)) (hs : Heap.SameBut env.locals h h') (r : Rep H h y v) : Sim B env (upd ρ x v) st H h' := by
  have kp : ∀ b o, ¬ wrt env xs b → h.get? b = some o → h'.get? b = some o := fun b o hb e => hs.extBut b o (fun e' => hb (.inl e')) e
  have ks : ∀ b o, IsSeq o → h.get? b = some o → h'.get? b = some o := fun b o hq e => hs.extBut b o (fun e' => S.en.notSeq (xs := xs) (.inl e') e hq) e
  have kc : ∀ {c : Addr} {v : Option Value}, h.IsCell c v → c ≠ env.locals := fun hc e => by
    subst e
    obtain ⟨o, es, ep, ho, hd, _⟩ := hm
    obtain ⟨o', ho', hd'⟩ := hc
    rw [ho] at ho'; cases ho'; rw [hd] at hd'; cases hd'
  refine ⟨base_ne S.base kp O.new (fun b o hb e => S.en.notCode hb e), S.sto.keepSeq ks, S.en.kind, S.en.gl, S.en.bi, ⟨_, hn, fun z w hz hw => ?_⟩, fun z w hz hw => ?_, fun z c hz => ?_, S.en.has, S.en.apart⟩
  · by_cases e : z = x
    · subst e
      simp only [upd, if_true] at hw; cases hw
      exact ⟨y, by simp, r.ext (dk_seq ks)⟩
    · simp only [upd, if_neg e] at hw
      obtain ⟨y', hy', r'⟩ := hr z w hz hw
      exact ⟨y', by simp [e, hy'], r'.ext (dk_seq ks)⟩
  · have e : z ≠ x := by rintro rfl; rw [hx] at hz; rcases hz with hz | hz <;> cases hz
    simp only [upd, if_neg e] at hw
    obtain ⟨c, y', h1, h2, h3⟩ := S.en.cell z w hz hw
    exact ⟨c, y', h1, h2.sameBut hs (kc h2), h3.ext (dk_seq ks)⟩
  · obtain ⟨w, hc⟩ := S.en.cells z c hz
    exact ⟨w, hc.sameBut hs (kc hc)⟩

theorem sim_storeCell {B : Bs} {env : Env} {ρ : Str → Option V} {st : Store} {H : Hd} {h h' : Heap} {x : Str} {y : Value} {v : V} {c : Addr} {v₀ : Option Value} {xs : List Str} (S : Sim B env ρ st H h) (O : Own B env xs) (hxs : x ∈ xs)
    (hx : env.kindOf x = some .cell) (hc : env.cells.lookup x = some c) (hv₀ : h.IsCell c v₀) (hn : h'.IsCell c (some y)) (hs : Heap.SameBut c h h') (r : Rep H h y v) : Sim B env (upd ρ x v) st H h' := by
  have hw : wrt env xs c := .inr ⟨x, hxs, hx, hc⟩
  have kp : ∀ b o, ¬ wrt env xs b → h.get? b = some o → h'.get? b = some o := fun b o hb e => hs.extBut b o (fun e' => hb (e' ▸ hw)) e
  have ks : ∀ b o, IsSeq o → h.get? b = some o → h'.get? b = some o := fun b o hq e => hs.extBut b o (fun e' => S.en.notSeq (xs := xs) (e' ▸ hw) e hq) e
  refine ⟨base_ne S.base kp O.new (fun b o hb e => S.en.notCode hb e), S.sto.keepSeq ks, S.en.kind, S.en.gl, S.en.bi, ?_, fun z w hz hw => ?_, fun z c' hz => ?_, S.en.has, S.en.apart⟩
  · obtain ⟨m, hm, hr⟩ := S.en.loc
    refine ⟨m, hm.sameBut hs ?_, fun z w hz hw => ?_⟩
    · rintro rfl
      obtain ⟨o, es, ep, ho, hd, _⟩ := hm
      obtain ⟨o', ho', hd'⟩ := hv₀
      rw [ho] at ho'; cases ho'; rw [hd] at hd'; cases hd'
    · have e : z ≠ x := by rintro rfl; rw [hx] at hz; cases hz
      simp only [upd, if_neg e] at hw
      obtain ⟨y', hy', r'⟩ := hr z w hz hw
      exact ⟨y', hy', r'.ext (dk_seq ks)⟩
  · by_cases e : z = x
    · subst e
      simp only [upd, if_true] at hw; cases hw
      exact ⟨c, y, hc, hn, r.ext (dk_seq ks)⟩
    · simp only [upd, if_neg e] at hw
      obtain ⟨c', y', h1, h2, h3⟩ := S.en.cell z w hz hw
      exact ⟨c', y', h1, h2.sameBut hs (fun e' => e (name_of_addr S.en.apart (mem_of_lookup h1) (e' ▸ mem_of_lookup hc))), h3.ext (dk_seq ks)⟩
  · by_cases e : c' = c
    · subst e; exact ⟨_, hn⟩
    · obtain ⟨w, hc'⟩ := S.en.cells z c' hz
      exact ⟨w, hc'.sameBut hs e⟩

section
variable {B : Bs} {n : Nat} {env : Env} {ρ : Str → Option V} {st : Store}

/-- a store of a name -/
theorem st_name {A : Around} {E : Value → Shared → Prop} {s : Shared} {H : Hd} {x : Str} {y : Value} {v : V} {xs : List Str} {Q : Unit → Shared → Prop} (S : Sim B env ρ st H s.heap) (O : Own B env xs) (hxs : x ∈ xs)
    (hk : env.kindOf x = some .local ∨ env.kindOf x = some .cell) (r : Rep H s.heap y v)
    (h : ∀ h' tk, Sim B env (upd ρ x v) st H h' → (∀ b o, ¬ wrt env xs b → s.heap.get? b = some o → h'.get? b = some o) → Q () { s with heap := h', toks := tk }) :
    wpAny (model B.prog B.w) A (storeName env x y) Q E s := by
  rcases hk with hk | hk
  · obtain ⟨m, hm, hr⟩ := S.en.loc
    refine wpAny_storeName_local hk hm (fun h' hn hs => h h' _ (sim_storeLocal (xs := xs) S O hk hm hr hn hs r) fun b o hb e => hs.extBut b o (fun e' => hb (.inl e')) e) (by rw [S.en.kind]; rfl)
  · obtain ⟨c, hc⟩ := S.en.has x (.inl hk)
    obtain ⟨v₀, hv₀⟩ := S.en.cells x c (mem_of_lookup hc)
    refine wpAny_storeName_cell S.en.kind hk hc hv₀ fun h' hn hs => h h' _ (sim_storeCell S O hxs hk hc hv₀ hn hs r) fun b o hb e => hs.extBut b o (fun e' => hb (e' ▸ .inr ⟨x, hxs, hk, hc⟩)) e

theorem pa_name {x : Str} {pos : Pos} {v : V} {xs : List Str} (hxs : x ∈ xs) (hk : env.kindOf x = some .local ∨ env.kindOf x = some .cell) : PA B n env st (.Name x pos) v xs ρ (upd ρ x v) := fun A _ O E s H y S r =>
  wpAny_assign_Name (st_name S O hxs hk r fun h' tk S' kp => ⟨h', tk, rfl, S', kp⟩)

/-- targets in their order -/
noncomputable def PAs (B : Bs) (n : Nat) (env : Env) (st : Store) (ts : List Expr) (vs : List V) (xs : List Str) (ρ ρ' : Str → Option V) : Prop :=
  ∀ A, Rm n A → Own B env xs → ∀ E s H ys, Sim B env ρ st H s.heap → RepAll H s.heap ys vs →
    wpAny (model B.prog B.w) A (assignInOrder ((assignEach ts env).map (·.2)) ys) (fun _ s' => PAq B env st xs ρ' H s s') E s

theorem wrt_dk {H : Hd} {h h' : Heap} {xs : List Str} (S : EnvRep env ρ H h) (hk : ∀ b o, ¬ wrt env xs b → h.get? b = some o → h'.get? b = some o) : DKeep H h H h' :=
  dk_seq fun b o hq e => hk b o (fun hw => S.notSeq hw e hq) e

theorem pas_nil {xs : List Str} : PAs B n env st [] [] xs ρ ρ := fun A _ O E s H ys S r => by
  cases r; exact wpAny_assignInOrder_none ⟨s.heap, s.toks, rfl, S, fun _ _ _ e => e⟩
theorem pas_cons {t : Expr} {ts : List Expr} {v : V} {vs : List V} {xs : List Str} {ρ₁ ρ₂ : Str → Option V} (h1 : PA B n env st t v xs ρ ρ₁) (h2 : PAs B n env st ts vs xs ρ₁ ρ₂)
    (he : assignEach (t :: ts) env = (false, assign t env) :: assignEach ts env := by rfl) : PAs B n env st (t :: ts) (v :: vs) xs ρ ρ₂ := fun A hA O E s H ys S r => by
  cases r with
  | cons r1 r2 =>
    rw [he]
    refine wpAny_assignInOrder_more (wpAny_mono (h1 A hA O E s H _ S r1) (fun _ s₁ q1 => ?_) fun _ _ e => e)
    obtain ⟨h', tk, rfl, S', kp⟩ := q1
    refine wpAny_mono (h2 A hA O E _ H _ S' (r2.ext (wrt_dk S.en kp))) (fun _ s₂ q2 => ?_) fun _ _ e => e
    obtain ⟨h'', tk', rfl, S'', kp'⟩ := q2
    exact ⟨h'', tk', rfl, S'', fun b o hb e => kp' b o hb (kp b o hb e)⟩

theorem pa_tuple {ts : List Expr} {k : Nat} {pos : Pos} {vs : List V} {xs : List Str} {ρ' : Str → Option V} (h : PAs B n env st ts vs xs ρ ρ') (hn : (assignEach ts env).length = vs.length := by rfl) (hstar : (assignEach ts env).findIdx? (·.1) = none := by rfl) :
    PA B n env st (.Tuple ts k pos) (.tup vs) xs ρ ρ' := fun A hA O E s H y S r => by
  cases r with
  | tup ha ho hr =>
    refine wpAny_assign_Tuple hA.hd (isTup_of ho) (by rw [hn, hr.size]) hstar fun h' he => ?_
    have kp : ∀ b o, s.heap.get? b = some o → h'.get? b = some o := fun b o e => he b o (Nat.ne_of_lt (Heap.lt_size e)) e
    refine wpAny_mono (h A hA O E { s with heap := h' } H _ (S.keeps (.of kp)) (hr.ext (.of_full kp))) (fun _ s₁ q => ?_) fun _ _ e => e
    obtain ⟨h'', tk', rfl, S'', kp'⟩ := q
    exact ⟨h'', tk', rfl, S'', fun b o hb e => kp' b o hb (kp b o e)⟩
end
end Mine

-- part Gw5
namespace Mine

/-- an iterator that hands out the values vs one by one; X: opaque sequences of its own; wr: what it writes; fp: what it stands on -/
structure Iter (B : Bs) (n : Nat) (it : Value) (vs : List V) (Cond : Store → Prop) (Tg : Expr → Prop) (X wr fp : List Addr) (St : Hd → Nat → Heap → Prop) : Prop where
  sub : ∀ b ∈ wr, b ∈ fp
  frame : ∀ H H' i h h', St H i h → DKeep H h H' h' → (∀ b ∈ fp, ∀ o, h.get? b = some o → h'.get? b = some o) → St H' i h'
  wrObj : ∀ H i h b, St H i h → b ∈ fp → ∃ o, h.get? b = some o ∧ (b ∈ wr → b ∉ X → (∃ fs, o.data = .fields fs) ∧ ¬ CodeO o)
  xObj : ∀ H i h b, St H i h → b ∈ X → ∃ o, h.get? b = some o ∧ IsSeq o
  item : ∀ A, Rm n A → ∀ E s H st i v target (Q : Value → Shared → Prop), Cond st → Tg target → SB B st H s.heap → (∀ a ∈ X, H.has a) → St H i s.heap → vs[i]? = some v →
    (∀ x h' tk, St H (i + 1) h' → (∀ b o, b ∉ wr → s.heap.get? b = some o → h'.get? b = some o) → Rep H h' x v → Q x { s with heap := h', toks := tk }) →
    wpAny (model B.prog B.w) A (pyNext it) (fun r s₁ => ∃ x, r = some x ∧ wpAny (model B.prog B.w) A (letOwnedTupleGo target it x) (fun _ s₂ => Q x s₂) E s₁) E s
  done : ∀ A, Rm n A → ∀ E s H st (Q : Shared → Prop), Cond st → SB B st H s.heap → (∀ a ∈ X, H.has a) → St H vs.length s.heap →
    (∀ h' tk, (∀ b o, b ∉ wr → s.heap.get? b = some o → h'.get? b = some o) → Q { s with heap := h', toks := tk }) →
    wpAny (model B.prog B.w) A (pyNext it) (fun r s₁ => r = none ∧ Q s₁) E s
  self : ∀ A, Rm n A → ∀ E s H i (Q : Value → Shared → Prop), St H i s.heap → Q it s → wpAny (model B.prog B.w) A (pyIter it) Q E s

noncomputable def AnyT : Expr → Prop := fun _ => True
noncomputable def IsTupT : Expr → Prop := fun t => ∃ es k p, t = .Tuple es k p

theorem iter_list {B : Bs} {n : Nat} {I ad : Addr} {a : V} {l : List V} : Iter B n (.ref I) l (fun st => lis st a = some l) AnyT [] [I] [I]
    (fun H i h => h.IsListIter I ad i ∧ Rep H h (.ref ad) a) where
  sub := fun b hb => hb
  frame := fun H H' i h h' ⟨hi, hr⟩ dk hk => ⟨hi.at fun o e => hk I (by simp) o e, hr.ext dk⟩
  wrObj := fun H i h b ⟨hi, _⟩ hb => by
    obtain ⟨o, ho, hc, hd⟩ := hi
    cases List.mem_singleton.mp hb
    exact ⟨o, ho, fun _ _ => ⟨⟨_, hd⟩, fun ⟨vs, q, t, e1, e2⟩ => by rw [hd] at e1; cases e1; simp at e2⟩⟩
  xObj := fun H i h b _ hb => by simp at hb
  item := fun A hA E s H st i v target Q hc _ S _ ⟨hi, hr⟩ hv hQ => by
    obtain ⟨ad', vs, m, e, ho, hrs⟩ := lis_at (B := B) S.sto hr hc
    cases e
    obtain ⟨x, hx, rx⟩ := hrs.get hv
    refine wpAny_pyNext_list_item hi (isList_of ho) (by simpa using hx) fun h' hi' hs => ⟨x, rfl, letGo_listiter hi' ?_⟩
    have kp : ∀ b o, b ∉ [I] → s.heap.get? b = some o → h'.get? b = some o := fun b o hb e => hs.extBut b o (by simpa using hb) e
    have dk : DKeep H s.heap H h' := dk_seq fun b o hq e => kp b o (by
      intro hb
      cases List.mem_singleton.mp hb
      obtain ⟨o', ho', _, hd'⟩ := hi
      rw [e] at ho'; cases ho'
      obtain ⟨_, _, hq⟩ := hq
      rw [hq] at hd'; cases hd') e
    exact hQ x h' s.toks ⟨hi', hr.ext dk⟩ kp (rx.ext dk)
  done := fun A hA E s H st Q hc S _ ⟨hi, hr⟩ hQ => by
    obtain ⟨ad', vs, m, e, ho, hrs⟩ := lis_at (B := B) S.sto hr hc
    cases e
    refine wpAny_pyNext_list_end hA.hd hi (isList_of ho) (by have := hrs.size; simp [this]) fun h' hs => ⟨rfl, hQ h' s.toks fun b o hb e => hs b o (by simpa using hb) e⟩
  self := fun A hA E s H i Q ⟨hi, _⟩ hQ => wpAny_pyIter_listiter hi hQ

theorem letGo_rangeiter {prog : Program} {w : World} {A : Around} {E : Value → Shared → Prop} {target : Expr} {I : Addr} {x left step : Int} {v : Value} {Q' : Unit → Shared → Prop} {s' : Shared} (hit : IsRangeIter s'.heap I x left step) (h : Q' () s') :
    wpAny (model prog w) A (letOwnedTupleGo target (.ref I) v) Q' E s' := by
  unfold letOwnedTupleGo
  cases target <;> first
    | exact wpAny_pure h
    | (cases v <;> first
        | exact wpAny_pure h
        | (refine wpAny_bind (wpAny_load hit ?_)
           exact wpAny_pure h))

/-- the ints of a range -/
noncomputable def rng (a c : Int) (m : Nat) : List Int := (List.range m).map fun (k : Nat) => a + (k : Int) * c

theorem iter_range {B : Bs} {n : Nat} {I : Addr} {a c : Int} {m : Nat} : Iter B n (.ref I) ((rng a c m).map V.int) (fun _ => True) AnyT [] [I] [I]
    (fun H i h => IsRangeIter h I (a + (i : Int) * c) ((m : Int) - i) c) where
  sub := fun b hb => hb
  frame := fun H H' i h h' hi dk hk => hk I (by simp) _ hi
  wrObj := fun H i h b hi hb => by
    cases List.mem_singleton.mp hb
    exact ⟨_, hi, fun _ _ => ⟨⟨_, rfl⟩, fun ⟨vs, q, t, e1, e2⟩ => by cases e1; simp [rawInt] at e2⟩⟩
  xObj := fun H i h b _ hb => by simp at hb
  item := fun A hA E s H st i v target Q hc _ S _ hi hv hQ => by
    have hlt : i < m := by
      have := (List.getElem?_eq_some_iff.mp hv).1
      simpa [rng] using this
    have hv' : v = .int (a + (i : Int) * c) := by
      simp [rng, hlt] at hv; exact hv.symm
    subst hv'
    refine wpAny_pyNext_range_item hi (by omega) fun h' hi' hs => ⟨_, rfl, letGo_rangeiter hi' ?_⟩
    have kp : ∀ b o, b ∉ [I] → s.heap.get? b = some o → h'.get? b = some o := fun b o hb e => hs.extBut b o (by simpa using hb) e
    refine hQ _ h' _ ?_ kp (.int ..)
    have e1 : a + (i : Int) * c + c = a + ((i + 1 : Nat) : Int) * c := by rw [Int.natCast_succ, Int.add_mul]; omega
    have e2 : (m : Int) - (i : Int) - 1 = (m : Int) - ((i + 1 : Nat) : Int) := by omega
    rw [e1, e2] at hi'
    exact hi'
  done := fun A hA E s H st Q hc S _ hi hQ => by
    refine wpAny_pyNext_range_end hA.hd hi (by simp [rng]) fun h' hs => ⟨rfl, hQ h' s.toks fun b o hb e => hs b o (by simpa using hb) e⟩
  self := fun A hA E s H i Q hi hQ => wpAny_pyIter_rangeiter hi hQ

/-- the iterable of a for or of a comprehension, and its iterator -/
noncomputable def PI (B : Bs) (n : Nat) (env : Env) (ρ : Str → Option V) (st : Store) (e : Expr) (vs : List V) (Cond : Store → Prop) (Tg : Expr → Prop) (plain : Bool) : Prop :=
  ∀ A, Rm n A → ∀ E s H, Sim B env ρ st H s.heap →
    wpAny (model B.prog B.w) A (eval e env) (fun x s₁ => KT B s s₁ ∧ wpAny (model B.prog B.w) A (pyIter x) (fun it s₂ => KT B s s₂ ∧
      ∃ X wr fp St, Iter B n it vs Cond Tg X wr fp St ∧ Cond st ∧ (plain = true → X = []) ∧ St ⟨H.hs, X ++ H.xs⟩ 0 s₂.heap ∧ ∀ b, b ∈ fp ∨ b ∈ X → s.heap.get? b = none) E s₁) E s

section
variable {B : Bs} {n : Nat} {env : Env} {ρ : Str → Option V} {st : Store}

theorem new_none {s s' : Shared} (k : KT B s s') {a : Addr} (ha : s'.heap.objs.size ≤ a) : s.heap.get? a = none := by
  cases e : s.heap.get? a with
  | none => rfl
  | some o => obtain ⟨o', e'⟩ := (kp_get k).live _ _ e; exact absurd (Heap.lt_size e') (Nat.not_lt.mpr ha)

theorem pi_list {e : Expr} {a : V} {l : List V} (h1 : PE B n env ρ st e a) (hl : lis st a = some l) : PI B n env ρ st e l (fun st => lis st a = some l) AnyT true := fun A hA E s H S => by
  refine wpAny_mono (h1 A hA E s H S) (fun x s₁ ⟨k1, r1⟩ => ⟨k1, ?_⟩) fun _ _ e => e
  obtain ⟨ad, vs, m, rfl, ho, hr⟩ := lis_at (B := B) (S.keeps (kp_get k1)).sto r1 hl
  refine wpAny_pyIter_list (isList_of ho) ⟨kp_trans k1 (kp_push ..), [], _, _, _, iter_list (ad := ad), hl, fun _ => rfl, ⟨⟨_, Heap.get?_push_size _ rfl, rfl, rfl⟩, r1.ext (kp_dk (B := B) (kp_push s₁ _) H)⟩, fun b hb => ?_⟩
  rcases hb with hb | hb
  · cases List.mem_singleton.mp hb; exact new_none k1 (Nat.le_refl _)
  · simp at hb
end
end Mine

-- part Gw6
namespace Mine

section
variable {B : Bs} {n : Nat} {env : Env} {ρ : Str → Option V} {st : Store}

/-- the call of a class of the interpreter's by its name: what is shown of the class's call -/
theorem callT {A : Around} (hA : Rm n A) {E : Value → Shared → Prop} {s : Shared} {H : Hd} {x : Str} {np pos : Pos} {e : Expr} {es : List Expr} {T : String} {as : List V} {Q : Value → Shared → Prop} (S : Sim B env ρ st H s.heap)
    (hv : (B.mg x).or (B.mb x) = some (.type T)) (hk : env.kindOf x = some .globalImplicit) (h1 : PEs B n env ρ st (e :: es) as)
    (h2 : ∀ xs s₁, KT B s s₁ → RepAll H s₁.heap xs as → wpAny (model B.prog B.w) A (call (.type T) xs) Q E s₁) (hd : (x == ("__debug__" : Str)) = false := by kernel_rfl)
    (he : starEach (e :: es) env = (false, eval e env) :: starEach es env := by rfl) (hplain : ∀ pos, (backTo pos (starEach es env)).any (·.1) = false := by intro _; rfl) :
    wpAny (model B.prog B.w) A (eval (.Call (.Name x np) (e :: es) [] pos) env) Q E s := by
  refine wpAny_Call_ofName (ld_glob S hk hv ?_ hd)
  exact callWith_type1 (wpAny_mono (h1 A hA E s H pos S) (fun xs s₁ ⟨k1, r1⟩ => h2 xs s₁ k1 r1) fun _ _ e => e) he (hplain pos)

theorem rangeSize_one (a b : Int) : Builtin.Range.rangeSize a b 1 = ((b - a).toNat : Int) := by
  unfold Builtin.Range.rangeSize
  simp only [show (1 : Int) > 0 from by decide, if_true]
  split <;> omega

/-- a range object's iterator -/
theorem range_iter {A : Around} (hA : Rm n A) {E : Value → Shared → Prop} {s s₁ : Shared} {H : Hd} {r : Addr} {a b c : Int} {t u v : Tok} {m : Nat} (k1 : KT B s s₁) (hr : IsRange s₁.heap r a b c t u v) (hsmall : Builtin.Range.small a b c = true) (hm : Builtin.Range.rangeSize a b c = m) :
    wpAny (model B.prog B.w) A (pyIter (.ref r)) (fun it s₂ => KT B s s₂ ∧
      ∃ X wr fp St, Iter B n it ((rng a c m).map V.int) (fun _ => True) AnyT X wr fp St ∧ True ∧ (true = true → X = []) ∧ St ⟨H.hs, X ++ H.xs⟩ 0 s₂.heap ∧ ∀ b, b ∈ fp ∨ b ∈ X → s.heap.get? b = none) E s₁ := by
  refine wpAny_pyIter_range hr hsmall ⟨kp_trans k1 (kp_push ..), [], _, _, _, iter_range, trivial, fun _ => rfl, ?_, fun b hb => ?_⟩
  · show IsRangeIter _ _ _ _ _
    rw [hm]
    simpa using Heap.get?_push_size _ rfl
  · rcases hb with hb | hb
    · cases List.mem_singleton.mp hb; exact new_none k1 (Nat.le_refl _)
    · simp at hb

theorem kp_pushT (s : Shared) (o : Obj) (k : Nat) : KT B s { s with heap := s.heap.push o, toks := k } := ⟨_, _, rfl, .of fun _ _ e => Heap.get?_push_of_some _ e⟩

theorem pi_range1 {np pos : Pos} {e : Expr} {b : Int} (h1 : PE B n env ρ st e (.int b)) (hb : -(2 ^ 62) ≤ b ∧ b < 2 ^ 62)
    (hv : (B.mg "range").or (B.mb "range") = some (.type "range")) (hk : env.kindOf "range" = some .globalImplicit)
    (he : starEach [e] env = [(false, eval e env)] := by rfl) :
    PI B n env ρ st (.Call (.Name "range" np) [e] [] pos) ((rng 0 1 b.toNat).map V.int) (fun _ => True) AnyT true := fun A hA E s H S => by
  refine callT hA S hv hk (pes_cons h1 pes_nil he) (fun xs s₁ k1 r1 => ?_) (by decide) he (fun _ => rfl)
  cases r1 with
  | cons r1 r => cases r; cases r1; exact call_range_1 ⟨kp_trans k1 (kp_pushT ..), range_iter hA (kp_trans k1 (kp_pushT ..)) (Heap.get?_push_size _ rfl) (small_one (by omega) (by omega) hb.1 hb.2) (by rw [rangeSize_one]; simp)⟩
theorem pi_range2 {np pos : Pos} {e f : Expr} {a b : Int} (h1 : PE B n env ρ st e (.int a)) (h2 : PE B n env ρ st f (.int b)) (ha : -(2 ^ 62) ≤ a ∧ a < 2 ^ 62) (hb : -(2 ^ 62) ≤ b ∧ b < 2 ^ 62)
    (hv : (B.mg "range").or (B.mb "range") = some (.type "range")) (hk : env.kindOf "range" = some .globalImplicit)
    (he : starEach [e, f] env = [(false, eval e env), (false, eval f env)] := by rfl) (he' : starEach [f] env = [(false, eval f env)] := by rfl) :
    PI B n env ρ st (.Call (.Name "range" np) [e, f] [] pos) ((rng a 1 (b - a).toNat).map V.int) (fun _ => True) AnyT true := fun A hA E s H S => by
  refine callT hA S hv hk (pes_cons h1 (pes_cons h2 pes_nil he') (by rw [he, he'])) (fun xs s₁ k1 r1 => ?_) (by decide) (by rw [he, he']) (fun _ => by rw [he']; rfl)
  cases r1 with
  | cons r1 r => cases r with | cons r2 r => cases r; cases r1; cases r2; exact call_range_2 ⟨kp_trans k1 (kp_pushT ..), range_iter hA (kp_trans k1 (kp_pushT ..)) (Heap.get?_push_size _ rfl) (small_one ha.1 ha.2 hb.1 hb.2) (by rw [rangeSize_one])⟩

noncomputable def zipV (l m : List V) : List V := List.zipWith (fun a b => V.tup [a, b]) l m

inductive ZS (z TI TO i1 i2 l1 l2 : Addr) (a1 a2 : V) (H : Hd) (i : Nat) (h : Heap) : Prop
  | mk (c1 : IsZip h z TI TO .none) (c2 : IsPair h TI (.ref i1) (.ref i2)) (x y : Value) (c3 : IsPair h TO x y) (c4 : h.IsListIter i1 l1 i) (c5 : h.IsListIter i2 l2 i) (c6 : Rep H h (.ref l1) a1) (c7 : Rep H h (.ref l2) a2)
theorem iter_zip {z TI TO i1 i2 l1 l2 : Addr} {a1 a2 : V} {l m : List V} (D : ZipApart z TI TO i1 i2 l1 l2) : Iter B n (.ref z) (zipV l m) (fun st => lis st a1 = some l ∧ lis st a2 = some m) IsTupT [TO] [z, TO, i1, i2] [z, TO, i1, i2, TI]
    (ZS z TI TO i1 i2 l1 l2 a1 a2) where
  sub := fun b hb => by simp only [List.mem_cons] at hb ⊢; rcases hb with h | h | h | h | h <;> simp_all
  frame := fun H H' i h h' ⟨c1, c2, a, b, c3, c4, c5, c6, c7⟩ dk hk => ⟨hk z (by simp) _ c1, hk TI (by simp) _ c2, a, b, hk TO (by simp) _ c3, c4.at fun o e => hk i1 (by simp) o e, c5.at fun o e => hk i2 (by simp) o e, c6.ext dk, c7.ext dk⟩
  wrObj := fun H i h b ⟨c1, c2, x, y, c3, c4, c5, c6, c7⟩ hb => by
    obtain ⟨o4, c4, _, d4⟩ := c4
    obtain ⟨o5, c5, _, d5⟩ := c5
    simp only [List.mem_cons, List.not_mem_nil, or_false] at hb
    rcases hb with rfl | rfl | rfl | rfl | rfl
    · exact ⟨_, c1, fun _ _ => ⟨⟨_, rfl⟩, fun ⟨vs, q, t, e1, e2⟩ => by cases e1; simp at e2⟩⟩
    · exact ⟨_, c3, fun _ hx => absurd (List.mem_singleton.mpr rfl) hx⟩
    · exact ⟨_, c4, fun _ _ => ⟨⟨_, d4⟩, fun ⟨vs, q, t, e1, e2⟩ => by rw [d4] at e1; cases e1; simp at e2⟩⟩
    · exact ⟨_, c5, fun _ _ => ⟨⟨_, d5⟩, fun ⟨vs, q, t, e1, e2⟩ => by rw [d5] at e1; cases e1; simp at e2⟩⟩
    · refine ⟨_, c2, fun hw hx => ?_⟩
      simp only [List.mem_cons, List.not_mem_nil, or_false] at hw
      rcases hw with e | e | e | e
      · exact absurd e D.TIz
      · exact absurd e D.TITO
      · exact absurd e D.TIi1
      · exact absurd e D.TIi2
  xObj := fun H i h b ⟨c1, c2, x, y, c3, _, _, _, _⟩ hb => by
    cases List.mem_singleton.mp hb
    exact ⟨_, c3, _, _, rfl⟩
  item := fun A hA E s H st i v target Q hc htg S hX ⟨c1, c2, x, y, c3, c4, c5, c6, c7⟩ hv hQ => by
    obtain ⟨ad1, vs1, m1, e, ho1, hr1⟩ := lis_at (B := B) S.sto c6 hc.1
    cases e
    obtain ⟨ad2, vs2, m2, e, ho2, hr2⟩ := lis_at (B := B) S.sto c7 hc.2
    cases e
    obtain ⟨es, k, p, rfl⟩ := htg
    have hv' : ∃ a b, l[i]? = some a ∧ m[i]? = some b ∧ v = .tup [a, b] := by
      rw [zipV, List.getElem?_zipWith] at hv
      cases hl : l[i]? with
      | none => rw [hl] at hv; simp at hv
      | some a =>
        cases hm : m[i]? with
        | none => rw [hl, hm] at hv; simp at hv
        | some b => rw [hl, hm] at hv; simp at hv; exact ⟨a, b, rfl, rfl, hv.symm⟩
    obtain ⟨a, b, hla, hmb, rfl⟩ := hv'
    obtain ⟨xa, hxa, ra⟩ := hr1.get hla
    obtain ⟨xb, hxb, rb⟩ := hr2.get hmb
    refine wpAny_pyNext_zip_item D c1 c2 c3 c4 c5 (isList_of ho1) (isList_of ho2) (by simpa using hxa) (by simpa using hxb) fun h' d1 d2 d3 d4 d5 d6 kp => ⟨_, rfl, ?_⟩
    refine wpAny_letOwnedTupleGo_zip d1 fun h'' g1 hs => ?_
    have kp2 : ∀ b o, b ∉ [z, TO, i1, i2] → s.heap.get? b = some o → h''.get? b = some o := fun b o hb e => by
      simp only [List.mem_cons, List.not_mem_nil, or_false, not_or] at hb
      exact hs.extBut b o hb.1 (kp b o hb.1 hb.2.1 hb.2.2.1 hb.2.2.2 e)
    have dk : DKeep H s.heap H h'' := ⟨⟨[], by simp⟩, fun _ h1 h2 => absurd h1 h2, fun b o hb hq e => kp2 b o (by
      simp only [List.mem_cons, List.not_mem_nil, or_false, not_or]
      refine ⟨?_, ?_, ?_, ?_⟩
      · rintro rfl; rw [c1] at e; cases e; obtain ⟨_, _, hq⟩ := hq; cases hq
      · rintro rfl; exact hb (hX _ (by simp))
      · rintro rfl; obtain ⟨o', ho', _, hd'⟩ := c4; rw [e] at ho'; cases ho'; obtain ⟨_, _, hq⟩ := hq; rw [hq] at hd'; cases hd'
      · rintro rfl; obtain ⟨o', ho', _, hd'⟩ := c5; rw [e] at ho'; cases ho'; obtain ⟨_, _, hq⟩ := hq; rw [hq] at hd'; cases hd') e⟩
    have hzs : s.heap.objs.size ≠ z := Nat.ne_of_gt (Heap.lt_size c1)
    refine hQ _ h'' s.toks ⟨g1, hs.extBut _ _ D.TIz (kp _ _ D.TIz D.TITO D.TIi1 D.TIi2 c2), _, _, hs.extBut _ _ D.TOz d2, d3.extBut hs.extBut D.i1z, d4.extBut hs.extBut D.i2z, c6.ext dk, c7.ext dk⟩ kp2 ?_
    exact .tup (vs := #[xa, xb]) (n := 0) (notMem_size S.sto) (hs.extBut _ _ hzs d5) (.cons (ra.ext dk) (.cons (rb.ext dk) .nil))
  done := fun A hA E s H st Q hc S hX ⟨c1, c2, x, y, c3, c4, c5, c6, c7⟩ hQ => by
    obtain ⟨ad1, vs1, m1, e, ho1, hr1⟩ := lis_at (B := B) S.sto c6 hc.1
    cases e
    obtain ⟨ad2, vs2, m2, e, ho2, hr2⟩ := lis_at (B := B) S.sto c7 hc.2
    cases e
    have e1 := hr1.size
    have e2 := hr2.size
    refine wpAny_pyNext_zip_end hA.hd D c1 c2 c3 c4 c5 (isList_of ho1) (isList_of ho2) ?_ fun h' kp => ⟨rfl, hQ h' s.toks fun b o hb e => ?_⟩
    · simp only [zipV, List.length_zipWith]
      rcases Nat.le_total l.length m.length with h | h
      · left; simp; omega
      · right; simp; omega
    · simp only [List.mem_cons, List.not_mem_nil, or_false, not_or] at hb
      exact kp b o hb.1 hb.2.1 hb.2.2.1 hb.2.2.2 e
  self := fun A hA E s H i Q ⟨c1, _, _, _, _, _, _, _, _⟩ hQ => wpAny_pyIter_zip c1 hQ

theorem pi_zip {np pos : Pos} {e f : Expr} {a b : V} {l m : List V} (h1 : PE B n env ρ st e a) (h2 : PE B n env ρ st f b) (hl : lis st a = some l) (hm : lis st b = some m)
    (hv : (B.mg "zip").or (B.mb "zip") = some (.type "zip")) (hk : env.kindOf "zip" = some .globalImplicit)
    (he : starEach [e, f] env = [(false, eval e env), (false, eval f env)] := by rfl) (he' : starEach [f] env = [(false, eval f env)] := by rfl) :
    PI B n env ρ st (.Call (.Name "zip" np) [e, f] [] pos) (zipV l m) (fun st => lis st a = some l ∧ lis st b = some m) IsTupT false := fun A hA E s H S => by
  refine callT hA S hv hk (pes_cons h1 (pes_cons h2 pes_nil he') (by rw [he, he'])) (fun xs s₁ k1 r1 => ?_) (by decide) (by rw [he, he']) (fun _ => by rw [he']; rfl)
  cases r1 with
  | cons r1 r =>
    cases r with
    | cons r2 r =>
      cases r
      have S1 := S.keeps (kp_get k1)
      obtain ⟨ad1, vs1, m1, rfl, ho1, hr1⟩ := lis_at (B := B) S1.sto r1 hl
      obtain ⟨ad2, vs2, m2, rfl, ho2, hr2⟩ := lis_at (B := B) S1.sto r2 hm
      have q1 := Nat.lt_of_lt_of_le (Heap.lt_size ho1) (Nat.le_refl _)
      have q2 := Nat.lt_of_lt_of_le (Heap.lt_size ho2) (Nat.le_refl _)
      refine call_zip_2 (isList_of ho1) (isList_of ho2) fun h' c1 c2 c3 c4 c5 c6 kp => ?_
      have k2 : KT B s₁ { s₁ with heap := h' } := kp_heap kp
      refine ⟨kp_trans k1 k2, wpAny_pyIter_zip c1 ⟨kp_trans k1 k2, [s₁.heap.objs.size + 3], _, _, _, iter_zip (z := s₁.heap.objs.size + 4) (TI := s₁.heap.objs.size + 2) (TO := s₁.heap.objs.size + 3) (i1 := s₁.heap.objs.size) (i2 := s₁.heap.objs.size + 1) (l1 := ad1) (l2 := ad2) (a1 := a) (a2 := b) ?_, ⟨hl, hm⟩, fun h => (nomatch h), ?_, fun b hb => ?_⟩⟩
      · constructor <;> first | exact Nat.ne_of_lt (by omega) | exact Nat.ne_of_gt (by omega)
      · have dk : DKeep H s₁.heap ⟨H.hs, [s₁.heap.objs.size + 3] ++ H.xs⟩ h' := ⟨⟨[], by simp⟩, fun a ha hn => by
          rcases ha with ha | ha
          · exact absurd (.inl ha) hn
          · rcases List.mem_cons.mp ha with e | ha
            · subst e
              cases e : s₁.heap.get? (s₁.heap.objs.size + 3) with
              | none => rfl
              | some o => exact absurd (Heap.lt_size e) (Nat.not_lt.mpr (by omega))
            · exact absurd (.inr ha) hn, fun b o _ _ e => kp b o e⟩
        exact ⟨c1, c2, _, _, c3, c4, c5, r1.ext dk, r2.ext dk⟩
      · refine new_none k1 ?_
        simp only [List.mem_cons, List.not_mem_nil, or_false] at hb
        rcases hb with (rfl | rfl | rfl | rfl | rfl) | rfl <;> first | exact Nat.le_refl _ | exact Nat.le_add_right _ _
end
end Mine

-- part Gw7
namespace Mine

noncomputable def nodupB : List Str → Bool
  | [] => true
  | x :: r => !r.contains x && nodupB r
noncomputable def okScope (env : Env) (scope : Scope) : Bool :=
  scope.kind == .function && nodupB (scope.names.map (·.1)) && scope.names.all (fun x => x.2 != .free || env.kindOf x.1 == some .cell || env.kindOf x.1 == some .free)

theorem nodupB_iff : ∀ {l : List Str}, nodupB l = true → l.Nodup
  | [], _ => List.nodup_nil
  | x :: r, h => by
    simp only [nodupB, Bool.and_eq_true, Bool.not_eq_eq_eq_not, Bool.not_true] at h
    refine List.nodup_cons.mpr ⟨fun hm => ?_, nodupB_iff h.2⟩
    rw [List.contains_iff_mem.mpr hm] at h; cases h.1

/-- of distinct names the lookup finds each -/
theorem lookup_of_mem : ∀ {l : List (Str × NameKind)} {x : Str} {k : NameKind}, (l.map (·.1)).Nodup → (x, k) ∈ l → l.lookup x = some k
  | (y, j) :: r, x, k, hn, hm => by
    simp only [List.map_cons, List.nodup_cons] at hn
    rcases List.mem_cons.mp hm with e | hm
    · cases e; simp [List.lookup_cons]
    · have hne : x ≠ y := fun e => hn.1 (e ▸ List.mem_map.mpr ⟨(x, k), hm, rfl⟩)
      rw [List.lookup_cons, beq_false_of_ne hne]
      exact lookup_of_mem hn.2 hm

noncomputable def closOf (env : Env) : List (Str × NameKind) → List (Str × Addr) → List (Str × Addr)
  | [], acc => acc
  | (n, k) :: r, acc => if k == .free then closOf env r ((n, (env.cells.lookup n).getD 0) :: acc) else closOf env r acc

theorem closureFor_eq {env : Env} {scope : Scope} (h : ∀ x ∈ scope.names, x.2 = .free → ∃ c, env.cells.lookup x.1 = some c) : closureFor scope env = pure (closOf env scope.names []) := by
  unfold closureFor
  have key : ∀ (l : List (Str × NameKind)) (acc : List (Str × Addr)), (∀ x ∈ l, x.2 = .free → ∃ c, env.cells.lookup x.1 = some c) →
      (forIn l acc (fun x r => if (x.2 == NameKind.free) = true then (do let a ← cellOf env x.1; pure (ForInStep.yield ((x.1, a) :: r))) else (do pure PUnit.unit; pure (ForInStep.yield r)) : Str × NameKind → List (Str × Addr) → Sem (ForInStep (List (Str × Addr))))) = pure (closOf env l acc) := by
    intro l
    induction l with
    | nil => intro acc _; rfl
    | cons x r ih =>
      intro acc hx
      obtain ⟨m, k⟩ := x
      rw [List.forIn_cons]
      by_cases hk : (k == NameKind.free) = true
      · have : k = .free := by simpa using hk
        subst this
        obtain ⟨c, hc⟩ := hx (m, .free) (by simp) rfl
        simp only [hk, if_true, closOf, hc, Option.getD_some]
        have : cellOf env m = pure c := by unfold cellOf; rw [hc]
        rw [this]
        show (forIn r ((m, c) :: acc) _ : Sem _) = _
        exact ih _ fun y hy => hx y (List.mem_cons_of_mem _ hy)
      · simp only [hk, closOf]
        exact ih _ fun y hy => hx y (List.mem_cons_of_mem _ hy)
  have := key scope.names [] h
  first
    | exact this
    | (simp only [bind_pure_comp] at this ⊢; simpa using this)
    | simpa using this

theorem closOf_app (env : Env) : ∀ (l : List (Str × NameKind)) (acc : List (Str × Addr)), closOf env l acc = closOf env l [] ++ acc
  | [], acc => rfl
  | (m, k) :: r, acc => by
    unfold closOf
    split
    · rw [closOf_app env r (_ :: acc), closOf_app env r [_], List.append_assoc]; rfl
    · exact closOf_app env r acc

theorem closOf_mem {env : Env} : ∀ {l : List (Str × NameKind)} {x : Str} {c : Addr}, (x, c) ∈ closOf env l [] → (x, NameKind.free) ∈ l ∧ c = (env.cells.lookup x).getD 0
  | (m, k) :: r, x, c, h => by
    unfold closOf at h
    split at h
    · rename_i hk
      have : k = .free := by simpa using hk
      subst this
      rw [closOf_app] at h
      rcases List.mem_append.mp h with h | h
      · exact ⟨List.mem_cons_of_mem _ (closOf_mem h).1, (closOf_mem h).2⟩
      · cases List.mem_singleton.mp h; exact ⟨List.mem_cons_self, rfl⟩
    · exact ⟨List.mem_cons_of_mem _ (closOf_mem h).1, (closOf_mem h).2⟩

theorem closOf_lookup {env : Env} : ∀ {l : List (Str × NameKind)} {x : Str}, (l.map (·.1)).Nodup → (x, NameKind.free) ∈ l → (closOf env l []).lookup x = some ((env.cells.lookup x).getD 0)
  | (m, k) :: r, x, hn, h => by
    simp only [List.map_cons, List.nodup_cons] at hn
    unfold closOf
    rcases List.mem_cons.mp h with e | h
    · obtain ⟨e1, e2⟩ := Prod.mk.inj e
      subst e1; subst e2
      simp only [beq_self_eq_true, if_true]
      rw [closOf_app, List.lookup_append]
      have : (closOf env r []).lookup x = none := by
        cases hq : (closOf env r []).lookup x with
        | none => rfl
        | some c => exact absurd (List.mem_map.mpr ⟨(x, .free), (closOf_mem (mem_of_lookup hq)).1, rfl⟩) hn.1
      rw [this]; simp [List.lookup_cons]
    · split
      · rw [closOf_app, List.lookup_append, closOf_lookup hn.2 h]; rfl
      · exact closOf_lookup hn.2 h

theorem cellsFrom_app : ∀ (m : Nat) (l : List (Str × NameKind)) (acc : List (Str × Addr)), cellsFrom m l acc = cellsFrom m l [] ++ acc
  | m, [], acc => rfl
  | m, (x, k) :: r, acc => by
    unfold cellsFrom
    split
    · rw [cellsFrom_app (m + 1) r (_ :: acc), cellsFrom_app (m + 1) r [_], List.append_assoc]; rfl
    · exact cellsFrom_app m r acc
theorem cellsFrom_mem : ∀ {m : Nat} {l : List (Str × NameKind)} {x : Str} {c : Addr}, (x, c) ∈ cellsFrom m l [] → (x, NameKind.cell) ∈ l
  | m, (y, k) :: r, x, c, h => by
    unfold cellsFrom at h
    split at h
    · rename_i hk
      have : k = .cell := by simpa using hk
      subst this
      rw [cellsFrom_app] at h
      rcases List.mem_append.mp h with h | h
      · exact List.mem_cons_of_mem _ (cellsFrom_mem h)
      · cases List.mem_singleton.mp h; exact List.mem_cons_self
    · exact List.mem_cons_of_mem _ (cellsFrom_mem h)
theorem cellsFrom_has : ∀ {m : Nat} {l : List (Str × NameKind)} {x : Str}, (x, NameKind.cell) ∈ l → ∃ c, (cellsFrom m l []).lookup x = some c
  | m, (y, k) :: r, x, h => by
    unfold cellsFrom
    rcases List.mem_cons.mp h with e | h
    · obtain ⟨e1, e2⟩ := Prod.mk.inj e
      subst e1; subst e2
      simp only [beq_self_eq_true, if_true]
      rw [cellsFrom_app, List.lookup_append]
      cases hq : (cellsFrom (m + 1) r []).lookup x with
      | none => exact ⟨m, by simp [List.lookup_cons]⟩
      | some c => exact ⟨c, rfl⟩
    · split
      · obtain ⟨c, hc⟩ := cellsFrom_has (m := m + 1) h
        rw [cellsFrom_app, List.lookup_append, hc]; exact ⟨c, rfl⟩
      · exact cellsFrom_has h

/-- the names that a comprehension sees of the frame around it -/
noncomputable def restr (scope : Scope) (ρ : Str → Option V) : Str → Option V := fun x => if scope.names.lookup x = some .free then ρ x else none

/-- a comprehension's frame -/
noncomputable def cEnv (scope : Scope) (C : Addr) (env : Env) : Env :=
  { scope := relabel scope env, locals := C, globals := env.globals, cells := cellsFrom (C + 1) scope.names (closOf env scope.names []), qual := env.qual, func := none, code := env.code, frame := env.frame, builtins := env.builtins }

theorem relabel_lookup {scope : Scope} {env : Env} : ∀ {x : Str} {k : NameKind}, (relabel scope env).names.lookup x = some k → k ≠ .cell → scope.names.lookup x = some k := by
  unfold relabel
  generalize scope.names = l
  intro x k
  induction l with
  | nil => intro h; simp at h
  | cons y r ih =>
    obtain ⟨m, j⟩ := y
    intro h hk
    by_cases hx : (x == m) = true
    · rw [List.map_cons, List.lookup_cons] at h
      rw [List.lookup_cons, hx]
      by_cases hc : (j == NameKind.free && env.scope.kind == .function && env.kindOf m == some .cell) = true
      · simp only [hc, if_true, hx] at h; cases h; exact absurd rfl hk
      · simp only [hc, Bool.false_eq_true, if_false, hx] at h; simpa using h
    · have hx' : (x == m) = false := by simpa using hx
      rw [List.lookup_cons, hx']
      refine ih ?_ hk
      rw [List.map_cons, List.lookup_cons] at h
      by_cases hc : (j == NameKind.free && env.scope.kind == .function && env.kindOf m == some .cell) = true
      · simp only [hc, if_true, hx'] at h; exact h
      · simp only [hc, Bool.false_eq_true, if_false, hx'] at h; exact h
theorem relabel_cell {scope : Scope} {env : Env} : ∀ {x : Str}, (relabel scope env).names.lookup x = some .cell → scope.names.lookup x = some .cell ∨ scope.names.lookup x = some .free := by
  unfold relabel
  generalize scope.names = l
  intro x
  induction l with
  | nil => intro h; simp at h
  | cons y r ih =>
    obtain ⟨m, j⟩ := y
    intro h
    by_cases hx : (x == m) = true
    · rw [List.map_cons, List.lookup_cons] at h
      simp only [List.lookup_cons, hx]
      by_cases hc : (j == NameKind.free && env.scope.kind == .function && env.kindOf m == some .cell) = true
      · simp only [Bool.and_eq_true, beq_iff_eq] at hc
        right; rw [hc.1.1]
      · simp only [hc, Bool.false_eq_true, if_false, hx] at h; left; simpa using h
    · have hx' : (x == m) = false := by simpa using hx
      simp only [List.lookup_cons, hx']
      refine ih ?_
      rw [List.map_cons, List.lookup_cons] at h
      by_cases hc : (j == NameKind.free && env.scope.kind == .function && env.kindOf m == some .cell) = true
      · simp only [hc, if_true, hx'] at h; exact h
      · simp only [hc, Bool.false_eq_true, if_false, hx'] at h; exact h

theorem okScope_facts {env : Env} {scope : Scope} (h : okScope env scope = true) : scope.kind = .function ∧ (scope.names.map (·.1)).Nodup ∧ ∀ x, (x, NameKind.free) ∈ scope.names → env.kindOf x = some .cell ∨ env.kindOf x = some .free := by
  simp only [okScope, Bool.and_eq_true, beq_iff_eq, List.all_eq_true] at h
  refine ⟨h.1.1, nodupB_iff h.1.2, fun x hx => ?_⟩
  have := h.2 _ hx
  simpa using this

theorem env_comp {env : Env} {scope : Scope} {ρ : Str → Option V} {H : Hd} {h h' : Heap} {C : Addr} (E : EnvRep env ρ H h) (ok : okScope env scope = true) (hk : ∀ b o, h.get? b = some o → h'.get? b = some o) (hC : h.objs.size ≤ C)
    (hn : h'.Ns C (fun _ => none)) (hcs : CellsOk h' (C + 1) (cellsFrom (C + 1) scope.names [])) : EnvRep (cEnv scope C env) (restr scope ρ) H h' := by
  obtain ⟨f1, f2, f3⟩ := okScope_facts ok
  have E' := E.full hk
  have clo : ∀ x c, (x, c) ∈ closOf env scope.names [] → env.cells.lookup x = some c ∧ ∃ v, h.IsCell c v := fun x c hm => by
    obtain ⟨h1, h2⟩ := closOf_mem hm
    obtain ⟨c', hc'⟩ := E.has x (f3 x h1)
    rw [hc'] at h2
    have : c = c' := h2
    subst this
    exact ⟨hc', E.cells x c (mem_of_lookup hc')⟩
  have loo : ∀ x, scope.names.lookup x = some .free → (cEnv scope C env).cells.lookup x = env.cells.lookup x := fun x hx => by
    show (cellsFrom (C + 1) scope.names (closOf env scope.names [])).lookup x = _
    rw [cellsFrom_app, List.lookup_append]
    have h1 : (cellsFrom (C + 1) scope.names []).lookup x = none := by
      cases hq : (cellsFrom (C + 1) scope.names []).lookup x with
      | none => rfl
      | some c =>
        have := lookup_of_mem f2 (cellsFrom_mem (mem_of_lookup hq))
        rw [hx] at this; cases this
    rw [h1, closOf_lookup f2 (mem_of_lookup hx)]
    obtain ⟨c', hc'⟩ := E.has x (f3 x (mem_of_lookup hx))
    rw [hc']; rfl
  refine ⟨by simp [cEnv, relabel, f1], E.gl, E.bi, ⟨_, hn, fun x v hx hv => ?_⟩, fun x v hx hv => ?_, fun x c hm => ?_, fun x hx => ?_, ?_⟩
  · have : scope.names.lookup x = some .local := relabel_lookup hx (by simp)
    simp [restr, this] at hv
  · have hf : scope.names.lookup x = some .free := by
      unfold restr at hv
      split at hv
      · assumption
      · cases hv
    simp only [restr, hf, if_true] at hv
    obtain ⟨c, y, h1, h2, h3⟩ := E'.cell x v (f3 x (mem_of_lookup hf)) hv
    exact ⟨c, y, (loo x hf).trans h1, h2, h3⟩
  · have hm : (x, c) ∈ cellsFrom (C + 1) scope.names (closOf env scope.names []) := hm
    rw [cellsFrom_app] at hm
    rcases List.mem_append.mp hm with hm | hm
    · exact ⟨_, (hcs.empty x c hm).1⟩
    · obtain ⟨_, v, hv⟩ := clo x c hm
      exact ⟨v, hv.keeps hk⟩
  · have hx' : scope.names.lookup x = some .cell ∨ scope.names.lookup x = some .free := by
      rcases hx with hx | hx
      · exact relabel_cell hx
      · exact .inr (relabel_lookup hx (by simp))
    rcases hx' with hx' | hx'
    · obtain ⟨c, hc⟩ := cellsFrom_has (m := C + 1) (mem_of_lookup hx')
      refine ⟨c, ?_⟩
      show (cellsFrom (C + 1) scope.names (closOf env scope.names [])).lookup x = _
      rw [cellsFrom_app, List.lookup_append, hc]; rfl
    · obtain ⟨c, hc⟩ := E.has x (f3 x (mem_of_lookup hx'))
      exact ⟨c, (loo x hx').trans hc⟩
  · show (cellsFrom (C + 1) scope.names (closOf env scope.names [])).Pairwise _
    rw [cellsFrom_app]
    refine List.pairwise_append.mpr ⟨hcs.apart, ?_, fun x hx y hy e => ?_⟩
    · have : ∀ (l : List (Str × NameKind)) (acc : List (Str × Addr)), (l.map (·.1)).Nodup → (∀ x ∈ l, x ∈ scope.names) → acc.Pairwise (fun x y => x.2 ≠ y.2) → (∀ p ∈ acc, p.1 ∉ l.map (·.1) ∧ env.cells.lookup p.1 = some p.2) → (closOf env l acc).Pairwise (fun x y => x.2 ≠ y.2) := by
        intro l
        induction l with
        | nil => intro acc _ _ hp _; exact hp
        | cons y r ih =>
          obtain ⟨m, k⟩ := y
          intro acc hn hs hp ha
          simp only [List.map_cons, List.nodup_cons] at hn
          unfold closOf
          split
          · rename_i hk'
            have : k = .free := by simpa using hk'
            subst this
            obtain ⟨c, hc⟩ := E.has m (f3 m (hs _ List.mem_cons_self))
            rw [hc]
            refine ih _ hn.2 (fun z hz => hs z (List.mem_cons_of_mem _ hz)) (List.pairwise_cons.mpr ⟨fun z hz e => ?_, hp⟩) fun p hp' => ?_
            · obtain ⟨z1, z2⟩ := ha z hz
              have e' : c = z.2 := e
              have := name_of_addr E.apart (mem_of_lookup hc) (e' ▸ mem_of_lookup z2)
              exact z1 (by rw [← this]; simp)
            · rcases List.mem_cons.mp hp' with rfl | hp'
              · exact ⟨hn.1, hc⟩
              · exact ⟨fun hm => (ha p hp').1 (by simp [hm]), (ha p hp').2⟩
          · exact ih acc hn.2 (fun z hz => hs z (List.mem_cons_of_mem _ hz)) hp fun p hp' => ⟨fun hm => (ha p hp').1 (by simp [hm]), (ha p hp').2⟩
      exact this scope.names [] f2 (fun x hx => hx) List.Pairwise.nil fun p hp => (nomatch hp)
    · obtain ⟨_, h1⟩ := hcs.empty x.1 x.2 hx
      obtain ⟨_, v, hv⟩ := clo y.1 y.2 hy
      have := hv.lt
      exact absurd (Nat.lt_of_lt_of_le this hC) (Nat.not_lt.mpr (Nat.le_trans (Nat.le_succ C) (e ▸ h1)))
end Mine

-- part Gw8
namespace Mine

theorem turn_b (elt t0 i0 t1 i1 : Expr) (f0 f1 : List Expr) (scope : Scope) (pos : Pos) (it acc : Value) (env : Env) :
    compTurn (.ListComp elt [⟨t0, i0, f0, 0⟩, ⟨t1, i1, f1, 0⟩] scope pos) 1 it acc env = (do
      standAt i1.pos
      match ← pyNext it with
      | none => pure (.done .next)
      | some v =>
        letOwnedTupleGo t1 it v
        assign t1 env v
        let mut ok := true
        for c in f1 do
          if ok then ok ← isTrue c env (eval c env)
        if ok then
          (do let _ ← call (.builtin "list.append") [acc, ← eval elt env])
        again (.compLoop (.ListComp elt [⟨t0, i0, f0, 0⟩, ⟨t1, i1, f1, 0⟩] scope pos) 1 it acc env)) := by rfl

theorem turn_c (elt t0 i0 t1 i1 : Expr) (f0 f1 : List Expr) (scope : Scope) (pos : Pos) (it acc : Value) (env : Env) :
    compTurn (.ListComp elt [⟨t0, i0, f0, 0⟩, ⟨t1, i1, f1, 0⟩] scope pos) 0 it acc env = (do
      standAt i0.pos
      match ← pyNext it with
      | none => pure (.done .next)
      | some v =>
        letOwnedTupleGo t0 it v
        assign t0 env v
        let mut ok := true
        for c in f0 do
          if ok then ok ← isTrue c env (eval c env)
        if ok then
          let x ← eval i1 env
          standAt i1.pos
          let x ← foldedSetIterable i1 env x
          let _ ← runOwn (.compStart (.ListComp elt [⟨t0, i0, f0, 0⟩, ⟨t1, i1, f1, 0⟩] scope pos) 1 (← holding [x] (pyIter x)) acc env) env
        again (.compLoop (.ListComp elt [⟨t0, i0, f0, 0⟩, ⟨t1, i1, f1, 0⟩] scope pos) 0 it acc env)) := by rfl

/-- the list that grows -/
noncomputable def AccAt (D : Addr) (ys : List V) (H : Hd) (h : Heap) : Prop := ∃ vs n, h.get? D = some (lisObj vs n) ∧ RepAll H h vs.toList ys

/-- the tests of a comprehension's clause -/
noncomputable def PTs (B : Bs) (n : Nat) (env : Env) (ρ : Str → Option V) (st : Store) (ifs : List Expr) (b : Bool) : Prop :=
  ∀ A, Rm n A → ∀ E s H, Sim B env ρ st H s.heap →
    wpAny (model B.prog B.w) A (forIn ifs true fun c r => if r = true then do let ok ← isTrue c env (eval c env); pure (ForInStep.yield ok) else pure (ForInStep.yield r)) (fun x s' => x = b ∧ KT B s s') E s

theorem EnvRep.weaken {env : Env} {ρ ρ₀ : Str → Option V} {H : Hd} {h : Heap} (x : EnvRep env ρ H h) (hw : ∀ y v, ρ₀ y = some v → ρ y = some v) : EnvRep env ρ₀ H h :=
  ⟨x.kind, x.gl, x.bi, let ⟨m, hm, hr⟩ := x.loc; ⟨m, hm, fun y v hy hv => hr y v hy (hw y v hv)⟩, fun y v hy hv => x.cell y v hy (hw y v hv), x.cells, x.has, x.apart⟩
theorem Sim.weaken {B : Bs} {env : Env} {ρ ρ₀ : Str → Option V} {st : Store} {H : Hd} {h : Heap} (x : Sim B env ρ st H h) (hw : ∀ y v, ρ₀ y = some v → ρ y = some v) : Sim B env ρ₀ st H h := ⟨x.base, x.sto, x.en.weaken hw⟩

/-- only non-sequences and opaque things were written -/
theorem sim_wr {B : Bs} {env : Env} {ρ : Str → Option V} {st : Store} {H : Hd} {h h' : Heap} {X wr : List Addr} (S : Sim B env ρ st H h) (hX : ∀ a ∈ X, a ∈ H.xs ∧ a ∉ H.hs)
    (hwr : ∀ b ∈ wr, b ∉ X → ∃ o fs, h.get? b = some o ∧ o.data = .fields fs ∧ ¬ CodeO o) (hXl : ∀ b ∈ X, (∃ o, h.get? b = some o ∧ IsSeq o) ∧ ∃ o, h'.get? b = some o ∧ IsSeq o) (hnew : ∀ b ∈ wr, B.free b)
    (kp : ∀ b o, b ∉ wr → h.get? b = some o → h'.get? b = some o) : Sim B env ρ st H h' ∧ DKeep H h H h' := by
  have noF : ∀ b o, h.get? b = some o → b ∉ X → (∀ fs, o.data ≠ .fields fs) → b ∉ wr := fun b o ho hb hn hw => by
    obtain ⟨o', fs, ho', hd, _⟩ := hwr b hw hb
    rw [ho] at ho'; cases ho'; exact hn fs hd
  have noC : ∀ b o, b ∈ wr → h.get? b = some o → ¬ CodeO o := fun b o hw e => by
    by_cases hx : b ∈ X
    · obtain ⟨⟨o', ho', hs'⟩, _⟩ := hXl b hx; rw [e] at ho'; cases ho'; exact seq_notCode hs'
    · obtain ⟨o', fs, ho', _, hc⟩ := hwr b hw hx
      rw [e] at ho'; cases ho'; exact hc
  have seqNF : ∀ {o : Obj}, IsSeq o → ∀ fs, o.data ≠ .fields fs := fun ⟨_, _, e⟩ fs e' => by rw [e] at e'; cases e'
  have dk : DKeep H h H h' := ⟨⟨[], by simp⟩, fun _ h1 h2 => absurd h1 h2, fun b o hb hq e => kp b o (noF b o e (fun hx => hb (.inr (hX b hx).1)) (seqNF hq)) e⟩
  have notX : ∀ {b : Addr} {o : Obj}, h.get? b = some o → ¬ IsSeq o → b ∉ X := fun ho hn hx => by
    obtain ⟨⟨o', ho', hs'⟩, _⟩ := hXl _ hx
    rw [ho] at ho'; cases ho'; exact hn hs'
  have kc : ∀ {c : Addr} {v : Option Value}, h.IsCell c v → h'.IsCell c v := fun ⟨o, ho, hd⟩ => ⟨o, kp _ o (noF _ o ho (notX ho (by rintro ⟨_, _, e⟩; rw [hd] at e; cases e)) (by intro fs e; rw [hd] at e; cases e)) ho, hd⟩
  refine ⟨⟨base_ne S.base (W := (· ∈ wr)) kp hnew noC, ⟨S.sto.len, S.sto.nd, fun k a l ha hl => ?_, fun a ha => ?_, S.sto.dj⟩, S.en.kind, S.en.gl, S.en.bi, ?_, fun y v hy hv => ?_, fun y c hc => ?_, S.en.has, S.en.apart⟩, dk⟩
  · obtain ⟨vs, m, ho, hr⟩ := S.sto.at_ k a l ha hl
    exact ⟨vs, m, kp a _ (noF a _ ho (fun hx => (hX a hx).2 (List.mem_of_getElem? ha)) (seqNF (isSeq_lis ..))) ho, hr.ext dk⟩
  · obtain ⟨o, ho, hs⟩ := S.sto.live a ha
    by_cases hx : a ∈ X
    · exact (hXl a hx).2
    · exact ⟨o, kp a o (noF a o ho hx (seqNF hs)) ho, hs⟩
  · obtain ⟨m, hm, hr⟩ := S.en.loc
    refine ⟨m, hm.at' fun o e => kp _ o ?_ e, fun y v hy hv => let ⟨z, hz, r⟩ := hr y v hy hv; ⟨z, hz, r.ext dk⟩⟩
    obtain ⟨o', es, ep, ho', hd, _⟩ := hm
    rw [e] at ho'; cases ho'
    exact noF _ o e (notX e (by rintro ⟨_, _, e⟩; rw [hd] at e; cases e)) (by intro fs e; rw [hd] at e; cases e)
  · obtain ⟨c, z, h1, h2, h3⟩ := S.en.cell y v hy hv
    exact ⟨c, z, h1, kc h2, h3.ext dk⟩
  · obtain ⟨v, hv⟩ := S.en.cells y c hc
    exact ⟨v, kc hv⟩

-- fewer opaque things
mutual
theorem Rep.less {H H' : Hd} {h : Heap} (e : H'.hs = H.hs) (hx : ∀ a ∈ H'.xs, a ∈ H.xs) : ∀ {y : Value} {v : V}, Rep H h y v → Rep H' h y v
  | _, _, .none => .none
  | _, _, .bool b => .bool b
  | _, _, .int i t => .int i t
  | _, _, .str s t => .str s t
  | _, _, .tup ha ho hr => .tup (fun hm => ha (hm.elim (fun h => .inl (e ▸ h)) fun h => .inr (hx _ h))) ho (RepAll.less e hx hr)
  | _, _, .lst ha ho hr => .lst (fun hm => ha (hm.elim (fun h => .inl (e ▸ h)) fun h => .inr (hx _ h))) ho (RepAll.less e hx hr)
  | _, _, .ref hk => .ref (e ▸ hk)
  | _, _, .val y => .val y
theorem RepAll.less {H H' : Hd} {h : Heap} (e : H'.hs = H.hs) (hx : ∀ a ∈ H'.xs, a ∈ H.xs) : ∀ {ys : List Value} {vs : List V}, RepAll H h ys vs → RepAll H' h ys vs
  | _, _, .nil => .nil
  | _, _, .cons hy hr => .cons (Rep.less e hx hy) (RepAll.less e hx hr)
end

theorem Rep.dropX {H : Hd} {X : List Addr} {h : Heap} {y : Value} {v : V} (r : Rep ⟨H.hs, X ++ H.xs⟩ h y v) : Rep H h y v := Rep.less (H := ⟨H.hs, X ++ H.xs⟩) (H' := H) rfl (fun _ ha => List.mem_append_right _ ha) r
theorem RepAll.dropX {H : Hd} {X : List Addr} {h : Heap} {y : List Value} {v : List V} (r : RepAll ⟨H.hs, X ++ H.xs⟩ h y v) : RepAll H h y v := RepAll.less (H := ⟨H.hs, X ++ H.xs⟩) (H' := H) rfl (fun _ ha => List.mem_append_right _ ha) r

/-- as sim_wr, the opaque things are dropped -/
theorem sim_wr0 {B : Bs} {env : Env} {ρ : Str → Option V} {st : Store} {H : Hd} {h h' : Heap} {X wr : List Addr} (S : Sim B env ρ st ⟨H.hs, X ++ H.xs⟩ h) (hX : ∀ a ∈ X, ¬ H.has a)
    (hwr : ∀ b ∈ wr, b ∉ X → ∃ o fs, h.get? b = some o ∧ o.data = .fields fs ∧ ¬ CodeO o) (hnew : ∀ b ∈ wr, B.free b)
    (kp : ∀ b o, b ∉ wr → h.get? b = some o → h'.get? b = some o) : Sim B env ρ st H h' ∧ DKeep ⟨H.hs, X ++ H.xs⟩ h ⟨H.hs, X ++ H.xs⟩ h' := by
  have noF : ∀ b o, h.get? b = some o → b ∉ X → (∀ fs, o.data ≠ .fields fs) → b ∉ wr := fun b o ho hb hn hw => by
    obtain ⟨o', fs, ho', hd, _⟩ := hwr b hw hb
    rw [ho] at ho'; cases ho'; exact hn fs hd
  have noC : ∀ b o, b ∈ wr → h.get? b = some o → ¬ CodeO o := fun b o hw e => by
    by_cases hx : b ∈ X
    · obtain ⟨o', ho', hs'⟩ := S.sto.live _ (.inr (List.mem_append_left _ hx)); rw [e] at ho'; cases ho'; exact seq_notCode hs'
    · obtain ⟨o', fs, ho', _, hc⟩ := hwr b hw hx
      rw [e] at ho'; cases ho'; exact hc
  have seqNF : ∀ {o : Obj}, IsSeq o → ∀ fs, o.data ≠ .fields fs := fun ⟨_, _, e⟩ fs e' => by rw [e] at e'; cases e'
  have dk : DKeep ⟨H.hs, X ++ H.xs⟩ h ⟨H.hs, X ++ H.xs⟩ h' := ⟨⟨[], by simp⟩, fun _ h1 h2 => absurd h1 h2, fun b o hb hq e => kp b o (noF b o e (fun hx => hb (.inr (List.mem_append_left _ hx))) (seqNF hq)) e⟩
  have le : ∀ a ∈ H.xs, a ∈ X ++ H.xs := fun a ha => List.mem_append_right _ ha
  have notX : ∀ {b : Addr} {o : Obj}, h.get? b = some o → ¬ IsSeq o → b ∉ X := fun ho hn hx => by
    obtain ⟨o', ho', hs'⟩ := S.sto.live _ (.inr (List.mem_append_left _ hx))
    rw [ho] at ho'; cases ho'; exact hn hs'
  have kc : ∀ {c : Addr} {v : Option Value}, h.IsCell c v → h'.IsCell c v := fun ⟨o, ho, hd⟩ => ⟨o, kp _ o (noF _ o ho (notX ho (by rintro ⟨_, _, e⟩; rw [hd] at e; cases e)) (by intro fs e; rw [hd] at e; cases e)) ho, hd⟩
  refine ⟨⟨⟨fun b o e => kp b o (fun hw => (hnew b hw).no e) (S.base.keep b o e), fun a ha => S.base.new a (ha.elim .inl fun h => .inr (le a h)), tabs_ne S.base.tab (W := (· ∈ wr)) kp (fun b hb => (hnew b hb).2) noC⟩, ⟨S.sto.len, S.sto.nd, fun k a l ha hl => ?_, fun a ha => ?_, fun a ha => S.sto.dj a (le a ha)⟩, S.en.kind, S.en.gl, S.en.bi, ?_, fun y v hy hv => ?_, fun y c hc => ?_, S.en.has, S.en.apart⟩, dk⟩
  · obtain ⟨vs, m, ho, hr⟩ := S.sto.at_ k a l ha hl
    exact ⟨vs, m, kp a _ (noF a _ ho (fun hx => hX a hx (.inl (List.mem_of_getElem? ha))) (seqNF (isSeq_lis ..))) ho, (hr.ext dk).dropX⟩
  · obtain ⟨o, ho, hs⟩ := S.sto.live a (ha.elim .inl fun h => .inr (le a h))
    exact ⟨o, kp a o (noF a o ho (fun hx => hX a hx ha) (seqNF hs)) ho, hs⟩
  · obtain ⟨m, hm, hr⟩ := S.en.loc
    refine ⟨m, hm.at' fun o e => kp _ o ?_ e, fun y v hy hv => let ⟨z, hz, r⟩ := hr y v hy hv; ⟨z, hz, (r.ext dk).dropX⟩⟩
    obtain ⟨o', es, ep, ho', hd, _⟩ := hm
    rw [e] at ho'; cases ho'
    exact noF _ o e (notX e (by rintro ⟨_, _, e⟩; rw [hd] at e; cases e)) (by intro fs e; rw [hd] at e; cases e)
  · obtain ⟨c, z, h1, h2, h3⟩ := S.en.cell y v hy hv
    exact ⟨c, z, h1, kc h2, (h3.ext dk).dropX⟩
  · obtain ⟨v, hv⟩ := S.en.cells y c hc
    exact ⟨v, kc hv⟩

/-- more opaque things -/
theorem sim_more {B : Bs} {st : Store} {H : Hd} {h h' : Heap} {Y : List Addr} (S : SB B st H h) (kp : KH B h h') (hnew : ∀ a ∈ Y, h.get? a = none) (hlive : ∀ a ∈ Y, ∃ o, h'.get? a = some o ∧ IsSeq o) :
    SB B st ⟨H.hs, Y ++ H.xs⟩ h' ∧ DKeep H h ⟨H.hs, Y ++ H.xs⟩ h' := by
  have dk : DKeep H h ⟨H.hs, Y ++ H.xs⟩ h' := ⟨⟨[], by simp⟩, fun a ha hn => by
    rcases ha with ha | ha
    · exact absurd (.inl ha) hn
    · rcases List.mem_append.mp ha with ha | ha
      · exact hnew a ha
      · exact absurd (.inr ha) hn, fun b o _ hs e => kp.seq hs e⟩
  refine ⟨⟨⟨fun b o e => kp.keep b o (ex_h0 e) (S.base.keep b o e), fun a ha => ?_, kp.tab S.base.tab⟩, S.sto.len, S.sto.nd, fun k a l ha hl => ?_, fun a ha => ?_, fun a ha => ?_⟩, dk⟩
  · rcases ha with ha | ha
    · exact S.base.new a (.inl ha)
    · rcases List.mem_append.mp ha with ha | ha
      · exact S.base.free (hnew a ha)
      · exact S.base.new a (.inr ha)
  · obtain ⟨vs, m, ho, hr⟩ := S.sto.at_ k a l ha hl
    exact ⟨vs, m, kp.seq (isSeq_lis ..) ho, hr.ext dk⟩
  · rcases ha with ha | ha
    · obtain ⟨o, ho, hs⟩ := S.sto.live a (.inl ha); exact ⟨o, kp.seq hs ho, hs⟩
    · rcases List.mem_append.mp ha with ha | ha
      · exact hlive a ha
      · obtain ⟨o, ho, hs⟩ := S.sto.live a (.inr ha); exact ⟨o, kp.seq hs ho, hs⟩
  · rcases List.mem_append.mp ha with ha | ha
    · intro hm
      obtain ⟨o, ho, _⟩ := S.sto.live a (.inl hm)
      rw [hnew a ha] at ho; cases ho
    · exact S.sto.dj a ha
theorem EnvRep.ext {B : Bs} {env : Env} {ρ : Str → Option V} {H H' : Hd} {h h' : Heap} (x : EnvRep env ρ H h) (kp : KH B h h') (dk : DKeep H h H' h') : EnvRep env ρ H' h' :=
  ⟨x.kind, x.gl, x.bi, let ⟨m, hm, hr⟩ := x.loc; ⟨m, kp.ns hm, fun n v hn hv => let ⟨y, hy, r⟩ := hr n v hn hv; ⟨y, hy, r.ext dk⟩⟩,
    fun n v hn hv => let ⟨c, y, h1, h2, h3⟩ := x.cell n v hn hv; ⟨c, y, h1, kp.cell h2, h3.ext dk⟩, fun n c hn => let ⟨v, h2⟩ := x.cells n c hn; ⟨v, kp.cell h2⟩, x.has, x.apart⟩

theorem upd_lis {h : Heap} {l : Addr} {vs : Array Value} {n : Nat} (ho : h.get? l = some (lisObj vs n)) (f : Array Value → Array Value) : ∃ n', (h.update l (Obj.mapSeq f)).get? l = some (lisObj (f vs) n') :=
  ⟨_, Heap.get?_update_self _ ho rfl⟩

theorem wpAny_append_lis {prog : Program} {w : World} {A : Around} {E : Value → Shared → Prop} {s : Shared} {l : Addr} {items : Array Value} {n : Nat} {x : Value} {Q : Value → Shared → Prop} (ho : s.heap.get? l = some (lisObj items n)) (hsz : items.size ≤ sizeLine)
    (hQ : ∀ h' n', h'.get? l = some (lisObj (items.push x) n') → Heap.SameBut l s.heap h' → Q .none { s with heap := h' }) :
    wpAny (model prog w) A (call (.builtin "list.append") [.ref l, x]) Q E s := by
  refine wpAny_call_entry slot_list_append (isList_of ho).typeIs entry_list_append ?_ (args_list_append _ _)
  show wpAny _ _ (updateSeq l (·.push x) >>= fun _ => ret .none) _ _ s
  refine wpAny_bind ?_
  obtain ⟨n', hn'⟩ := upd_lis ho (·.push x)
  exact wpAny_updateSeq ho rfl (wpAny_pure ⟨.none, rfl, hQ _ n' hn' (Heap.SameBut.update ..)⟩)

/-- an opaque list was changed -/
theorem sim_acc {B : Bs} {env : Env} {ρ : Str → Option V} {st : Store} {H : Hd} {h h' : Heap} {D : Addr} {vs ws : Array Value} {n m : Nat} (S : Sim B env ρ st H h) (hD : D ∈ H.xs) (ho : h.get? D = some (lisObj vs n)) (ho' : h'.get? D = some (lisObj ws m))
    (kp : ∀ b o, b ≠ D → h.get? b = some o → h'.get? b = some o) : Sim B env ρ st H h' := by
  have dk : DKeep H h H h' := ⟨⟨[], by simp⟩, fun _ h1 h2 => absurd h1 h2, fun b o hb hq e => kp b o (fun e' => hb (e' ▸ .inr hD)) e⟩
  have ne : ∀ {b : Addr} {o : Obj}, h.get? b = some o → ¬ IsSeq o → b ≠ D := fun hb hn e => by subst e; rw [ho] at hb; cases hb; exact hn (isSeq_lis ..)
  have kc : ∀ {c : Addr} {v : Option Value}, h.IsCell c v → h'.IsCell c v := fun ⟨o, ho, hd⟩ => ⟨o, kp _ o (ne ho (by rintro ⟨_, _, e⟩; rw [hd] at e; cases e)) ho, hd⟩
  refine ⟨base_ne S.base (W := (· = D)) (fun b o hb e => kp b o hb e) (fun b hb => hb ▸ S.base.new _ (.inr hD)) (fun b o hb e => by subst hb; rw [ho] at e; cases e; exact seq_notCode (isSeq_lis ..)), ⟨S.sto.len, S.sto.nd, fun k a l ha hl => ?_, fun a ha => ?_, S.sto.dj⟩, S.en.kind, S.en.gl, S.en.bi, ?_, fun y v hy hv => ?_, fun y c hc => ?_, S.en.has, S.en.apart⟩
  · obtain ⟨us, q, ho, hr⟩ := S.sto.at_ k a l ha hl
    exact ⟨us, q, kp a _ (fun e => S.sto.dj _ hD (e ▸ List.mem_of_getElem? ha)) ho, hr.ext dk⟩
  · by_cases e : a = D
    · subst e; exact ⟨_, ho', isSeq_lis ..⟩
    · obtain ⟨o, ho, hs⟩ := S.sto.live a ha; exact ⟨o, kp a o e ho, hs⟩
  · obtain ⟨q, hm, hr⟩ := S.en.loc
    refine ⟨q, hm.at' fun o e => kp _ o ?_ e, fun y v hy hv => let ⟨z, hz, r⟩ := hr y v hy hv; ⟨z, hz, r.ext dk⟩⟩
    obtain ⟨o', es, ep, ho', hd, _⟩ := hm
    rw [e] at ho'; cases ho'
    exact ne e (by rintro ⟨_, _, e⟩; rw [hd] at e; cases e)
  · obtain ⟨c, z, h1, h2, h3⟩ := S.en.cell y v hy hv
    exact ⟨c, z, h1, kc h2, h3.ext dk⟩
  · obtain ⟨v, hv⟩ := S.en.cells y c hc
    exact ⟨v, kc hv⟩

theorem new_comp {prog : Program} {w : World} {A : Around} {E : Value → Shared → Prop} {s : Shared} {scope : Scope} {env : Env} {cl : List (Str × Addr)} {Q : Env → Shared → Prop}
    (hQ : ∀ h', h'.Ns s.heap.objs.size (fun _ => none) → CellsOk h' (s.heap.objs.size + 1) (cellsFrom (s.heap.objs.size + 1) scope.names []) → (∀ b o, s.heap.get? b = some o → h'.get? b = some o) →
      Q { scope, locals := s.heap.objs.size, globals := env.globals, cells := cellsFrom (s.heap.objs.size + 1) scope.names cl, qual := env.qual, func := none, code := env.code, frame := env.frame, builtins := env.builtins } { s with heap := h' }) :
    wpAny (model prog w) A (newFunctionEnv scope env.globals cl [] env.qual none .none (some env)) Q E s := by
  simp only [newFunctionEnv, Option.isSome_some, if_true]
  refine wpAny_bind (wpAny_alloc ?_)
  refine wpAny_bind (wpAny_layCells _ (fun name kind cells => by cases hkc : kind == NameKind.cell <;> simp [hkc]) _ _ _ _ ?_)
  have ok := cellsFrom_ok scope.names (s.heap.push { cls := .type "dict", data := .dict #[] }) (s.heap.objs.size + 1) [] ⟨fun _ _ hm => (nomatch hm), List.Pairwise.nil⟩ (by rw [Heap.size_push]; exact Nat.le_refl _)
  rw [Heap.size_push] at ok
  rw [show ({ s with heap := s.heap.push { cls := .type "dict", data := .dict #[] } } : Shared).heap.objs.size = s.heap.objs.size + 1 from Heap.size_push ..]
  refine wpAny_bind ?_
  rw [List.forIn_nil]
  refine wpAny_pure (wpAny_pure (hQ _ ((Heap.Ns.new s.heap (.type "dict")).keeps (pushCells_keeps _ _)) ok fun b o e => pushCells_keeps _ _ b o (Heap.get?_push_of_some _ e)))
end Mine

-- part Gw9
namespace Mine

inductive RGq (B : Bs) (cenv : Env) (xs : List Str) (D : Addr) (st : Store) (ρ₀ : Str → Option V) (c : Code) (Q : Hd → Heap → Prop) (H : Hd) (s : Shared) (fin : PySem.Fin) (s' : Shared) : Prop
  | mk (hf : fin = .again c) (h' : Heap) (tk : Nat) (e : s' = { s with heap := h', toks := tk }) (S : Sim B cenv ρ₀ st H h') (q : Q H h') (kp : ∀ b o, b ≠ D → ¬ wrt cenv xs b → ¬ Ex B b o → s.heap.get? b = some o → h'.get? b = some o)
/-- as CBody, the turn's rest with its `again` -/
noncomputable def RBody (B : Bs) (n : Nat) (cenv : Env) (xs : List Str) (D : Addr) (st : Store) (ρ ρ₀ : Str → Option V) (t : Sem PySem.Fin) (c : Code) (out : List V) : Prop :=
  ∀ A, Rm n A → Own B cenv xs → ∀ E s H ys, D ∈ H.xs → ¬ wrt cenv xs D → Sim B cenv ρ st H s.heap → AccAt D ys H s.heap → ys.length + out.length ≤ sizeLine →
    wpAny (model B.prog B.w) A t (RGq B cenv xs D st ρ₀ c (AccAt D (ys ++ out)) H s) E s

/-- a turn's rest, what stood of the growing list before and stands behind -/
noncomputable def RBodyG (B : Bs) (n : Nat) (cenv : Env) (xs : List Str) (D : Addr) (st : Store) (ρ ρ₀ : Str → Option V) (t : Sem PySem.Fin) (c : Code) (P Q : Hd → Heap → Prop) : Prop :=
  ∀ A, Rm n A → Own B cenv xs → ∀ E s H, D ∈ H.xs → ¬ wrt cenv xs D → Sim B cenv ρ st H s.heap → P H s.heap →
    wpAny (model B.prog B.w) A t (RGq B cenv xs D st ρ₀ c Q H s) E s

inductive CLq (B : Bs) (cenv : Env) (xs : List Str) (D : Addr) (wr : List Addr) (st : Store) (ρ₀ : Str → Option V) (HX : Hd) (N : Nat) (St : Hd → Nat → Heap → Prop) (AC : Nat → Hd → Heap → Prop) (s : Shared) (k : Nat) (s' : Shared) : Prop
  | mk (h : Heap) (tk i : Nat) (e : s' = { s with heap := h, toks := tk }) (hk : k = N + 1 - i) (hi : i ≤ N) (S : Sim B cenv ρ₀ st HX h) (hst : St HX i h) (acc : AC i HX h) (kp : ∀ b o, b ≠ D → b ∉ wr → ¬ wrt cenv xs b → ¬ Ex B b o → s.heap.get? b = some o → h.get? b = some o)
inductive CMq (B : Bs) (cenv : Env) (xs : List Str) (D : Addr) (wr : List Addr) (st : Store) (ρ₀ : Str → Option V) (HX : Hd) (i : Nat) (St : Hd → Nat → Heap → Prop) (AC : Nat → Hd → Heap → Prop) (c : Code) (s : Shared) (h : Heap) (fin : PySem.Fin) (s' : Shared) : Prop
  | mk (h₃ : Heap) (tk₃ : Nat) (hf : fin = .again c) (e : s' = { s with heap := h₃, toks := tk₃ }) (S : Sim B cenv ρ₀ st HX h₃) (hst : St HX i h₃) (acc : AC i HX h₃) (kp : ∀ b o, b ≠ D → b ∉ wr → ¬ wrt cenv xs b → ¬ Ex B b o → h.get? b = some o → h₃.get? b = some o)
section
variable {B : Bs} {n : Nat} {st : Store}

theorem AccAt.ext {D : Addr} {ys : List V} {H : Hd} {h h' : Heap} (x : AccAt D ys H h) (dk : DKeep H h H h') (hD : ∀ o, IsSeq o → h.get? D = some o → h'.get? D = some o) : AccAt D ys H h' :=
  let ⟨vs, m, ho, hr⟩ := x; ⟨vs, m, hD _ (isSeq_lis ..) ho, hr.ext dk⟩

theorem AccAt.dropX {D : Addr} {ys : List V} {X : List Addr} {H : Hd} {h : Heap} (x : AccAt D ys ⟨H.hs, X ++ H.xs⟩ h) : AccAt D ys H h :=
  let ⟨vs, m, ho, hr⟩ := x; ⟨vs, m, ho, hr.dropX⟩
theorem RBody.g {cenv : Env} {xs : List Str} {D : Addr} {ρ ρ₀ : Str → Option V} {t : Sem PySem.Fin} {c : Code} {out ys : List V} (h : RBody B n cenv xs D st ρ ρ₀ t c out) (hsz : ys.length + out.length ≤ sizeLine) : RBodyG B n cenv xs D st ρ ρ₀ t c (AccAt D ys) (AccAt D (ys ++ out)) :=
  fun A hA O E s H hD hDw S acc => h A hA O E s H ys hD hDw S acc hsz

theorem comp_loopG {A : Around} (hA : Rm n A) {R : Result → Shared → Prop} {s : Shared} {c : Code} {p : Pos} {target : Expr} {it : Value} {cenv : Env} {rest : Sem PySem.Fin} {vs : List V} {Cond : Store → Prop} {Tg : Expr → Prop} {X wr fp : List Addr} {St : Hd → Nat → Heap → Prop} {xs : List Str} {D : Addr} {H : Hd} {ρ₀ : Str → Option V} (AC : Nat → Hd → Heap → Prop) (acE : ∀ i H h h', AC i H h → DKeep H h H h' → (∀ o, IsSeq o → h.get? D = some o → h'.get? D = some o) → AC i H h') (acX : ∀ i H h, AC i ⟨H.hs, X ++ H.xs⟩ h → AC i H h)
    (hq : c.quiet = true)
    (hden : ∀ (Q : PySem.Fin → Shared → Prop) (E : Value → Shared → Prop) s, wpAny (model B.prog B.w) A ((do
      standAt p
      match ← pyNext it with
      | none => pure (.done .next)
      | some v => do
        letOwnedTupleGo target it v
        assign target cenv v
        rest : Sem PySem.Fin).onRaise (fun x => do noteFrame x cenv; theTreesLotGoes x)) Q E s → wpAny (model B.prog B.w) (A.under c) ((model B.prog B.w).den c) Q E s)
    (IT : Iter B n it vs Cond Tg X wr fp St) (hc : Cond st) (htg : Tg target)
    (turn : ∀ (i : Nat) v, vs[i]? = some v → ∃ ρ', PA B n cenv st target v xs ρ₀ ρ' ∧ RBodyG B n cenv xs D st ρ' ρ₀ rest c (AC i) (AC (i + 1)))
    (O : Own B cenv xs) (hD : D ∈ H.xs) (hDw : ¬ wrt cenv xs D) (hDfp : D ∉ fp) (hX : ∀ a ∈ X, ¬ H.has a) (hfpw : ∀ b ∈ fp, ¬ wrt cenv xs b) (hfpT : ∀ b ∈ fp, ¬ B.isT b) (hnew : ∀ b ∈ wr, B.free b)
    (S : Sim B cenv ρ₀ st ⟨H.hs, X ++ H.xs⟩ s.heap) (acc : AC 0 ⟨H.hs, X ++ H.xs⟩ s.heap) (hst : St ⟨H.hs, X ++ H.xs⟩ 0 s.heap)
    (hR : ∀ h' tk, Sim B cenv ρ₀ st H h' → AC vs.length H h' → (∀ b o, b ≠ D → b ∉ wr → ¬ wrt cenv xs b → ¬ Ex B b o → s.heap.get? b = some o → h'.get? b = some o) → R (.ok .next) { s with heap := h', toks := tk }) :
    codeAny (model B.prog B.w) A c R s := by
  refine codeAny_loop hq (CLq B cenv xs D wr st ρ₀ ⟨H.hs, X ++ H.xs⟩ vs.length St AC s) ?_ (vs.length + 1) ⟨s.heap, s.toks, 0, rfl, rfl, Nat.zero_le _, S, hst, acc, fun _ _ _ _ _ _ e => e⟩
  rintro k s' ⟨h, tk, i, rfl, rfl, hi, S', hst', acc', kp⟩
  refine hden _ _ _ (wpAny_noted (wpAny_bind (wpAny_standAt (wpAny_bind ?_))))
  have hwr : ∀ b ∈ wr, b ∉ X → ∃ o fs, h.get? b = some o ∧ o.data = .fields fs ∧ ¬ CodeO o := fun b hb hx => by
    obtain ⟨o, ho, hf⟩ := IT.wrObj _ _ _ b hst' (IT.sub b hb)
    obtain ⟨⟨fs, hfs⟩, hc⟩ := hf hb hx
    exact ⟨o, fs, ho, hfs, hc⟩
  have hDwr : D ∉ wr := fun hw => hDfp (IT.sub D hw)
  have hXH : ∀ a ∈ X, (⟨H.hs, X ++ H.xs⟩ : Hd).has a := fun a ha => .inr (List.mem_append_left _ ha)
  have le : ∀ a ∈ H.xs, a ∈ X ++ H.xs := fun a ha => List.mem_append_right _ ha
  cases hv : vs[i]? with
  | none =>
    have hlen : i = vs.length := Nat.le_antisymm hi (List.getElem?_eq_none_iff.mp hv)
    subst hlen
    refine wpAny_mono (IT.done A hA _ { s with heap := h, toks := tk } ⟨H.hs, X ++ H.xs⟩ st (fun s₁ => R (.ok .next) s₁) hc S'.sb hXH hst' fun h' tk' kp' => ?_) (fun r s₁ ⟨e, q⟩ => ?_) fun _ _ e => e
    · obtain ⟨S₁, dk⟩ := sim_wr0 S' hX hwr hnew kp'
      refine hR h' tk' S₁ ?_ fun b o hb hw ht hx e => kp' b o hw (kp b o hb hw ht hx e)
      exact acX _ _ _ (acE _ _ _ _ acc' dk fun o _ e => kp' D o hDwr e)
    · subst e; exact wpAny_pure q
  | some v =>
    have hlt : i < vs.length := (List.getElem?_eq_some_iff.mp hv).1
    obtain ⟨ρ', pa, rb⟩ := turn i v hv
    have key : ∀ (Post : PySem.Fin → Shared → Prop) (EE : Value → Shared → Prop), (∀ h₃ tk₃, Sim B cenv ρ₀ st ⟨H.hs, X ++ H.xs⟩ h₃ → St ⟨H.hs, X ++ H.xs⟩ (i + 1) h₃ → AC (i + 1) ⟨H.hs, X ++ H.xs⟩ h₃ →
        (∀ b o, b ≠ D → b ∉ wr → ¬ wrt cenv xs b → ¬ Ex B b o → h.get? b = some o → h₃.get? b = some o) → Post (.again c) { s with heap := h₃, toks := tk₃ }) →
        wpAny (model B.prog B.w) A (pyNext it) (fun r s₁ => ∃ x, r = some x ∧ wpAny (model B.prog B.w) A (letOwnedTupleGo target it x) (fun _ s₂ => wpAny (model B.prog B.w) A (assign target cenv x) (fun _ s₃ => wpAny (model B.prog B.w) A rest Post EE s₃) EE s₂) EE s₁) EE { s with heap := h, toks := tk } := by
      intro Post EE hp
      refine IT.item A hA EE { s with heap := h, toks := tk } ⟨H.hs, X ++ H.xs⟩ st i v target (fun x s₂ => wpAny (model B.prog B.w) A (assign target cenv x) (fun _ s₃ => wpAny (model B.prog B.w) A rest Post EE s₃) EE s₂) hc htg S'.sb hXH hst' hv fun x h₁ tk₁ hst₁ kp₁ r₁ => ?_
      have hXl : ∀ b ∈ X, (∃ o, h.get? b = some o ∧ IsSeq o) ∧ ∃ o, h₁.get? b = some o ∧ IsSeq o := fun b hb => ⟨IT.xObj _ _ _ b hst' hb, IT.xObj _ _ _ b hst₁ hb⟩
      obtain ⟨S₁, dk₁⟩ := sim_wr S' (X := X) (fun a ha => ⟨List.mem_append_left _ ha, fun hm => hX a ha (.inl hm)⟩) hwr hXl hnew kp₁
      have acc₁ := acE _ _ _ _ acc' dk₁ (fun o _ e => kp₁ D o hDwr e)
      refine wpAny_mono (pa A hA O _ _ _ x S₁ r₁) (fun _ s₂ q₂ => ?_) fun _ _ e => e
      obtain ⟨h₂, tk₂, rfl, S₂, kp₂⟩ := q₂
      have dk₂ := wrt_dk S₁.en kp₂
      have acc₂ := acE _ _ _ _ acc₁ dk₂ (fun o _ e => kp₂ D o hDw e)
      have hst₂ := IT.frame _ _ _ _ _ hst₁ dk₂ fun b hb o e => kp₂ b o (hfpw b hb) e
      refine wpAny_mono (rb A hA O _ _ _ (le D hD) hDw S₂ acc₂) (fun fin s₃ q₃ => ?_) fun _ _ e => e
      · obtain ⟨rfl, h₃, tk₃, rfl, S₃, acc₃, kp₃⟩ := q₃
        refine hp h₃ tk₃ S₃ ?_ ?_ fun b o hb hw ht hx e => kp₃ b o hb ht hx (kp₂ b o ht (kp₁ b o hw e))
        · refine IT.frame _ _ _ _ _ hst₂ ?_ fun b hb o e => kp₃ b o (fun e' => hDfp (e' ▸ hb)) (hfpw b hb) (fun hx => hfpT b hb hx.1) e
          exact ⟨⟨[], by simp⟩, fun _ h1 h2 => absurd h1 h2, fun b o hb hq e => kp₃ b o (fun e' => hb (e' ▸ .inr (le D hD))) (fun hw => S₂.en.notSeq hw e hq) (ex_seq hq) e⟩
        · exact acc₃
    have key2 := key (CMq B cenv xs D wr st ρ₀ ⟨H.hs, X ++ H.xs⟩ (i + 1) St AC c s h) (notedBy (model B.prog B.w) A cenv fun e s' => R (Except.error e) s') fun h₃ tk₃ S₃ hst₃ acc₃ kp₃ => ⟨h₃, tk₃, rfl, rfl, S₃, hst₃, acc₃, kp₃⟩
    refine wpAny_mono key2 (fun r s₁ hr => ?_) fun _ _ e => e
    obtain ⟨x, e, q⟩ := hr
    subst e
    refine wpAny_bind (wpAny_mono q (fun _ s₂ q₂ => wpAny_bind (wpAny_mono q₂ (fun _ s₃ q₃ => wpAny_mono q₃ (fun fin s₄ q₄ => ?_) fun _ _ e => e) fun _ _ e => e)) fun _ _ e => e)
    obtain ⟨h₃, tk₃, rfl, rfl, S₃, hst₃, acc₃, kp₃⟩ := q₄
    exact ⟨rfl, vs.length + 1 - (i + 1), by omega, h₃, tk₃, i + 1, rfl, rfl, hlt, S₃, hst₃, acc₃, fun b o hb hw ht hx e => kp₃ b o hb hw ht hx (kp b o hb hw ht hx e)⟩

/-- tests, then the element is put onto the list -/
theorem rb_emit {cenv : Env} {xs : List Str} {D : Addr} {ρ ρ₀ : Str → Option V} {ifs : List Expr} {elt : Expr} {c : Code} {p : Bool} {v : V} (h1 : PTs B n cenv ρ st ifs p) (h2 : p = true → PE B n cenv ρ st elt v) (hw : ∀ y v, ρ₀ y = some v → ρ y = some v) :
    RBody B n cenv xs D st ρ ρ₀ (do
        let mut ok := true
        for c in ifs do
          if ok then ok ← isTrue c cenv (eval c cenv)
        if ok then
          (do let _ ← call (.builtin "list.append") [.ref D, ← eval elt cenv])
        again c) c (if p then [v] else []) := fun A hA O E s H ys hD hDw S acc hsz => by
  refine wpAny_bind (wpAny_mono (h1 A hA _ s H S) (fun ok s₁ ⟨e, k1⟩ => ?_) fun _ _ e => e)
  subst e
  have S₁ := S.keeps (kp_get k1)
  have acc₁ := acc.ext (kp_dk k1 H) (fun o hs e => (kp_get k1).seq hs e)
  cases ok with
  | false =>
    obtain ⟨h', tk, rfl, kp⟩ := k1
    exact wpAny_pure ⟨rfl, h', tk, rfl, S₁.weaken hw, by simpa using acc₁, fun b o _ _ hx e => kp.keep b o hx e⟩
  | true =>
    refine wpAny_bind (wpAny_bind (wpAny_mono (h2 rfl A hA _ s₁ H S₁) (fun x s₂ ⟨k2, r2⟩ => ?_) fun _ _ e => e))
    have S₂ := S₁.keeps (kp_get k2)
    obtain ⟨vs, m, ho, hr⟩ := acc₁.ext (kp_dk k2 H) (fun o hs e => (kp_get k2).seq hs e)
    have hsize := hr.size
    have ho' : s₂.heap.IsList D vs := isList_of ho
    have hszv : vs.size ≤ sizeLine := by simp at hsz; omega
    refine wpAny_bind (wpAny_append_lis ho hszv fun h₃ m' ho₃ hs₃ => wpAny_pure (wpAny_pure ?_))
    obtain ⟨h₂, tk₂, e2, kp⟩ := kp_trans k1 k2
    subst e2
    have dk : DKeep H h₂ H h₃ := ⟨⟨[], by simp⟩, fun _ h1 h2 => absurd h1 h2, fun b o hb hq e => hs₃.extBut b o (fun e' => hb (e' ▸ .inr hD)) e⟩
    have kp3 : ∀ b o, b ≠ D → h₂.get? b = some o → h₃.get? b = some o := fun b o hb e => hs₃.extBut b o hb e
    refine ⟨rfl, h₃, tk₂, rfl, ?_, ?_, fun b o hb _ hx e => kp3 b o hb (kp.keep b o hx e)⟩
    · exact (sim_acc S₂ hD ho ho₃ kp3).weaken hw
    · exact ⟨vs.push x, m', ho₃, by simpa using (hr.append (RepAll.one r2)).ext dk⟩
end
end Mine

-- part Gw10
namespace Mine

theorem relabel_own {scope : Scope} {env : Env} {x : Str} {k : NameKind} (hx : scope.names.lookup x = some k) (hk : k ≠ .free) : (relabel scope env).names.lookup x = some k := by
  unfold relabel
  revert hx
  generalize scope.names = l
  induction l with
  | nil => intro h; simp at h
  | cons y r ih =>
    obtain ⟨m, j⟩ := y
    intro h
    by_cases hx : (x == m) = true
    · rw [List.lookup_cons, hx] at h
      cases h
      have hj : (k == NameKind.free && env.scope.kind == .function && env.kindOf m == some .cell) = false := by
        have : (k == NameKind.free) = false := by simpa using hk
        rw [this]; rfl
      rw [List.map_cons]
      simp only [hj, Bool.false_eq_true, if_false, List.lookup_cons, hx]
    · have hx' : (x == m) = false := by simpa using hx
      rw [List.lookup_cons, hx'] at h
      rw [List.map_cons]
      by_cases hc : (j == NameKind.free && env.scope.kind == .function && env.kindOf m == some .cell) = true
      · simp only [hc, if_true, List.lookup_cons, hx']; exact ih h
      · simp only [hc, Bool.false_eq_true, if_false, List.lookup_cons, hx']; exact ih h

theorem wrt_comp {scope : Scope} {env : Env} {C : Addr} {xs : List Str} (f2 : (scope.names.map (·.1)).Nodup) (hxs : ∀ x ∈ xs, scope.names.lookup x = some .local ∨ scope.names.lookup x = some .cell) {h' : Heap} (hcs : CellsOk h' (C + 1) (cellsFrom (C + 1) scope.names [])) {b : Addr}
    (hb : wrt (cEnv scope C env) xs b) : C ≤ b := by
  rcases hb with e | ⟨x, hx, hk, hc⟩
  · exact e ▸ Nat.le_refl _
  · rcases hxs x hx with h | h
    · have : (cEnv scope C env).kindOf x = some .local := relabel_own h (by simp)
      rw [hk] at this; cases this
    · have hc' : (cellsFrom (C + 1) scope.names (closOf env scope.names [])).lookup x = some b := hc
      rw [cellsFrom_app, List.lookup_append] at hc'
      obtain ⟨c, hcc⟩ := cellsFrom_has (m := C + 1) (mem_of_lookup h)
      rw [hcc] at hc'
      cases hc'
      exact Nat.le_trans (Nat.le_succ _) (hcs.empty x b (mem_of_lookup hcc)).2

section
variable {B : Bs} {n : Nat} {env : Env} {ρ : Str → Option V} {st : Store}

/-- a list comprehension up to its end -/
theorem comp_blockG {A : Around} (hA : Rm n A) {E : Value → Shared → Prop} {s : Shared} {H : Hd} {elt target iter : Expr} {ifs : List Expr} {gs : List Comprehension} {rest : Value → Addr → Env → Sem PySem.Fin} {scope : Scope} {pos : Pos} {RR : Value → Addr → Result → Shared → Prop} {vs : List V} {Cond : Store → Prop} {Tg : Expr → Prop} {pl : Bool} {xs : List Str}
    (S : Sim B env ρ st H s.heap) (hiter : PI B n env ρ st iter vs Cond Tg pl) (htg : Tg target) (ok : okScope env scope = true) (hxs : ∀ x ∈ xs, scope.names.lookup x = some .local ∨ scope.names.lookup x = some .cell) (AC : Addr → Nat → Hd → Heap → Prop)
    (acE : ∀ D i H h h', AC D i H h → DKeep H h H h' → (∀ o, IsSeq o → h.get? D = some o → h'.get? D = some o) → AC D i H h') (acX : ∀ D i X H h, AC D i ⟨H.hs, X ++ H.xs⟩ h → AC D i H h) (ac0 : ∀ D H h, h.get? D = some (lisObj #[] 0) → AC D 0 H h)
    (hrest : ∀ it D cenv, compTurn (.ListComp elt (⟨target, iter, ifs, 0⟩ :: gs) scope pos) 0 it (.ref D) cenv = (do
      standAt iter.pos
      match ← pyNext it with
      | none => pure (.done .next)
      | some v => do
        letOwnedTupleGo target it v
        assign target cenv v
        rest it D cenv))
    (hturn : ∀ (i : Nat) v, vs[i]? = some v → ∀ it D C, s.heap.get? D = none → ∃ ρ', PA B n (cEnv scope C env) st target v xs (restr scope ρ) ρ' ∧ RBodyG B n (cEnv scope C env) xs D st ρ' (restr scope ρ) (rest it D (cEnv scope C env)) (.compLoop (.ListComp elt (⟨target, iter, ifs, 0⟩ :: gs) scope pos) 0 it (.ref D) (cEnv scope C env)) (AC D i) (AC D (i + 1)))
    (hRR : ∀ D C h' tk m, (∀ b o, s.heap.get? b = some o → b < D) → s.heap.get? D = none → s.heap.get? C = none → D ≠ C → h'.Ns C m → AC D vs.length ⟨H.hs, [D] ++ H.xs⟩ h' → KH B s.heap h' → RR (.ref D) C (.ok .next) { s with heap := h', toks := tk }) :
    wpAny (model B.prog B.w) A (eval iter env) (fun xv s₁ => wpAny (model B.prog B.w) A (pyIter xv) (fun it s₂ => wpAny (model B.prog B.w) A (newList []) (fun acc s₃ => wpAny (model B.prog B.w) A (newFunctionEnv scope env.globals (closOf env scope.names []) [] env.qual none .none (some env)) (fun cenv s₄ =>
      codeAny (model B.prog B.w) A (.compStart (.ListComp elt (⟨target, iter, ifs, 0⟩ :: gs) scope pos) 0 it acc { cenv with scope := relabel scope env }) (RR acc cenv.locals) s₄) E s₃) E s₂) E s₁) E s := by
  refine wpAny_mono (hiter A hA E s H S) (fun xv s₁ ⟨k1, q1⟩ => wpAny_mono q1 (fun it s₂ q2 => ?_) fun _ _ e => e) fun _ _ e => e
  obtain ⟨k2, X, wr, fp, St, IT, hc, _, hst, hnew⟩ := q2
  obtain ⟨f1, f2, f3⟩ := okScope_facts ok
  refine wpAny_newObj_type (new_comp fun h₄ hns hcs kp4 => ?_) (Nat.zero_le _)
  have k3 := kp_push (B := B) s₂ { cls := .type "list", data := .seq ([] : List Value).toArray }
  have hszp : (s₂.heap.push { cls := .type "list", data := .seq ([] : List Value).toArray }).objs.size = s₂.heap.objs.size + 1 := Heap.size_push ..
  generalize hC : (s₂.heap.push { cls := .type "list", data := .seq ([] : List Value).toArray }).objs.size = C at hns hcs hszp ⊢
  have kp24 : ∀ b o, s₂.heap.get? b = some o → h₄.get? b = some o := fun b o e => kp4 b o (Heap.get?_push_of_some _ e)
  have kp04 : KH B s.heap h₄ := (kp_get k2).trans (.of kp24)
  have hDacc : h₄.get? s₂.heap.objs.size = some (lisObj #[] 0) := kp4 _ _ (Heap.get?_push_size _ rfl)
  have none2 : ∀ a, s₂.heap.objs.size ≤ a → s.heap.get? a = none := fun a ha => new_none k2 ha
  have lo : ∀ b o, s.heap.get? b = some o → b < s₂.heap.objs.size := fun b o e => by obtain ⟨o', e'⟩ := (kp_get k2).live b o e; exact Heap.lt_size e'
  have lt2 : ∀ b o, s₂.heap.get? b = some o → b ≠ s₂.heap.objs.size ∧ b < C := fun b o e => ⟨Nat.ne_of_lt (Heap.lt_size e), by rw [hszp]; exact Nat.lt_succ_of_lt (Heap.lt_size e)⟩
  -- the store with the iterator's opaque things and the growing list
  have live2 : ∀ b, b ∈ fp ∨ b ∈ X → ∃ o, s₂.heap.get? b = some o := fun b hb => by
    rcases hb with hb | hb
    · obtain ⟨o, ho, _⟩ := IT.wrObj _ _ _ b hst hb; exact ⟨o, ho⟩
    · obtain ⟨o, ho, _⟩ := IT.xObj _ _ _ b hst hb; exact ⟨o, ho⟩
  have dist : ∀ b, b ∈ fp ∨ b ∈ X → b ≠ s₂.heap.objs.size ∧ b < C := fun b hb => by
    obtain ⟨o, ho⟩ := live2 b hb; exact lt2 b o ho
  obtain ⟨SB1, dk1⟩ := sim_more (Y := X ++ [s₂.heap.objs.size]) S.sb kp04 (fun a ha => by
      rcases List.mem_append.mp ha with ha | ha
      · exact hnew a (.inr ha)
      · cases List.mem_singleton.mp ha; exact none2 _ (Nat.le_refl _)) (fun a ha => by
      rcases List.mem_append.mp ha with ha | ha
      · obtain ⟨o, ho, hs⟩ := IT.xObj _ _ _ a hst ha
        exact ⟨o, kp24 _ _ ho, hs⟩
      · cases List.mem_singleton.mp ha; exact ⟨_, hDacc, isSeq_lis ..⟩)
  rw [List.append_assoc] at SB1 dk1
  have E1 : EnvRep (cEnv scope C env) (restr scope ρ) ⟨H.hs, X ++ ([s₂.heap.objs.size] ++ H.xs)⟩ h₄ := by
    refine env_comp (C := C) (h := s₂.heap) (h' := h₄) (H := ⟨H.hs, X ++ ([s₂.heap.objs.size] ++ H.xs)⟩) (S.en.ext (kp_get k2) ?_) ok kp24 (by rw [hszp]; exact Nat.le_succ _) hns hcs
    exact ⟨dk1.pre, dk1.new, fun b o _ hs e => (kp_get k2).seq hs e⟩
  have hcenv : ({ scope := relabel scope env, locals := C, globals := env.globals, cells := cellsFrom (C + 1) scope.names (closOf env scope.names []), qual := env.qual, func := none, code := env.code, frame := env.frame, builtins := env.builtins } : Env) = cEnv scope C env := rfl
  have own : Own B (cEnv scope C env) xs := ⟨fun b hb => by
    have hge := wrt_comp f2 hxs hcs hb
    refine (S.keeps (kp_get k2)).base.free ?_
    cases e : s₂.heap.get? b with
    | none => rfl
    | some o => exact absurd (Nat.lt_of_lt_of_le (lt2 b o e).2 hge) (Nat.lt_irrefl _)⟩
  have hDw : ¬ wrt (cEnv scope C env) xs s₂.heap.objs.size := fun hb => by
    have hge := wrt_comp f2 hxs hcs hb
    rw [hszp] at hge
    exact Nat.not_succ_le_self _ hge
  have hst4 : St ⟨H.hs, X ++ ([s₂.heap.objs.size] ++ H.xs)⟩ 0 h₄ := by
    refine IT.frame _ _ _ _ _ hst ?_ fun b hb o e => kp24 b o e
    refine ⟨⟨[], by simp⟩, fun a ha hn => ?_, fun b o _ _ e => kp24 b o e⟩
    rcases ha with ha | ha
    · exact absurd (.inl ha) hn
    · rcases List.mem_append.mp ha with ha | ha
      · exact absurd (.inr (List.mem_append_left _ ha)) hn
      · rcases List.mem_append.mp ha with ha | ha
        · cases List.mem_singleton.mp ha
          cases e : s₂.heap.get? s₂.heap.objs.size with
          | none => rfl
          | some o => exact absurd (Heap.lt_size e) (Nat.lt_irrefl _)
        · exact absurd (.inr (List.mem_append_right _ ha)) hn
  have loop : ∀ s₄ : Shared, s₄ = { s₂ with heap := h₄ } → codeAny (model B.prog B.w) A (.compLoop (.ListComp elt (⟨target, iter, ifs, 0⟩ :: gs) scope pos) 0 it (.ref s₂.heap.objs.size) (cEnv scope C env)) (RR (.ref s₂.heap.objs.size) C) s₄ := by
    rintro s₄ rfl
    refine comp_loopG (H := ⟨H.hs, [s₂.heap.objs.size] ++ H.xs⟩) (D := s₂.heap.objs.size) (ρ₀ := restr scope ρ) (cenv := cEnv scope C env) (xs := xs) hA (AC s₂.heap.objs.size) (acE _) (fun i H h x => acX _ i X H h x) rfl (p := iter.pos) (rest := rest it s₂.heap.objs.size (cEnv scope C env)) (fun Q E s h => ?_) IT hc htg (fun i v hv => ?_) own (List.mem_append_left _ (List.mem_singleton.mpr rfl)) hDw (fun hm => (dist _ (.inl hm)).1 rfl) (fun a ha hh => ?_) (fun b hb hw => ?_) (fun b hb => ?_) (fun b hb => ?_) ⟨SB1.base, SB1.sto, E1⟩ (ac0 _ _ _ hDacc) hst4 (fun h' tk S' acc' kp' => ?_)
    · show wpAny _ A ((compTurn (.ListComp elt (⟨target, iter, ifs, 0⟩ :: gs) scope pos) 0 it (.ref s₂.heap.objs.size) (cEnv scope C env)).onRaise (fun x => do noteFrame x (cEnv scope C env); theTreesLotGoes x)) _ _ _
      rw [hrest]
      exact h
    · exact hturn i v hv it _ C (none2 _ (Nat.le_refl _))
    · have d := dist a (.inr ha)
      have n := hnew a (.inr ha)
      rcases hh with hh | hh
      · obtain ⟨o, ho, _⟩ := S.sto.live a (.inl hh); rw [n] at ho; cases ho
      · rcases List.mem_append.mp hh with hh | hh
        · exact d.1 (List.mem_singleton.mp hh)
        · obtain ⟨o, ho, _⟩ := S.sto.live a (.inr hh); rw [n] at ho; cases ho
    · exact absurd (Nat.lt_of_lt_of_le (dist b (.inl hb)).2 (wrt_comp f2 hxs hcs hw)) (Nat.lt_irrefl _)
    · exact (S.base.free (hnew b (.inl hb))).2
    · exact S.base.free (hnew b (.inl (IT.sub b hb)))
    · obtain ⟨m, hm, _⟩ := S'.en.loc
      obtain ⟨h2', tk2, e2, _⟩ := id k2
      subst e2
      refine hRR _ C h' tk m lo (none2 _ (Nat.le_refl _)) (none2 _ (by rw [hszp]; exact Nat.le_succ _)) (by rw [hszp]; exact Nat.ne_of_lt (Nat.lt_succ_self _)) hm acc' ?_
      have kk : ∀ b o, ¬ Ex B b o → s.heap.get? b = some o → h'.get? b = some o := fun b o hx e => ?_
      · refine ⟨kk, fun _ => S'.base.tab, fun b o e => ?_⟩
        by_cases hx : Ex B b o
        · obtain ⟨⟨t, ht, rfl⟩, _⟩ := hx
          obtain ⟨ps, h1, _⟩ := S'.base.tab t ht
          exact ⟨_, h1⟩
        · exact ⟨o, kk b o hx e⟩
      have e4 := kp04.keep b o hx e
      have l2 := lt2 b o ((kp_get k2).keep _ _ hx e)
      refine kp' b o l2.1 (fun hw => ?_) (fun hw => ?_) hx e4
      · rw [hnew b (.inl (IT.sub b hw))] at e; cases e
      · exact absurd (Nat.lt_of_lt_of_le l2.2 (wrt_comp f2 hxs hcs hw)) (Nat.lt_irrefl _)
  show codeAny (model B.prog B.w) A (.compStart (.ListComp elt (⟨target, iter, ifs, 0⟩ :: gs) scope pos) 0 it (.ref s₂.heap.objs.size) (cEnv scope C env)) _ _
  refine codeAny_compStart_list (loop _ rfl) (IT.self A hA _ _ ⟨H.hs, X ++ ([s₂.heap.objs.size] ++ H.xs)⟩ 0 _ hst4 (loop _ rfl))

/-- a comprehension with one clause, up to its end -/
theorem comp_block1 {A : Around} (hA : Rm n A) {E : Value → Shared → Prop} {s : Shared} {H : Hd} {elt target iter : Expr} {ifs : List Expr} {scope : Scope} {pos : Pos} {RR : Value → Addr → Result → Shared → Prop} {vs : List V} {Cond : Store → Prop} {Tg : Expr → Prop} {pl : Bool} {xs : List Str}
    (S : Sim B env ρ st H s.heap) (hiter : PI B n env ρ st iter vs Cond Tg pl) (htg : Tg target) (ok : okScope env scope = true) (hxs : ∀ x ∈ xs, scope.names.lookup x = some .local ∨ scope.names.lookup x = some .cell) (outs : List (List V)) (hlen : outs.length = vs.length)
    (hturn : ∀ (i : Nat) v out, vs[i]? = some v → outs[i]? = some out → ∀ C, ∃ ρ' p w, PA B n (cEnv scope C env) st target v xs (restr scope ρ) ρ' ∧ PTs B n (cEnv scope C env) ρ' st ifs p ∧ (p = true → PE B n (cEnv scope C env) ρ' st elt w) ∧ out = (if p then [w] else []) ∧ ∀ y u, restr scope ρ y = some u → ρ' y = some u)
    (hsz : (outs.flatten).length ≤ sizeLine)
    (hRR : ∀ D C h' tk m, s.heap.get? D = none → s.heap.get? C = none → D ≠ C → h'.Ns C m → AccAt D (outs.flatten) ⟨H.hs, [D] ++ H.xs⟩ h' → KH B s.heap h' → RR (.ref D) C (.ok .next) { s with heap := h', toks := tk }) :
    wpAny (model B.prog B.w) A (eval iter env) (fun xv s₁ => wpAny (model B.prog B.w) A (pyIter xv) (fun it s₂ => wpAny (model B.prog B.w) A (newList []) (fun acc s₃ => wpAny (model B.prog B.w) A (newFunctionEnv scope env.globals (closOf env scope.names []) [] env.qual none .none (some env)) (fun cenv s₄ =>
      codeAny (model B.prog B.w) A (.compStart (.ListComp elt [⟨target, iter, ifs, 0⟩] scope pos) 0 it acc { cenv with scope := relabel scope env }) (RR acc cenv.locals) s₄) E s₃) E s₂) E s₁) E s := by
  refine comp_blockG (RR := RR) (gs := []) (xs := xs) (rest := fun it D cenv => do
        let mut ok := true
        for c in ifs do
          if ok then ok ← isTrue c cenv (eval c cenv)
        if ok then
          (do let _ ← call (.builtin "list.append") [.ref D, ← eval elt cenv])
        again (.compLoop (.ListComp elt [⟨target, iter, ifs, 0⟩] scope pos) 0 it (.ref D) cenv)) hA S hiter htg ok hxs (fun D i H h => AccAt D ((outs.take i).flatten) H h) (fun D i H h h' x dk hD => x.ext dk hD) (fun D i X H h x => x.dropX) (fun D H h ho => ⟨#[], 0, ho, .nil⟩) (fun it D cenv => compTurn_list ..) (fun i v hv it D C hD => ?_) (fun D C h' tk m _ h1 h2 h3 h4 h5 h6 => ?_)
  · have hil : i < vs.length := (List.getElem?_eq_some_iff.mp hv).1
    have hout : outs[i]? = some (outs[i]'(hlen ▸ hil)) := List.getElem?_eq_getElem _
    generalize outs[i]'(hlen ▸ hil) = out at hout
    obtain ⟨ρ', p, w, a1, a2, a3, a4, a5⟩ := hturn i v out hv hout C
    have htake : (outs.take (i + 1)).flatten = (outs.take i).flatten ++ out := by rw [List.take_add_one, hout]; simp
    refine ⟨ρ', a1, ?_⟩
    show RBodyG B n (cEnv scope C env) xs D st ρ' (restr scope ρ) _ _ (AccAt D ((outs.take i).flatten)) (AccAt D ((outs.take (i + 1)).flatten))
    rw [htake]
    refine RBody.g (a4 ▸ rb_emit a2 a3 a5) ?_
    have e1 : (outs.flatten).length = ((outs.take (i + 1)).flatten).length + ((outs.drop (i + 1)).flatten).length := by
      rw [← List.length_append, ← List.flatten_append, List.take_append_drop]
    rw [htake, List.length_append] at e1
    omega
  · rw [← hlen, List.take_length] at h5
    exact hRR D C h' tk m h1 h2 h3 h4 h5 h6

theorem hnames_of {scope : Scope} (f2 : (scope.names.map (·.1)).Nodup) : ∀ x ∈ scope.names, x.2 = .local → scope.names.lookup x.1 = some .local := fun x hx hk => by
  obtain ⟨y, k⟩ := x
  have : k = .local := hk
  subst this
  exact lookup_of_mem f2 hx

theorem hclos_of {scope : Scope} {H : Hd} {h : Heap} (e : EnvRep env ρ H h) (ok : okScope env scope = true) : closureFor scope env = pure (closOf env scope.names []) :=
  closureFor_eq fun x hx hk => by
    obtain ⟨y, k⟩ := x
    have : k = .free := hk
    subst this
    exact e.has y ((okScope_facts ok).2.2 y hx)

theorem accAt_end {H : Hd} {s : Shared} {st : Store} {D C : Addr} {h' h'' : Heap} {m : Str → Option Value} {out : List V} (S : SimH H st s.heap) (hD : s.heap.get? D = none) (hDC : D ≠ C) (hn : h'.Ns C m) (acc : AccAt D out ⟨H.hs, [D] ++ H.xs⟩ h') (hs : Heap.SameBut C h' h'') :
    AccAt D out ⟨H.hs, [D] ++ H.xs⟩ h'' ∧ ¬ H.has D := by
  obtain ⟨vs, q, ho, hr⟩ := acc
  refine ⟨⟨vs, q, hs.extBut _ _ hDC ho, hr.ext ⟨⟨[], by simp⟩, fun _ h1 h2 => absurd h1 h2, fun b o _ hq e => hs.extBut b o (fun e' => ?_) e⟩⟩, fun hh => ?_⟩
  · subst e'
    obtain ⟨o', es, ep, ho', hd, _⟩ := hn
    rw [e] at ho'; cases ho'
    obtain ⟨_, _, hq⟩ := hq
    rw [hd] at hq; cases hq
  · obtain ⟨o, ho, _⟩ := S.live D hh
    rw [hD] at ho; cases ho

theorem pts_nil : PTs B n env ρ st [] true := fun A _ E s H _ => wpAny_tests_nil ⟨rfl, kp_refl _⟩
theorem pts_one {c : Expr} {b : Bool} (h : PT B n env ρ st c b) : PTs B n env ρ st [c] b := fun A hA E s H S => wpAny_tests_one (h A hA E s H S)

theorem flatten_if {α : Type} (p : α → Bool) (f : α → V) : ∀ as : List α, (as.map fun a => if p a then [f a] else []).flatten = (as.filter p).map f
  | [] => rfl
  | a :: as => by
    rw [List.map_cons, List.flatten_cons, flatten_if p f as]
    cases h : p a <;> simp [h]

theorem upd_weak {scope : Scope} {x : Str} {v : V} (hx : scope.names.lookup x = some .local ∨ scope.names.lookup x = some .cell) {ρ' : Str → Option V} (h : ∀ y u, restr scope ρ y = some u → ρ' y = some u) : ∀ y u, restr scope ρ y = some u → upd ρ' x v y = some u := fun y u hy => by
  unfold upd
  by_cases e : y = x
  · subst e
    unfold restr at hy
    rcases hx with hx | hx <;> simp [hx] at hy
  · rw [if_neg e]; exact h y u hy

theorem kind_comp {scope : Scope} {x : Str} {C : Addr} (hx : scope.names.lookup x = some .local ∨ scope.names.lookup x = some .cell) : (cEnv scope C env).kindOf x = some .local ∨ (cEnv scope C env).kindOf x = some .cell := by
  rcases hx with h | h
  · exact .inl (relabel_own h (by simp))
  · exact .inr (relabel_own h (by simp))

end
end Mine

-- part Gw11
namespace Mine

/-- a call's or an expression's change: the handles from m on may be written -/
structure CS (B : Bs) (m : Nat) (H : Hd) (h : Heap) (H' : Hd) (h' : Heap) : Prop where
  pre : ∃ N, H'.hs = H.hs ++ N
  xs : H'.xs = H.xs
  new : ∀ a, H'.has a → ¬ H.has a → h.get? a = none
  keep : ∀ b o, (∀ k, m ≤ k → H.hs[k]? ≠ some b) → ¬ Ex B b o → h.get? b = some o → h'.get? b = some o

noncomputable def own (env : Env) : List Addr := env.locals :: env.cells.map (·.2)

/-- a statement's change -/
structure ES (B : Bs) (env : Env) (m : Nat) (H : Hd) (h : Heap) (H' : Hd) (h' : Heap) : Prop where
  pre : ∃ N, H'.hs = H.hs ++ N
  xs : H'.xs = H.xs
  new : ∀ a, H'.has a → ¬ H.has a → h.get? a = none
  keep : ∀ b o, b ∉ own env → (∀ k, m ≤ k → H.hs[k]? ≠ some b) → ¬ Ex B b o → h.get? b = some o → h'.get? b = some o

theorem CS.refl {B : Bs} (m : Nat) (H : Hd) (h : Heap) : CS B m H h H h := ⟨⟨[], by simp⟩, rfl, fun _ a b => absurd a b, fun _ _ _ _ e => e⟩
theorem CS.of_keeps {B : Bs} {m : Nat} {H : Hd} {h h' : Heap} (kp : KH B h h') : CS B m H h H h' := ⟨⟨[], by simp⟩, rfl, fun _ a b => absurd a b, fun b o _ hx e => kp.keep b o hx e⟩
theorem tab_live {B : Bs} {h : Heap} (T : TabsOk B h) {b : Addr} {o : Obj} (hx : Ex B b o) : ∃ o', h.get? b = some o' := by obtain ⟨⟨t, ht, rfl⟩, _⟩ := hx; obtain ⟨ps, h1, _⟩ := T t ht; exact ⟨_, h1⟩
theorem CS.es {B : Bs} {env : Env} {m : Nat} {H H' : Hd} {h h' : Heap} (x : CS B m H h H' h') : ES B env m H h H' h' := ⟨x.pre, x.xs, x.new, fun b o _ hm hx e => x.keep b o hm hx e⟩
theorem CS.dk {B : Bs} {m : Nat} {H H' : Hd} {h h' : Heap} (x : CS B m H h H' h') : DKeep H h H' h' := ⟨x.pre, x.new, fun b o hb hs e => x.keep b o (fun k _ hk => hb (.inl (List.mem_of_getElem? hk))) (ex_seq hs) e⟩

theorem later {m : Nat} {H H' : Hd} {h h' : Heap} {st' : Store} (pre : ∃ N, H'.hs = H.hs ++ N) (xs : H'.xs = H.xs) (new : ∀ a, H'.has a → ¬ H.has a → h.get? a = none) (S : SimH H' st' h') {b : Addr} {o : Obj} (hm : ∀ k, m ≤ k → H.hs[k]? ≠ some b) (e : h.get? b = some o) : ∀ k, m ≤ k → H'.hs[k]? ≠ some b := fun k hk he => by
  obtain ⟨N, hN⟩ := pre
  by_cases hlt : k < H.hs.length
  · rw [hN, List.getElem?_append_left hlt] at he; exact hm k hk he
  · have hb' : b ∉ H.hs := fun hb => by
      obtain ⟨j, hj⟩ := List.getElem?_of_mem hb
      have hjl := (List.getElem?_eq_some_iff.mp hj).1
      have hj' : H'.hs[j]? = some b := by rw [hN, List.getElem?_append_left hjl]; exact hj
      have hkl := (List.getElem?_eq_some_iff.mp he).1
      have := (List.getElem?_inj hkl S.nd).mp (he.trans hj'.symm)
      omega
    have hx : b ∉ H.xs := fun hx => S.dj b (xs ▸ hx) (List.mem_of_getElem? he)
    have := new b (.inl (List.mem_of_getElem? he)) (fun hh => hh.elim hb' hx)
    rw [e] at this; cases this

theorem CS.trans {B : Bs} {m : Nat} {H H' H'' : Hd} {h h' h'' : Heap} {st' : Store} (x : CS B m H h H' h') (y : CS B m H' h' H'' h'') (S : SB B st' H' h') : CS B m H h H'' h'' := by
  refine ⟨?_, y.xs.trans x.xs, fun a ha hn => ?_, fun b o hm hx e => y.keep b o (later x.pre x.xs x.new S.sto hm e) hx (x.keep b o hm hx e)⟩
  · obtain ⟨N, e⟩ := x.pre
    obtain ⟨N', e'⟩ := y.pre
    exact ⟨N ++ N', by rw [e', e, List.append_assoc]⟩
  · by_cases h1 : H'.has a
    · exact x.new a h1 hn
    · have q := y.new a ha h1
      cases e : h.get? a with
      | none => rfl
      | some o =>
        by_cases hx : Ex B a o
        · obtain ⟨o', e'⟩ := tab_live S.base.tab hx
          rw [q] at e'; cases e'
        · have := x.keep a o (fun k _ hk => hn (.inl (List.mem_of_getElem? hk))) hx e
          rw [q] at this; cases this

theorem ES.trans {B : Bs} {env : Env} {m : Nat} {H H' H'' : Hd} {h h' h'' : Heap} {st' : Store} (x : ES B env m H h H' h') (y : ES B env m H' h' H'' h'') (S : SB B st' H' h') (lv : ∀ a ∈ own env, ∃ o, h'.get? a = some o) : ES B env m H h H'' h'' := by
  refine ⟨?_, y.xs.trans x.xs, fun a ha hn => ?_, fun b o hb hm hx e => y.keep b o hb (later x.pre x.xs x.new S.sto hm e) hx (x.keep b o hb hm hx e)⟩
  · obtain ⟨N, e⟩ := x.pre
    obtain ⟨N', e'⟩ := y.pre
    exact ⟨N ++ N', by rw [e', e, List.append_assoc]⟩
  · by_cases h1 : H'.has a
    · exact x.new a h1 hn
    · have q := y.new a ha h1
      by_cases ho : a ∈ own env
      · obtain ⟨o, e⟩ := lv a ho
        rw [q] at e; cases e
      · cases e : h.get? a with
        | none => rfl
        | some o =>
          by_cases hx : Ex B a o
          · obtain ⟨o', e'⟩ := tab_live S.base.tab hx
            rw [q] at e'; cases e'
          · have := x.keep a o ho (fun k _ hk => hn (.inl (List.mem_of_getElem? hk))) hx e
            rw [q] at this; cases this

theorem EnvRep.live {env : Env} {ρ : Str → Option V} {H : Hd} {h : Heap} (x : EnvRep env ρ H h) : ∀ a ∈ own env, ∃ o, h.get? a = some o := fun a ha => by
  rcases List.mem_cons.mp ha with rfl | ha
  · obtain ⟨m, ⟨o, _, _, ho, _⟩, _⟩ := x.loc; exact ⟨o, ho⟩
  · obtain ⟨p, hp, rfl⟩ := List.mem_map.mp ha
    obtain ⟨v, o, ho, _⟩ := x.cells p.1 p.2 hp
    exact ⟨o, ho⟩
theorem EnvRep.ownNotSeq {env : Env} {ρ : Str → Option V} {H : Hd} {h : Heap} (x : EnvRep env ρ H h) {b : Addr} (hb : b ∈ own env) {o : Obj} (ho : h.get? b = some o) : ¬ IsSeq o := by
  rintro ⟨vs, n, hd⟩
  rcases List.mem_cons.mp hb with rfl | hb
  · obtain ⟨m, ⟨o', es, ep, ho', hd', _⟩, _⟩ := x.loc
    rw [ho] at ho'; cases ho'; rw [hd] at hd'; cases hd'
  · obtain ⟨p, hp, rfl⟩ := List.mem_map.mp hb
    obtain ⟨v, o', ho', hd'⟩ := x.cells p.1 p.2 hp
    rw [ho] at ho'; cases ho'; rw [hd] at hd'; cases hd'
theorem ES.dk {B : Bs} {env : Env} {ρ : Str → Option V} {m : Nat} {H H' : Hd} {h h' : Heap} (x : ES B env m H h H' h') (e : EnvRep env ρ H h) : DKeep H h H' h' :=
  ⟨x.pre, x.new, fun b o hb hq e' => x.keep b o (fun ho => e.ownNotSeq ho e' hq) (fun k _ hk => hb (.inl (List.mem_of_getElem? hk))) (ex_seq hq) e'⟩

theorem wrt_own {env : Env} {xs : List Str} {b : Addr} (h : wrt env xs b) : b ∈ own env := by
  rcases h with rfl | ⟨x, _, _, hc⟩
  · exact List.mem_cons_self
  · exact List.mem_cons_of_mem _ (List.mem_map.mpr ⟨_, mem_of_lookup hc, rfl⟩)

/-- the frame's objects are new upon the base -/
noncomputable def OwnF (B : Bs) (env : Env) : Prop := ∀ b ∈ own env, B.free b
theorem OwnF.own {B : Bs} {env : Env} (h : OwnF B env) (xs : List Str) : Own B env xs := ⟨fun b hb => h b (wrt_own hb)⟩

inductive Fl where
  | next | brk | cont
  | ret (v : V)
inductive FlRep (H : Hd) (h : Heap) : Flow → Fl → Prop
  | next : FlRep H h .next .next
  | brk : FlRep H h .brk .brk
  | cont : FlRep H h .cont .cont
  | ret {x v} : Rep H h x v → FlRep H h (.ret x) (.ret v)

abbrev Nm := Str → Option V

inductive PMq (B : Bs) (env : Env) (m : Nat) (ρ : Nm) (Ψ : V → Store → Prop) (H : Hd) (s : Shared) (x : Value) (s' : Shared) : Prop
  | mk (v : V) (st' : Store) (H' : Hd) (h' : Heap) (tk : Nat) (e : s' = { s with heap := h', toks := tk }) (hp : Ψ v st') (S : Sim B env ρ st' H' h') (cs : CS B m H s.heap H' h') (r : Rep H' h' x v)
inductive EXq (B : Bs) (env : Env) (m : Nat) (Φ : Fl → Nm → Store → Prop) (H : Hd) (s : Shared) (f : Flow) (s' : Shared) : Prop
  | mk (fl : Fl) (ρ' : Nm) (st' : Store) (H' : Hd) (h' : Heap) (tk : Nat) (e : s' = { s with heap := h', toks := tk }) (hp : Φ fl ρ' st') (hf : FlRep H' h' f fl) (S : Sim B env ρ' st' H' h') (es : ES B env m H s.heap H' h')
/-- an expression that may make or change mutable lists -/
noncomputable def PM (B : Bs) (n : Nat) (env : Env) (m : Nat) (ρ : Nm) (st : Store) (e : Expr) (Ψ : V → Store → Prop) : Prop :=
  ∀ A, Rm n A → ∀ E s H, Sim B env ρ st H s.heap →
    wpAny (model B.prog B.w) A (eval e env) (PMq B env m ρ Ψ H s) E s

/-- a statement -/
noncomputable def EX1 (B : Bs) (n : Nat) (env : Env) (m : Nat) (ρ : Nm) (st : Store) (c : Stmt) (Φ : Fl → Nm → Store → Prop) : Prop :=
  ∀ A, Rm n A → OwnF B env → ∀ E s H, Sim B env ρ st H s.heap →
    wpAny (model B.prog B.w) A (exec c env) (EXq B env m Φ H s) E s
/-- statements -/
noncomputable def EX (B : Bs) (n : Nat) (env : Env) (m : Nat) (ρ : Nm) (st : Store) (cs : List Stmt) (Φ : Fl → Nm → Store → Prop) : Prop :=
  ∀ A, Rm n A → OwnF B env → ∀ E s H, Sim B env ρ st H s.heap →
    wpAny (model B.prog B.w) A (execs cs env) (EXq B env m Φ H s) E s

inductive XWq (B : Bs) (env : Env) (m : Nat) (I : Nm → Store → Prop) (μ : Nm → Store → Nat) (H : Hd) (s : Shared) (k : Nat) (s' : Shared) : Prop
  | mk (ρ' : Nm) (st' : Store) (H' : Hd) (h' : Heap) (tk : Nat) (e : s' = { s with heap := h', toks := tk }) (hI : I ρ' st') (hk : k = μ ρ' st') (S : Sim B env ρ' st' H' h') (es : ES B env m H s.heap H' h')
section
variable {B : Bs} {n : Nat} {env : Env} {m : Nat} {ρ : Nm} {st : Store} {Φ : Fl → Nm → Store → Prop}

theorem ES.refl (env : Env) (m : Nat) (H : Hd) (h : Heap) : ES B env m H h H h := (CS.refl m H h).es

theorem PE.pm {e : Expr} {v : V} {Ψ : V → Store → Prop} (h : PE B n env ρ st e v) (hp : Ψ v st) : PM B n env m ρ st e Ψ := fun A hA E s H S => by
  refine wpAny_mono (h A hA E s H S) (fun x s₁ ⟨k, r⟩ => ?_) fun _ _ e => e
  have S₁ := S.keeps (kp_get k)
  obtain ⟨h', tk, rfl, kp⟩ := k
  exact ⟨v, st, H, h', tk, rfl, hp, S₁, .of_keeps kp, r⟩

theorem ex_nil (h : Φ .next ρ st) : EX B n env m ρ st [] Φ := fun A hA O E s H S => wpAny_execs_nil ⟨.next, ρ, st, H, s.heap, s.toks, rfl, h, .next, S, .refl ..⟩

/-- what follows a statement -/
noncomputable def Then (B : Bs) (n : Nat) (env : Env) (m : Nat) (rest : List Stmt) (Φ : Fl → Nm → Store → Prop) : Fl → Nm → Store → Prop
  | .next, ρ, st => EX B n env m ρ st rest Φ
  | f, ρ, st => Φ f ρ st

theorem ex_cons {c : Stmt} {rest : List Stmt} (h : EX1 B n env m ρ st c (Then B n env m rest Φ)) : EX B n env m ρ st (c :: rest) Φ := fun A hA O E s H S => by
  refine wpAny_execs_cons (wpAny_mono (h A hA O E s H S) (fun f s₁ q => ?_) fun _ _ e => e)
  obtain ⟨fl, ρ', st', H', h', tk, rfl, hp, hf, S', es⟩ := q
  cases hf with
  | next =>
    refine wpAny_mono (hp A hA O E _ H' S') (fun f s₂ q => ?_) fun _ _ e => e
    obtain ⟨fl, ρ'', st'', H'', h'', tk', rfl, hp', hf', S'', es'⟩ := q
    exact ⟨fl, ρ'', st'', H'', h'', tk', rfl, hp', hf', S'', es.trans es' S'.sb S'.en.live⟩
  | brk => exact ⟨_, ρ', st', H', h', tk, rfl, hp, .brk, S', es⟩
  | cont => exact ⟨_, ρ', st', H', h', tk, rfl, hp, .cont, S', es⟩
  | ret r => exact ⟨_, ρ', st', H', h', tk, rfl, hp, .ret r, S', es⟩

theorem EX.mono {cs : List Stmt} {Φ' : Fl → Nm → Store → Prop} (h : EX B n env m ρ st cs Φ) (hp : ∀ f ρ st, Φ f ρ st → Φ' f ρ st) : EX B n env m ρ st cs Φ' := fun A hA O E s H S =>
  wpAny_mono (h A hA O E s H S) (fun f s₁ ⟨fl, ρ', st', H', h', tk, e, hq, r1, r2, r3⟩ => ⟨fl, ρ', st', H', h', tk, e, hp _ _ _ hq, r1, r2, r3⟩) fun _ _ e => e

theorem x_return {e : Expr} {pos : Pos} (h : PM B n env m ρ st e (fun v st' => Φ (.ret v) ρ st')) : EX1 B n env m ρ st (.Return (some e) pos) Φ := fun A hA O E s H S => by
  refine wpAny_Return_some (wpAny_mono (h A hA E s H S) (fun x s₁ q => ?_) fun _ _ e => e)
  obtain ⟨v, st', H', h', tk, rfl, hp, S', cs, r⟩ := q
  exact ⟨.ret v, ρ, st', H', h', tk, rfl, hp, .ret r, S', cs.es⟩
theorem x_if {t : Expr} {b o : List Stmt} {pos : Pos} {c : Bool} (h1 : PT B n env ρ st t c) (h2 : c = true → EX B n env m ρ st b Φ) (h3 : c = false → EX B n env m ρ st o Φ) : EX1 B n env m ρ st (.If t b o pos) Φ := fun A hA O E s H S => by
  refine wpAny_If (wpAny_mono (h1 A hA E s H S) (fun x s₁ ⟨e1, k1⟩ => ?_) fun _ _ e => e)
  subst e1
  have S₁ := S.keeps (kp_get k1)
  obtain ⟨h', tk, rfl, kp⟩ := k1
  have fin : ∀ cs, EX B n env m ρ st cs Φ → wpAny (model B.prog B.w) A (execs cs env) (EXq B env m Φ H s) E { s with heap := h', toks := tk } := fun cs hx =>
    wpAny_mono (hx A hA O E _ H S₁) (fun f s₂ q => by
      obtain ⟨fl, ρ'', st'', H'', h'', tk', rfl, hp', hf', S'', es'⟩ := q
      exact ⟨fl, ρ'', st'', H'', h'', tk', rfl, hp', hf', S'', (CS.of_keeps kp).es.trans es' S₁.sb S₁.en.live⟩) fun _ _ e => e
  cases x with
  | true => exact fin b (h2 rfl)
  | false => exact fin o (h3 rfl)

/-- a store of a name -/
theorem es_wrt {H : Hd} {h h' : Heap} {xs : List Str} (kp : ∀ b o, ¬ wrt env xs b → h.get? b = some o → h'.get? b = some o) : ES B env m H h H h' :=
  ⟨⟨[], by simp⟩, rfl, fun _ a b => absurd a b, fun b o hb _ _ e => kp b o (fun hw => hb (wrt_own hw)) e⟩

theorem x_assign {x : Str} {px pos : Pos} {e : Expr} (h : PM B n env m ρ st e (fun v st' => Φ .next (upd ρ x v) st')) (hk : env.kindOf x = some .local ∨ env.kindOf x = some .cell) (hs : swapsWith e (some (.Name x px)) pos.line env = pure false := by rfl) :
    EX1 B n env m ρ st (.Assign [.Name x px] e pos) Φ := fun A hA O E s H S => by
  refine wpAny_Assign_Name (wpAny_mono (h A hA E s H S) (fun y s₁ q => ?_) fun _ _ e => e) hs
  obtain ⟨v, st', H', h', tk, rfl, hp, S', cs, r⟩ := q
  exact st_name (xs := [x]) S' (O.own _) (by simp) hk r fun h'' tk' S'' kp => ⟨.next, _, st', H', h'', tk', rfl, hp, .next, S'', cs.es.trans (es_wrt kp) S'.sb S'.en.live⟩

/-- a while by an invariant and a measure -/
theorem x_while {t : Expr} {body : List Stmt} {pos : Pos} (I : Nm → Store → Prop) (μ : Nm → Store → Nat) (h0 : I ρ st)
    (turn : ∀ ρ st, I ρ st → ∃ c, PT B n env ρ st t c ∧ (c = true → EX B n env m ρ st body (fun f ρ' st' => match f with | .next | .cont => I ρ' st' ∧ μ ρ' st' < μ ρ st | .brk => Φ .next ρ' st' | .ret v => Φ (.ret v) ρ' st')) ∧ (c = false → Φ .next ρ st)) :
    EX1 B n env m ρ st (.While t body [] pos) Φ := fun A hA O E s H S => by
  refine wpAny_While (codeAny_whileLoop (XWq B env m I μ H s) ?_ (μ ρ st) ⟨ρ, st, H, s.heap, s.toks, rfl, h0, rfl, S, .refl ..⟩)
  rintro k s' ⟨ρ', st', H', h', tk, rfl, hI, rfl, S', es⟩
  obtain ⟨c, h1, h2, h3⟩ := turn ρ' st' hI
  refine wpAny_mono (h1 A hA _ _ H' S') (fun b s₁ ⟨e1, k1⟩ => ?_) fun _ _ e => e
  subst e1
  have S₁ := S'.keeps (kp_get k1)
  obtain ⟨h₁, tk₁, rfl, kp⟩ := k1
  have es₁ := es.trans ((CS.of_keeps kp).es) S'.sb S'.en.live
  cases b with
  | false => exact wpAny_execs_nil ⟨.next, ρ', st', H', h₁, tk₁, rfl, h3 rfl, .next, S₁, es₁⟩
  | true =>
    refine wpAny_mono (h2 rfl A hA O _ _ H' S₁) (fun f s₂ q => ?_) fun _ _ e => e
    obtain ⟨fl, ρ'', st'', H'', h'', tk', rfl, hp', hf', S'', es'⟩ := q
    have es₂ := es₁.trans es' S₁.sb S₁.en.live
    cases hf' with
    | next => exact ⟨_, hp'.2, ρ'', st'', H'', h'', tk', rfl, hp'.1, rfl, S'', es₂⟩
    | cont => exact ⟨_, hp'.2, ρ'', st'', H'', h'', tk', rfl, hp'.1, rfl, S'', es₂⟩
    | brk => exact ⟨.next, ρ'', st'', H'', h'', tk', rfl, hp', .next, S'', es₂⟩
    | ret r => exact ⟨_, ρ'', st'', H'', h'', tk', rfl, hp', .ret r, S'', es₂⟩
end
end Mine

-- part Gw12
namespace Mine

theorem codeAny_forT {prog : Program} {w : World} {A : Around} {s : Shared} {R : Result → Shared → Prop} {target : Expr} {it : Value} {body orelse : List Stmt} {env : Env} (I : Nat → Shared → Prop)
    (turn : ∀ n s, I n s → wpAny (model prog w) A (pyNext it) (fun r s₁ => match r with
      | none => wpAny (model prog w) A (execs orelse env) (fun f s₃ => R (.ok f) s₃) (notedBy (model prog w) A env fun e s' => R (.error e) s') s₁
      | some v => wpAny (model prog w) A (letOwnedTupleGo target it v) (fun _ s₁ => wpAny (model prog w) A (assign target env v) (fun _ s₂ => wpAny (model prog w) A (execs body env) (fun f s₃ => match f with
          | .next | .cont => ∃ m, m < n ∧ I m s₃
          | .brk => R (.ok .next) s₃
          | .ret v => R (.ok (.ret v)) s₃) (notedBy (model prog w) A env fun e s' => R (.error e) s') s₂) (notedBy (model prog w) A env fun e s' => R (.error e) s') s₁) (notedBy (model prog w) A env fun e s' => R (.error e) s') s₁) (notedBy (model prog w) A env fun e s' => R (.error e) s') s)
    (n : Nat) (h : I n s) : codeAny (model prog w) A (.forLoop target it body orelse env) R s := by
  refine codeAny_loop' rfl I (fun n s hI => ?_) n h
  show wpAny _ _ ((forTurn target it body orelse env).onRaise (fun x => do noteFrame x env; theTreesLotGoes x)) _ _ s
  refine wpAny_noted ?_
  simp only [forTurn]
  refine wpAny_bind (wpAny_standAt (wpAny_bind (wpAny_onRaise (wpAny_mono (turn n s hI) (fun r s₁ h₁ => ?_) fun _ _ h' => wpAny_standAt h'))))
  cases r with
  | none => exact wpAny_pure (.inr ⟨rfl, codeAny_block h₁⟩)
  | some v =>
    refine wpAny_bind (wpAny_mono h₁ (fun _ s₂ h₁ => wpAny_bind (wpAny_mono h₁ (fun _ s₂ h₂ => wpAny_bind (wpAny_mono h₂ (fun f s₃ h₃ => ?_) fun _ _ h' => h')) fun _ _ h' => h')) fun _ _ h' => h')
    cases f with
    | next => exact wpAny_pure (.inl ⟨rfl, h₃⟩)
    | cont => exact wpAny_pure (.inl ⟨rfl, h₃⟩)
    | brk => exact wpAny_pure h₃
    | ret v => exact wpAny_pure h₃

-- an opaque thing becomes a handle
inductive XFq (B : Bs) (env : Env) (m : Nat) (I : Nat → Nm → Store → Prop) (St : Hd → Nat → Heap → Prop) (fp : List Addr) (N : Nat) (H : Hd) (s : Shared) (k : Nat) (s' : Shared) : Prop
  | mk (i : Nat) (ρ' : Nm) (st' : Store) (H' : Hd) (h' : Heap) (tk : Nat) (e : s' = { s with heap := h', toks := tk }) (hk : k = N + 1 - i) (hi : i ≤ N) (hI : I i ρ' st') (S : Sim B env ρ' st' H' h') (hst : St H' i h') (es : ES B env m H s.heap H' h') (hf : ∀ b ∈ fp, ¬ H'.has b)
inductive XDq (wr : List Addr) (h' : Heap) (s s₁ : Shared) : Prop
  | mk (h₁ : Heap) (tk₁ : Nat) (e : s₁ = { s with heap := h₁, toks := tk₁ }) (kp : ∀ b o, b ∉ wr → h'.get? b = some o → h₁.get? b = some o)
inductive XIq (St : Hd → Nat → Heap → Prop) (wr : List Addr) (H' : Hd) (i : Nat) (v : V) (h' : Heap) (s : Shared) (x : Value) (s₁ : Shared) : Prop
  | mk (h₁ : Heap) (tk₁ : Nat) (e : s₁ = { s with heap := h₁, toks := tk₁ }) (hst : St H' i h₁) (kp : ∀ b o, b ∉ wr → h'.get? b = some o → h₁.get? b = some o) (r : Rep H' h₁ x v)
section
variable {B : Bs} {n : Nat} {env : Env} {m : Nat} {ρ : Nm} {st : Store} {Φ : Fl → Nm → Store → Prop}

/-- a for over a list or a range, by an invariant -/
theorem x_for {target iter : Expr} {body : List Stmt} {pos : Pos} {vs : List V} {Cond : Store → Prop} {Tg : Expr → Prop} {xs : List Str} (hiter : PI B n env ρ st iter vs Cond Tg true) (htg : Tg target) (I : Nat → Nm → Store → Prop) (h0 : I 0 ρ st)
    (turn : ∀ i v ρ st, vs[i]? = some v → I i ρ st → Cond st ∧ ∃ ρ', PA B n env st target v xs ρ ρ' ∧ EX B n env m ρ' st body (fun f ρ' st' => match f with | .next | .cont => I (i + 1) ρ' st' | .brk => Φ .next ρ' st' | .ret v => Φ (.ret v) ρ' st'))
    (done : ∀ ρ st, I vs.length ρ st → Cond st ∧ Φ .next ρ st) (hs : ∀ x, foldedSetIterable iter env x = pure x := by intro _; rfl) :
    EX1 B n env m ρ st (.For target iter body [] pos) Φ := fun A hA O E s H S => by
  refine wpAny_For (wpAny_mono (hiter A hA E s H S) (fun xv s₁ ⟨k1, q1⟩ => wpAny_mono q1 (fun it s₂ q2 => ?_) fun _ _ e => e) fun _ _ e => e) hs
  obtain ⟨k2, X, wr, fp, St, IT, hc, hX, hst, hnew⟩ := q2
  have hX := hX rfl
  subst hX
  have hnewB : ∀ b ∈ fp, B.free b := fun b hb => S.base.free (hnew b (.inl hb))
  have hst0 : St H 0 s₂.heap := hst
  have S₂ := S.keeps (kp_get k2)
  have hfpown : ∀ b ∈ fp, b ∉ own env := fun b hb ho => by
    obtain ⟨o, e⟩ := S.en.live b ho
    rw [hnew b (.inl hb)] at e; cases e
  have hfpH : ∀ b ∈ fp, ¬ H.has b := fun b hb ho => by
    obtain ⟨o, e, _⟩ := S.sto.live b ho
    rw [hnew b (.inl hb)] at e; cases e
  obtain ⟨h₂, tk₂, rfl, kp2⟩ := k2
  have es0 : ES B env m H s.heap H h₂ := (CS.of_keeps kp2).es
  refine codeAny_forT (XFq B env m I St fp vs.length H s) ?_ (vs.length + 1) ⟨0, ρ, st, H, h₂, tk₂, rfl, rfl, Nat.zero_le _, h0, S₂, hst0, es0, hfpH⟩
  rintro k s' ⟨i, ρ', st', H', h', tk, rfl, rfl, hi, hI, S', hst', es, hfpH'⟩
  have hwr : ∀ b ∈ wr, b ∉ ([] : List Addr) → ∃ o fs, h'.get? b = some o ∧ o.data = .fields fs ∧ ¬ CodeO o := fun b hb hx => by
    obtain ⟨o, ho, hf⟩ := IT.wrObj _ _ _ b hst' (IT.sub b hb)
    obtain ⟨⟨fs, hfs⟩, hc⟩ := hf hb hx
    exact ⟨o, fs, ho, hfs, hc⟩
  have esw : ∀ {h₁ : Heap}, (∀ b o, b ∉ wr → h'.get? b = some o → h₁.get? b = some o) → ES B env m H s.heap H' h₁ := fun {h₁} kp' =>
    ⟨es.pre, es.xs, es.new, fun b o hb hm hx e => kp' b o (fun hw => by rw [hnew b (.inl (IT.sub b hw))] at e; cases e) (es.keep b o hb hm hx e)⟩
  cases hv : vs[i]? with
  | none =>
    have hlen : i = vs.length := Nat.le_antisymm hi (List.getElem?_eq_none_iff.mp hv)
    subst hlen
    obtain ⟨hcond, hfin⟩ := done ρ' st' hI
    refine wpAny_mono (IT.done A hA _ { s with heap := h', toks := tk } H' st' (XDq wr h' s) hcond S'.sb (by simp) hst' fun h₁ tk₁ kp' => ⟨h₁, tk₁, rfl, kp'⟩) (fun r s₁ q => ?_) fun _ _ e => e
    obtain ⟨rfl, h₁, tk₁, rfl, kp'⟩ := q
    obtain ⟨S₁, dk⟩ := sim_wr S' (X := []) (by simp) hwr (by simp) (fun b hb => hnewB b (IT.sub b hb)) kp'
    exact wpAny_execs_nil ⟨.next, ρ', st', H', h₁, tk₁, rfl, hfin, .next, S₁, esw kp'⟩
  | some v =>
    have hlt : i < vs.length := (List.getElem?_eq_some_iff.mp hv).1
    obtain ⟨hcond, ρ₁, pa, hx⟩ := turn i v ρ' st' hv hI
    refine wpAny_mono (IT.item A hA (notedBy (model B.prog B.w) A env fun e s' => cameBackBy (model B.prog B.w) A env E e s') { s with heap := h', toks := tk } H' st' i v target (XIq St wr H' (i + 1) v h' s) hcond htg S'.sb (by simp) hst' hv fun x h₁ tk₁ a1 a2 a3 => ⟨h₁, tk₁, rfl, a1, a2, a3⟩) (fun r s₁ q => ?_) fun _ _ e => e
    obtain ⟨x, rfl, q⟩ := q
    refine wpAny_mono q (fun _ s₂ q => ?_) fun _ _ e => e
    obtain ⟨h₁, tk₁, rfl, hst₁, kp', r₁⟩ := q
    obtain ⟨S₁, dk₁⟩ := sim_wr S' (X := []) (by simp) hwr (by simp) (fun b hb => hnewB b (IT.sub b hb)) kp'
    refine wpAny_mono (pa A hA (O.own _) _ _ _ x S₁ r₁) (fun _ s₂ q => ?_) fun _ _ e => e
    obtain ⟨h₂', tk₂', rfl, S₂', kp₂⟩ := q
    have es₂ : ES B env m H s.heap H' h₂' := ⟨es.pre, es.xs, es.new, fun b o hb hm hx e => kp₂ b o (fun hw => hb (wrt_own hw)) ((esw kp').keep b o hb hm hx e)⟩
    have hst₂ : St H' (i + 1) h₂' := IT.frame _ _ _ _ _ hst₁ (wrt_dk S₁.en kp₂) fun b hb o e => kp₂ b o (fun hw => hfpown b hb (wrt_own hw)) e
    refine wpAny_mono (hx A hA O _ _ H' S₂') (fun f s₃ q => ?_) fun _ _ e => e
    obtain ⟨fl, ρ₃, st₃, H₃, h₃, tk₃, rfl, hp, hf, S₃, es₃⟩ := q
    have es₄ := es₂.trans es₃ S₂'.sb S₂'.en.live
    have hst₃ : St H₃ (i + 1) h₃ := IT.frame _ _ _ _ _ hst₂ (es₃.dk S₂'.en) fun b hb o e => es₃.keep b o (hfpown b hb) (fun k _ hk => hfpH' b hb (.inl (List.mem_of_getElem? hk))) (fun hx => (hnewB b hb).2 hx.1) e
    have hfp₃ : ∀ b ∈ fp, ¬ H₃.has b := fun b hb hh => by
      obtain ⟨o, ho, _⟩ := IT.wrObj _ _ _ b hst₂ hb
      have := es₃.new b hh (hfpH' b hb)
      rw [ho] at this; cases this
    cases hf with
    | next => exact ⟨vs.length + 1 - (i + 1), by omega, i + 1, ρ₃, st₃, H₃, h₃, tk₃, rfl, rfl, hlt, hp, S₃, hst₃, es₄, hfp₃⟩
    | cont => exact ⟨vs.length + 1 - (i + 1), by omega, i + 1, ρ₃, st₃, H₃, h₃, tk₃, rfl, rfl, hlt, hp, S₃, hst₃, es₄, hfp₃⟩
    | brk => exact ⟨.next, ρ₃, st₃, H₃, h₃, tk₃, rfl, hp, .next, S₃, es₄⟩
    | ret r => exact ⟨_, ρ₃, st₃, H₃, h₃, tk₃, rfl, hp, .ret r, S₃, es₄⟩

/-- a new mutable list: the frame and the store with it -/
theorem sim_new {H : Hd} {h h' : Heap} {a : Addr} {xs : Array Value} {q : Nat} {l : List V} (S : Sim B env ρ st H h) (kp : KH B h h') (ha : h.get? a = none) (ho : h'.get? a = some (lisObj xs q)) (hr : RepAll ⟨H.hs ++ [a], H.xs⟩ h' xs.toList l) :
    Sim B env ρ (st ++ [l]) ⟨H.hs ++ [a], H.xs⟩ h' ∧ CS B m H h ⟨H.hs ++ [a], H.xs⟩ h' ∧ Rep ⟨H.hs ++ [a], H.xs⟩ h' (.ref a) (.ref st.length) := by
  have haH : ¬ H.has a := fun hh => by obtain ⟨o, e, _⟩ := S.sto.live a hh; rw [ha] at e; cases e
  have new : ∀ b, (⟨H.hs ++ [a], H.xs⟩ : Hd).has b → ¬ H.has b → h.get? b = none := fun b hb hn => by
    rcases hb with hb | hb
    · rcases List.mem_append.mp hb with hb | hb
      · exact absurd (.inl hb) hn
      · cases List.mem_singleton.mp hb; exact ha
    · exact absurd (.inr hb) hn
  have cs : CS B m H h ⟨H.hs ++ [a], H.xs⟩ h' := ⟨⟨[a], rfl⟩, rfl, new, fun b o _ hx e => kp.keep b o hx e⟩
  have hat : (H.hs ++ [a])[st.length]? = some a := by rw [← S.sto.len]; simp
  refine ⟨⟨⟨fun b o e => kp.keep b o (ex_h0 e) (S.base.keep b o e), fun b hb => ?_, kp.tab S.base.tab⟩, ⟨by simp [S.sto.len], ?_, fun k b l' hb hl => ?_, fun b hb => ?_, fun b hb => ?_⟩, S.en.ext kp cs.dk⟩, cs, .ref hat⟩
  · by_cases hh : H.has b
    · exact S.base.new b hh
    · exact S.base.free (new b hb hh)
  · refine List.nodup_append.mpr ⟨S.sto.nd, by simp, fun x hx y hy e => ?_⟩
    cases List.mem_singleton.mp hy
    exact haH (.inl (e ▸ hx))
  · by_cases hk : k < H.hs.length
    · have hb' : (H.hs ++ [a])[k]? = some b := hb
      rw [List.getElem?_append_left hk] at hb'
      rw [List.getElem?_append_left (S.sto.len ▸ hk)] at hl
      obtain ⟨vs, q', ho', hr'⟩ := S.sto.at_ k b l' hb' hl
      exact ⟨vs, q', kp.seq (isSeq_lis ..) ho', hr'.ext cs.dk⟩
    · have hb' : (H.hs ++ [a])[k]? = some b := hb
      have hkl := (List.getElem?_eq_some_iff.mp hb').1
      have hke : k = H.hs.length := by simp at hkl; omega
      subst hke
      simp at hb'
      subst hb'
      rw [S.sto.len] at hl
      simp at hl
      subst hl
      exact ⟨xs, q, ho, hr⟩
  · by_cases hh : H.has b
    · obtain ⟨o, e, hs⟩ := S.sto.live b hh; exact ⟨o, kp.seq hs e, hs⟩
    · rcases hb with hb | hb
      · rcases List.mem_append.mp hb with hb | hb
        · exact absurd (.inl hb) hh
        · cases List.mem_singleton.mp hb; exact ⟨_, ho, isSeq_lis ..⟩
      · exact absurd (.inr hb) hh
  · intro hm
    rcases List.mem_append.mp hm with hm | hm
    · exact S.sto.dj b hb hm
    · cases List.mem_singleton.mp hm; exact haH (.inr hb)

/-- a list display as a new mutable list -/
theorem pm_list {es : List Expr} {pos : Pos} {vs : List V} {Ψ : V → Store → Prop} (h1 : PEs B n env ρ st es vs) (hp : Ψ (.ref st.length) (st ++ [vs])) (hsz : vs.length ≤ sizeLine := by simp [sizeLine]) : PM B n env m ρ st (.List es pos) Ψ := fun A hA E s H S => by
  refine List_ (wpAny_mono (h1 A hA E s H pos S) (fun xs s₁ ⟨k1, r1⟩ => ?_) fun _ _ e => e)
  have S1 := S.keeps (kp_get k1)
  have hnone : s₁.heap.get? s₁.heap.objs.size = none := by
    cases e : s₁.heap.get? s₁.heap.objs.size with
    | none => rfl
    | some o => exact absurd (Heap.lt_size e) (Nat.lt_irrefl _)
  refine wpAny_newObj_type ?_ (by show xs.toArray.size ≤ sizeLine; rw [List.size_toArray, r1.length]; exact hsz)
  have kp := kp_get (kp_push (B := B) s₁ { cls := .type "list", data := .seq xs.toArray })
  have hr : RepAll ⟨H.hs ++ [s₁.heap.objs.size], H.xs⟩ (s₁.heap.push { cls := .type "list", data := .seq xs.toArray }) xs vs := r1.ext ⟨⟨[s₁.heap.objs.size], rfl⟩, fun b hb hn => by
    rcases hb with hb | hb
    · rcases List.mem_append.mp hb with hb | hb
      · exact absurd (.inl hb) hn
      · cases List.mem_singleton.mp hb; exact hnone
    · exact absurd (.inr hb) hn, fun b o _ hs e => kp.seq hs e⟩
  obtain ⟨S2, cs, r⟩ := sim_new (m := m) S1 kp hnone (Heap.get?_push_size _ rfl) (l := vs) (by simpa using hr)
  obtain ⟨h₁, tk₁, rfl, kp1⟩ := k1
  exact ⟨_, _, _, _, tk₁, rfl, hp, S2, (CS.of_keeps kp1).trans cs S1.sb, r⟩

end
end Mine

-- part Gw13
namespace Mine

inductive OMq (B : Bs) (m : Nat) (Ψ : V → Store → Prop) (H : Hd) (s : Shared) (x : Value) (s' : Shared) : Prop
  | mk (v : V) (st' : Store) (H' : Hd) (h' : Heap) (tk : Nat) (e : s' = { s with heap := h', toks := tk }) (hp : Ψ v st') (S : SB B st' H' h') (cs : CS B m H s.heap H' h') (r : Rep H' h' x v)
inductive PMsq (B : Bs) (env : Env) (m : Nat) (ρ : Nm) (Ψ : List V → Store → Prop) (H : Hd) (s : Shared) (xs : List Value) (s' : Shared) : Prop
  | mk (vs : List V) (st' : Store) (H' : Hd) (h' : Heap) (tk : Nat) (e : s' = { s with heap := h', toks := tk }) (hp : Ψ vs st') (S : Sim B env ρ st' H' h') (cs : CS B m H s.heap H' h') (r : RepAll H' h' xs vs)
/-- an operation upon values that may change the store -/
noncomputable def OM (B : Bs) (n : Nat) (m : Nat) (st : Store) (t : List Value → Sem Value) (vs : List V) (Ψ : V → Store → Prop) : Prop :=
  ∀ A, Rm n A → ∀ E s H xs, SB B st H s.heap → RepAll H s.heap xs vs →
    wpAny (model B.prog B.w) A (t xs) (OMq B m Ψ H s) E s

/-- arguments that may make mutable lists -/
noncomputable def PMs (B : Bs) (n : Nat) (env : Env) (m : Nat) (ρ : Nm) (st : Store) (es : List Expr) (Ψ : List V → Store → Prop) : Prop :=
  ∀ A, Rm n A → ∀ E s H pos, Sim B env ρ st H s.heap →
    wpAny (model B.prog B.w) A (spliced (backTo pos (starEach es env))) (PMsq B env m ρ Ψ H s) E s

theorem EnvRep.cs {B : Bs} {env : Env} {ρ : Nm} {m : Nat} {st : Store} {H H' : Hd} {h h' : Heap} (x : EnvRep env ρ H h) (S : SimH H st h) (c : CS B m H h H' h') : EnvRep env ρ H' h' := by
  have kp : ∀ b o, ¬ IsSeq o → ¬ TabO o → h.get? b = some o → h'.get? b = some o := fun b o hn ht e => c.keep b o (fun k _ hk => by
    obtain ⟨o', e', hs⟩ := S.live b (.inl (List.mem_of_getElem? hk))
    rw [e] at e'; cases e'; exact hn hs) (fun hx => ht hx.2) e
  have kc : ∀ {a : Addr} {v : Option Value}, h.IsCell a v → h'.IsCell a v := fun ⟨o, ho, hd⟩ => ⟨o, kp _ o (by rintro ⟨_, _, e⟩; rw [hd] at e; cases e) (by rintro ⟨_, _, e⟩; rw [hd] at e; cases e) ho, hd⟩
  refine ⟨x.kind, x.gl, x.bi, ?_, fun y v hy hv => ?_, fun y a ha => ?_, x.has, x.apart⟩
  · obtain ⟨q, hm, hr⟩ := x.loc
    refine ⟨q, hm.at' fun o e => ?_, fun y v hy hv => let ⟨z, hz, r⟩ := hr y v hy hv; ⟨z, hz, r.ext c.dk⟩⟩
    obtain ⟨o', es, ep, ho', hd, _⟩ := hm
    rw [e] at ho'; cases ho'
    exact kp _ o (by rintro ⟨_, _, e⟩; rw [hd] at e; cases e) (by rintro ⟨_, _, e⟩; rw [hd] at e; cases e) e
  · obtain ⟨a, z, h1, h2, h3⟩ := x.cell y v hy hv
    exact ⟨a, z, h1, kc h2, h3.ext c.dk⟩
  · obtain ⟨v, hv⟩ := x.cells y a ha
    exact ⟨v, kc hv⟩

section
variable {B : Bs} {n : Nat} {env : Env} {m : Nat} {ρ : Nm} {st : Store} {Φ : Fl → Nm → Store → Prop} {Ψ : V → Store → Prop}

theorem PEs.pms {es : List Expr} {vs : List V} {Ψ : List V → Store → Prop} (h : PEs B n env ρ st es vs) (hp : Ψ vs st) : PMs B n env m ρ st es Ψ := fun A hA E s H pos S => by
  refine wpAny_mono (h A hA E s H pos S) (fun x s₁ ⟨k, r⟩ => ?_) fun _ _ e => e
  have S₁ := S.keeps (kp_get k)
  obtain ⟨h', tk, rfl, kp⟩ := k
  exact ⟨vs, st, H, h', tk, rfl, hp, S₁, .of_keeps kp, r⟩
theorem PL.om {t : List Value → Sem Value} {as : List V} {c : V} (h : PL B n st t as c) (hp : Ψ c st) : OM B n m st t as Ψ := fun A hA E s H xs S r => by
  refine wpAny_mono (h A hA E s H xs S r) (fun x s₁ ⟨k, r⟩ => ?_) fun _ _ e => e
  have S₁ := S.keeps (kp_get k)
  obtain ⟨h', tk, rfl, kp⟩ := k
  exact ⟨c, st, H, h', tk, rfl, hp, S₁, .of_keeps kp, r⟩

/-- the call's end under the frame -/
theorem om_pm {A : Around} {E : Value → Shared → Prop} {s : Shared} {H H₁ : Hd} {h₁ : Heap} {tk₁ : Nat} {st₁ : Store} {t : List Value → Sem Value} {vs : List V} {xs : List Value} (hA : Rm n A) (h : OM B n m st₁ t vs Ψ) (S₁ : Sim B env ρ st₁ H₁ h₁) (cs : CS B m H s.heap H₁ h₁) (r : RepAll H₁ h₁ xs vs) :
    wpAny (model B.prog B.w) A (t xs) (PMq B env m ρ Ψ H s) E { s with heap := h₁, toks := tk₁ } := by
  refine wpAny_mono (h A hA E { s with heap := h₁, toks := tk₁ } H₁ xs S₁.sb r) (fun x s₂ q => ?_) fun _ _ e => e
  obtain ⟨v, st', H', h', tk, rfl, hp, SB', cs', r'⟩ := q
  exact ⟨v, st', H', h', tk, rfl, hp, ⟨SB'.base, SB'.sto, S₁.en.cs S₁.sto cs'⟩, cs.trans cs' S₁.sb, r'⟩

/-- a method of a list -/
theorem pm_meth {o : Expr} {name : Str} {apos cpos : Pos} {e : Expr} {es : List Expr} {id : String} {v₀ : V} {l : List V} (ho : PE B n env ρ st o v₀) (hl : lis st v₀ = some l)
    (ha : PMs B n env m ρ st (e :: es) (fun vs st' => OM B n m st' (fun xs => call (.builtin id) xs) (v₀ :: vs) Ψ)) (slot : Slot "list" name id) (hty : typeOf (.builtin id) = pure (.type "method_descriptor"))
    (hbase : attributeBase o name env (eval o env) = eval o env := by rfl)
    (hfew : ((backTo cpos (starEach (e :: es) env)).all (fun x => !x.1) && (backToKw cpos (keywordEach [] env)).all (fun x => x.1.isSome)
      && decide ((e :: es).length + ([] : List Keyword).length + (if ([] : List Keyword).isEmpty then 0 else 1) < 30)) = true := by rfl)
    (hline : (apos.endLine == cpos.line) = true := by rfl) (he : starEach (e :: es) env = (false, eval e env) :: starEach es env := by rfl) (hplain : (backTo cpos (starEach es env)).any (·.1) = false := by rfl) :
    PM B n env m ρ st (.Call (.Attribute o name apos) (e :: es) [] cpos) Ψ := fun A hA E s H S => by
  refine wpAny_Call_method hbase hfew hline F.plainAttrs_list slot hty (wpAny_mono (ho A hA E s H S) (fun ov s₁ ⟨k1, r1⟩ => ?_) fun _ _ e => e)
  have S₁ := S.keeps (kp_get k1)
  obtain ⟨ad, vs, q, rfl, hob, hr⟩ := lis_at (B := B) S₁.sto r1 hl
  refine ⟨(isList_of hob).typeIs, fun a ha => by cases ha; exact ⟨_, hob, rfl⟩, ?_⟩
  refine callWith_method1 (wpAny_mono (ha A hA E s₁ H cpos S₁) (fun xs s₂ q => ?_) fun _ _ e => e) he hplain
  obtain ⟨vs, st', H', h', tk, rfl, hp, S', cs, r⟩ := q
  obtain ⟨h₁, tk₁, rfl, kp⟩ := k1
  exact om_pm (s := s) (xs := .ref ad :: xs) hA hp S' ((CS.of_keeps kp).trans cs S₁.sb) (.cons (r1.ext cs.dk) r)

/-- a handle's list is changed -/
theorem sb_set {H : Hd} {h h' : Heap} {a : Addr} {k : Nat} {ws : Array Value} {q : Nat} {l' : List V} (S : SB B st H h) (hk : H.hs[k]? = some a) (ho' : h'.get? a = some (lisObj ws q)) (kp : ∀ b o, b ≠ a → h.get? b = some o → h'.get? b = some o) (hr : RepAll H h ws.toList l') (hm : m ≤ k) :
    SB B (st.set k l') H h' ∧ CS B m H h H h' := by
  have ha : H.has a := .inl (List.mem_of_getElem? hk)
  have cs : CS B m H h H h' := ⟨⟨[], by simp⟩, rfl, fun _ h1 h2 => absurd h1 h2, fun b o hb _ e => kp b o (fun e' => hb k hm (e' ▸ hk)) e⟩
  refine ⟨⟨base_ne S.base (W := (· = a)) (fun b o hb e => kp b o hb e) (fun b hb => hb ▸ S.base.new _ ha) (fun b o hb e => by subst hb; obtain ⟨o', e', hs'⟩ := S.sto.live _ ha; rw [e] at e'; cases e'; exact seq_notCode hs'), ⟨by simp [S.sto.len], S.sto.nd, fun j b l hj hl => ?_, fun b hb => ?_, S.sto.dj⟩⟩, cs⟩
  · by_cases e : j = k
    · subst e
      rw [hk] at hj; cases hj
      rw [List.getElem?_set_self (by rw [← S.sto.len]; exact (List.getElem?_eq_some_iff.mp hk).1)] at hl
      cases hl
      exact ⟨ws, q, ho', hr.ext cs.dk⟩
    · rw [List.getElem?_set_ne (Ne.symm e)] at hl
      obtain ⟨vs, q', ho, hr'⟩ := S.sto.at_ j b l hj hl
      refine ⟨vs, q', kp b _ (fun e' => e ?_) ho, hr'.ext cs.dk⟩
      subst e'
      exact (List.getElem?_inj (List.getElem?_eq_some_iff.mp hj).1 S.sto.nd).mp (hj.trans hk.symm)
  · by_cases e : b = a
    · subst e; exact ⟨_, ho', isSeq_lis ..⟩
    · obtain ⟨o, ho, hs⟩ := S.sto.live b hb; exact ⟨o, kp b o e ho, hs⟩

theorem om_insert {k : Nat} {l : List V} {v : V} {i : Int} (hl : st[k]? = some l) (hm : m ≤ k) (hsz : l.length ≤ sizeLine) (h0 : 0 ≤ i) (hi : i ≤ l.length) (hp : Ψ .none (st.set k (l.take i.toNat ++ v :: l.drop i.toNat))) : OM B n m st (fun xs => call (.builtin "list.insert") xs) [.ref k, .int i, v] Ψ := fun A hA E s H xs S r => by
  cases r with
  | cons r1 r =>
    cases r with
    | cons r2 r =>
      cases r with
      | @cons y3 _ _ _ r3 r =>
        cases r
        cases r2
        cases r1 with
        | ref hk =>
          obtain ⟨vs, q, ho, hr⟩ := S.sto.at_ _ _ _ hk hl
          have hsize := hr.size
          have hfit : ¬(!Builtin.List.listFitsIndex i) = true := by
            have : i < 2 ^ 63 := by simp [sizeLine] at hsz; omega
            simp [Builtin.List.listFitsIndex]; omega
          refine call_meets F.slot_list_insert (isList_of ho).typeIs F.entry_list_insert (F.args_list_insert_3 _ _ _) (AutoSeq1.list_insert_list_int_val_1 _ vs q i _ _ hfit (by rw [hsize]; exact hsz)) ⟨ho, ?_⟩
          have hneg : ¬ i < 0 := by omega
          have hmin : min i.toNat vs.size = i.toNat := by rw [hsize]; omega
          obtain ⟨q', ho'⟩ := upd_lis ho (fun xs : Array Value => have k := if i < 0 then (i + (xs.size : Int)).toNat else min i.toNat xs.size; (xs.extract 0 k).push y3 ++ xs.extract k)
          have hrr : RepAll H s.heap ((vs.extract 0 i.toNat).push y3 ++ vs.extract i.toNat).toList (l.take i.toNat ++ v :: l.drop i.toNat) := by
            have e1 : ((vs.extract 0 i.toNat).push y3 ++ vs.extract i.toNat).toList = vs.toList.take i.toNat ++ y3 :: vs.toList.drop i.toNat := by
              simp [Array.toList_extract, List.extract]
              exact List.take_of_length_le (by simp)
            rw [e1]
            exact (hr.take _).append (.cons r3 (hr.drop _))
          have e2 : (fun xs : Array Value => have k := if i < 0 then (i + (xs.size : Int)).toNat else min i.toNat xs.size; (xs.extract 0 k).push y3 ++ xs.extract k) vs = (vs.extract 0 i.toNat).push y3 ++ vs.extract i.toNat := by
            simp only [hneg, if_false, hmin]
          obtain ⟨S', cs⟩ := sb_set (m := m) S hk (ws := (vs.extract 0 i.toNat).push y3 ++ vs.extract i.toNat) (q := q') (by rw [← e2]; exact ho') (fun b o hb e => (Heap.SameBut.update ..).extBut b o hb e) hrr hm
          exact ⟨.none, _, H, _, s.toks, rfl, hp, S', cs, .none⟩

/-- an expression as a statement -/
theorem x_expr {e : Expr} {pos : Pos} (h : PM B n env m ρ st e (fun _ st' => Φ .next ρ st')) (hs : swapsWith e none pos.line env = pure false := by rfl) : EX1 B n env m ρ st (.Expr e pos) Φ := fun A hA O E s H S => by
  refine wpAny_Expr_any (wpAny_mono (h A hA E s H S) (fun x s₁ q => ?_) fun _ _ e => e) (by unfold interactive; rw [S.en.kind]; rfl) hs
  obtain ⟨v, st', H', h', tk, rfl, hp, S', cs, r⟩ := q
  exact ⟨.next, ρ, st', H', h', tk, rfl, hp, .next, S', cs.es⟩

end
end Mine

-- part Gw14
namespace Mine

theorem bindL_lookup (kindOf : Str → Option NameKind) : ∀ (binds : List (Str × Value)) (m : Str → Option Value) (x : Str), kindOf x = some .local → (binds.map (·.1)).Nodup → bindL kindOf binds m x = (binds.lookup x).or (m x)
  | [], m, x, _, _ => by simp [bindL]
  | (y, v) :: r, m, x, hx, hn => by
    simp only [List.map_cons, List.nodup_cons] at hn
    unfold bindL
    rw [bindL_lookup kindOf r _ x hx hn.2, List.lookup_cons]
    by_cases e : x = y
    · subst e
      have : r.lookup x = none := by
        cases hq : r.lookup x with
        | none => rfl
        | some c => exact absurd (List.mem_map.mpr ⟨_, mem_of_lookup hq, rfl⟩) hn.1
      simp [this, hx]
    · have e' : (x == y) = false := by simpa using e
      rw [e']
      split
      · simp [e]
      · rfl
theorem bindC_lookup (kindOf : Str → Option NameKind) : ∀ (binds : List (Str × Value)) (m : Str → Option Value) (x : Str), kindOf x ≠ some .local → (binds.map (·.1)).Nodup → bindC kindOf binds m x = (binds.lookup x).or (m x)
  | [], m, x, _, _ => by simp [bindC]
  | (y, v) :: r, m, x, hx, hn => by
    simp only [List.map_cons, List.nodup_cons] at hn
    unfold bindC
    rw [bindC_lookup kindOf r _ x hx hn.2, List.lookup_cons]
    by_cases e : x = y
    · subst e
      have : r.lookup x = none := by
        cases hq : r.lookup x with
        | none => rfl
        | some c => exact absurd (List.mem_map.mpr ⟨_, mem_of_lookup hq, rfl⟩) hn.1
      simp [this, hx]
    · have e' : (x == y) = false := by simpa using e
      rw [e']
      split
      · rfl
      · simp [e]

theorem lookup_zip_rep {H : Hd} {h : Heap} : ∀ {names : List Str} {ys : List Value} {ws : List V} {x : Str} {v : V}, RepAll H h ys ws → (names.zip ws).lookup x = some v → ∃ y, (names.zip ys).lookup x = some y ∧ Rep H h y v
  | [], _, _, _, _, _, hl => by simp at hl
  | nm :: names, ys, ws, x, v, hr, hl => by
    cases hr with
    | nil => simp at hl
    | cons r1 r =>
      simp only [List.zip_cons_cons, List.lookup_cons] at hl ⊢
      cases hx : x == nm with
      | true => rw [hx] at hl; cases hl; exact ⟨_, rfl, r1⟩
      | false => rw [hx] at hl; exact lookup_zip_rep r hl

theorem cellsFrom_lookup : ∀ {m : Nat} {l : List (Str × NameKind)} {x : Str} {c : Addr}, (l.map (·.1)).Nodup → (x, c) ∈ cellsFrom m l [] → (cellsFrom m l []).lookup x = some c
  | m, (y, k) :: r, x, c, hn, h => by
    simp only [List.map_cons, List.nodup_cons] at hn
    unfold cellsFrom at h ⊢
    split at h
    · rename_i hk
      rw [if_pos hk]
      rw [cellsFrom_app] at h ⊢
      rw [List.lookup_append]
      rcases List.mem_append.mp h with h | h
      · rw [cellsFrom_lookup hn.2 h]; rfl
      · obtain ⟨e1, e2⟩ := Prod.mk.inj (List.mem_singleton.mp h)
        subst e1; subst e2
        have : (cellsFrom (c + 1) r []).lookup x = none := by
          cases hq : (cellsFrom (c + 1) r []).lookup x with
          | none => rfl
          | some c' => exact absurd (List.mem_map.mpr ⟨_, cellsFrom_mem (mem_of_lookup hq), rfl⟩) hn.1
        rw [this]; simp [List.lookup_cons]
    · rename_i hk
      rw [if_neg hk]
      exact cellsFrom_lookup hn.2 h

/-- a def of the text -/
structure FnOk (B : Bs) (a : Addr) (fd : FuncData) (body : List Stmt) : Prop where
  at_ : ∃ o, B.K.lookup a = some o ∧ o.data = .func fd
  body : fd.body = .stmts body
  clo : fd.closure = []
  gl : fd.globals = mainGlobals
  bi : fd.builtins = builtinsNs
  cd : B.h₀.CodeRec fd.code fd.qualname
  co : fd.scope.isCoroutine = false
  gen : fd.scope.isGenerator = false
  kind : fd.scope.kind = .function
  nd : nodupB (fd.scope.names.map (·.1)) = true
  nofree : (fd.scope.names.all fun x => x.2 != .free) = true

noncomputable def paramsOk (scope : Scope) (names : List Str) : Bool := nodupB names && names.all fun x => scope.names.lookup x == some .local || scope.names.lookup x == some .cell

section
variable {B : Bs} {n m : Nat} {st : Store} {Ψ : V → Store → Prop}

/-- room, the caller's frame may be the claim's -/
structure Rm0 (n : Nat) (A : Around) : Prop where
  hd : A.handled = none
  dp : A.depth + n ≤ 890
  un : A.units + 20 * n ≤ 9000
  fr : ∃ l, A.frames = some l
theorem Rm.rm0 {A : Around} (x : Rm n A) : Rm0 n A := ⟨x.hd, x.dp, x.un, let ⟨e, l, h, _⟩ := x.fr; ⟨e :: l, h⟩⟩
theorem Rm0.deeper {n : Nat} {A : Around} (x : Rm0 (n + 1) A) (env : Env) (h1 : env.scope.isGenerator = false) (h2 : env.scope.isCoroutine = false) (h3 : env.builtins = builtinsNs) (h4 : env.globals = mainGlobals) : Rm n (A.deeper env) :=
  ⟨x.hd, by have := x.dp; simp only [Around.deeper]; omega, by have := x.un; simp only [Around.deeper]; omega, by
    obtain ⟨l, hf⟩ := x.fr
    exact ⟨env, l, by simp only [Around.deeper, hf]; rfl, h1, h2, h3, h4⟩⟩

/-- what a call hands back -/
noncomputable def retOf : Fl → V
  | .ret v => v
  | _ => .none

/-- a call of a def: its body under its own frame -/
theorem fn_core {a : Addr} {fd : FuncData} {body : List Stmt} {names : List Str} {vs ws : List V} {kw : List Value → List (Str × Value)} {pos : List Value → List Value} (F : FnOk B a fd body) (hp : paramsOk fd.scope names = true) (hlen : names.length = ws.length)
    (hb : ∀ H h xs, SB B st H h → RepAll H h xs vs → ∃ ys, (∀ S, peek B.K S (bindArgs fd ⟨pos xs, kw xs⟩) = some (names.zip ys)) ∧ RepAll H h ys ws)
    (hx : ∀ L, EX B n (callEnvC fd L a) m (fun x => (names.zip ws).lookup x) st body (fun fl _ st' => Ψ (retOf fl) st')) :
    ∀ A, Rm0 (n + 1) A → ∀ E s H xs, SB B st H s.heap → RepAll H s.heap xs vs →
    wpAny (model B.prog B.w) A (call (.ref a) (pos xs) (kw xs)) (OMq B m Ψ H s) E s := fun A hA E s H xs S r => by
  obtain ⟨o, ho, hdat⟩ := F.at_
  obtain ⟨ys, hbind, hr⟩ := hb H s.heap xs S r
  have hKX : B.K.In s.heap := B.KX.keeps S.base.keep
  refine wpAny_call (codeAny_call_function (by have := hA.dp; simp only [recursionLimit]; omega) (hKX _ _ ho) hdat F.co F.gen F.body (F.cd.keeps S.base.keep) ?_)
  refine (Looks.of_peek (M := model B.prog B.w) hKX (hbind _)).here ?_
  have hplen : names.length = ys.length := by rw [hlen, hr.length]
  have hnm : (names.zip ys).map (·.1) = names := List.map_fst_zip (Nat.le_of_eq hplen)
  simp only [paramsOk, Bool.and_eq_true, List.all_eq_true, Bool.or_eq_true, beq_iff_eq] at hp
  have hnd : ((names.zip ys).map (·.1)).Nodup := by rw [hnm]; exact nodupB_iff hp.1
  have hkinds : ∀ x ∈ names.zip ys, fd.scope.names.lookup x.1 = some .local ∨ (fd.scope.names.lookup x.1 = some .cell ∧ ((cellsFrom (s.heap.objs.size + 1) fd.scope.names []).lookup x.1).isSome = true) := fun x hx => by
    have hx' : x.1 ∈ names := by rw [← hnm]; exact List.mem_map.mpr ⟨x, hx, rfl⟩
    rcases hp.2 _ hx' with h | h
    · exact .inl h
    · obtain ⟨c, hc⟩ := cellsFrom_has (m := s.heap.objs.size + 1) (mem_of_lookup h)
      exact .inr ⟨h, by rw [hc]; rfl⟩
  rw [F.clo]
  refine wpAny_newFunctionEnv_cells F.kind hkinds fun env he s₁ x => ?_
  have he' : env = callEnvC fd s.heap.objs.size a := he
  have hLC : env.locals = s.heap.objs.size := by rw [he']; rfl
  have hcells : env.cells = cellsFrom (s.heap.objs.size + 1) fd.scope.names [] := by rw [he']; rfl
  have hscope : env.scope = fd.scope := by rw [he']; rfl
  obtain ⟨h₁, tk₁, e₁⟩ := x.toInCall.same
  have kp : ∀ b o, s.heap.get? b = some o → s₁.heap.get? b = some o := x.toInCall.keep
  have S₁ := S.keeps (.of kp)
  have hkindOf : ∀ y, env.kindOf y = fd.scope.names.lookup y := fun y => by show env.scope.names.lookup y = _; rw [hscope]
  have newo : ∀ b ∈ own env, s.heap.objs.size ≤ b := fun b hb => by
    rcases List.mem_cons.mp hb with rfl | hb
    · rw [hLC]; exact Nat.le_refl _
    · obtain ⟨p, hp, rfl⟩ := List.mem_map.mp hb
      have := x.above p.1 p.2 hp
      rw [hLC] at this
      exact Nat.le_of_lt this
  have none0 : ∀ b ∈ own env, s.heap.get? b = none := fun b hb => by
    cases e : s.heap.get? b with
    | none => rfl
    | some o => exact absurd (Heap.lt_size e) (Nat.not_lt.mpr (newo b hb))
  have en : EnvRep env (fun x => (names.zip ws).lookup x) H s₁.heap := by
    refine ⟨by rw [hscope]; exact F.kind, by rw [he']; exact F.gl, by rw [he']; exact F.bi, ⟨_, x.toInCall.ns, fun y v hy hv => ?_⟩, fun y v hy hv => ?_, fun y c hc => ?_, fun y hy => ?_, x.apart⟩
    · obtain ⟨z, hz, rz⟩ := lookup_zip_rep hr hv
      refine ⟨z, ?_, rz.ext (.of_full kp)⟩
      rw [bindL_lookup _ _ _ _ hy hnd, hz]; rfl
    · obtain ⟨z, hz, rz⟩ := lookup_zip_rep hr hv
      have hmem : y ∈ names := by rw [← hnm]; exact List.mem_map.mpr ⟨_, mem_of_lookup hz, rfl⟩
      have hcell : fd.scope.names.lookup y = some .cell := by
        rcases hp.2 y hmem with h | h
        · rw [hkindOf, h] at hy; rcases hy with hy | hy <;> cases hy
        · exact h
      obtain ⟨c, hc⟩ := cellsFrom_has (m := s.heap.objs.size + 1) (mem_of_lookup hcell)
      rw [← hcells] at hc
      refine ⟨c, z, hc, ?_, rz.ext (.of_full kp)⟩
      have := x.cell y c hc
      rw [bindC_lookup _ _ _ _ (by rw [hkindOf, hcell]; simp) hnd, hz] at this
      exact this
    · have hl : env.cells.lookup y = some c := by
        rw [hcells] at hc ⊢
        exact cellsFrom_lookup (nodupB_iff F.nd) hc
      exact ⟨_, x.cell y c hl⟩
    · have hcell : fd.scope.names.lookup y = some .cell := by
        rw [hkindOf] at hy
        rcases hy with hy | hy
        · exact hy
        · have := List.all_eq_true.mp F.nofree _ (mem_of_lookup hy)
          simp at this
      obtain ⟨c, hc⟩ := cellsFrom_has (m := s.heap.objs.size + 1) (mem_of_lookup hcell)
      exact ⟨c, by rw [hcells]; exact hc⟩
  have hownF : OwnF B env := fun b hb => S.base.free (none0 b hb)
  refine ⟨B.lim.keeps S₁.base.keep, codeAny_func ?_⟩
  have hA' : Rm n (A.deeper env) := hA.deeper env (by rw [hscope]; exact F.gen) (by rw [hscope]; exact F.co) (by rw [he']; exact F.bi) (by rw [he']; exact F.gl)
  rw [he'] at hA' hownF en
  subst e₁
  rw [he']
  refine wpAny_mono (hx s.heap.objs.size (A.deeper _) hA' hownF _ _ H ⟨S₁.base, S₁.sto, en⟩) (fun f s₂ q => ?_) fun _ _ e => e
  obtain ⟨fl, ρ', st', H', h', tk, rfl, hp', hf, S', es⟩ := q
  refine ⟨retOf fl, st', H', h', tk, rfl, hp', S'.sb, ⟨es.pre, es.xs, fun b hb hn => ?_, fun b o hm hx e => es.keep b o (fun ho => ?_) hm hx (kp b o e)⟩, ?_⟩
  · have := es.new b hb hn
    cases e : s.heap.get? b with
    | none => rfl
    | some o => have e' := kp b o e; rw [this] at e'; cases e'
  · have := none0 b (he' ▸ ho)
    rw [e] at this; cases this
  · cases hf with
    | next => exact .none
    | brk => exact .none
    | cont => exact .none
    | ret r => exact r

theorem fn_om {a : Addr} {fd : FuncData} {body : List Stmt} {names : List Str} {vs ws : List V} {kw : List Value → List (Str × Value)} {pos : List Value → List Value} (F : FnOk B a fd body) (hp : paramsOk fd.scope names = true) (hlen : names.length = ws.length)
    (hb : ∀ H h xs, SB B st H h → RepAll H h xs vs → ∃ ys, (∀ S, peek B.K S (bindArgs fd ⟨pos xs, kw xs⟩) = some (names.zip ys)) ∧ RepAll H h ys ws)
    (hx : ∀ L, EX B n (callEnvC fd L a) m (fun x => (names.zip ws).lookup x) st body (fun fl _ st' => Ψ (retOf fl) st')) :
    OM B (n + 1) m st (fun xs => call (.ref a) (pos xs) (kw xs)) vs Ψ := fun A hA E s H xs S r => fn_core F hp hlen hb hx A hA.rm0 E s H xs S r

/-- a call that leaves all that stood before is pure -/
theorem OM.pl {t : List Value → Sem Value} {vs : List V} {c : V} (h : OM B n st.length st t vs (fun v st' => v = c ∧ ∃ N, st' = st ++ N)) (hc : ∀ H H' h x, H'.hs.take H.hs.length = H.hs → H'.xs = H.xs → Rep H' h x c → Rep H h x c) : PL B n st t vs c := fun A hA E s H xs S r => by
  refine wpAny_mono (h A hA E s H xs S r) (fun x s₁ q => ?_) fun _ _ e => e
  obtain ⟨v, st', H', h', tk, rfl, ⟨rfl, N, rfl⟩, S', cs, r'⟩ := q
  have nk : ∀ b, ∀ k, st.length ≤ k → H.hs[k]? ≠ some b := fun b k hk hb => by
    have := (List.getElem?_eq_some_iff.mp hb).1
    rw [S.sto.len] at this; omega
  refine ⟨⟨h', tk, rfl, ⟨fun b o hx e => cs.keep b o (nk b) hx e, fun _ => S'.base.tab, fun b o e => ?_⟩⟩, hc H H' h' x ?_ cs.xs r'⟩
  · by_cases hx : Ex B b o
    · exact tab_live S'.base.tab hx
    · exact ⟨o, cs.keep b o (nk b) hx e⟩
  · obtain ⟨N', e⟩ := cs.pre
    rw [e]; simp

/-- plain data without handles means the same under any handles -/
noncomputable def flat : V → Bool
  | .none | .bool _ | .int _ | .str _ => true
  | _ => false
theorem flat_rep {H H' : Hd} {h : Heap} {x : Value} {c : V} (hf : flat c = true) (r : Rep H' h x c) : Rep H h x c := by
  cases r <;> first | (simp [flat] at hf; done) | constructor
theorem OM.plFlat {t : List Value → Sem Value} {vs : List V} {c : V} (hf : flat c = true) (h : OM B n st.length st t vs (fun v st' => v = c ∧ ∃ N, st' = st ++ N)) : PL B n st t vs c := h.pl fun _ _ _ _ _ _ r => flat_rep hf r

variable {env : Env} {ρ : Nm}
/-- a def of the text called by its name -/
theorem ld_fn {A : Around} {E : Value → Shared → Prop} {s : Shared} {H : Hd} {x : Str} {np : Pos} {a : Addr} {fd : FuncData} {body : List Stmt} {Q : Value → Shared → Prop} (F : FnOk B a fd body) (S : Sim B env ρ st H s.heap) (hk : env.kindOf x = some .globalImplicit) (hv : B.mg x = some (.ref a)) (h : Q (.ref a) s) (hd : (x == ("__debug__" : Str)) = false := by kernel_rfl) :
    wpAny (model B.prog B.w) A (eval (.Name x np) env) Q E s := ld_glob S hk (by rw [hv]; rfl) h hd

theorem pe_callFn {x : Str} {np pos : Pos} {e : Expr} {es : List Expr} {a : Addr} {fd : FuncData} {body : List Stmt} {vs : List V} {c : V} (F : FnOk B a fd body) (hk : env.kindOf x = some .globalImplicit) (hv : B.mg x = some (.ref a))
    (ha : PEs B n env ρ st (e :: es) vs) (h2 : PL B n st (fun xs => call (.ref a) xs) vs c) (hd : (x == ("__debug__" : Str)) = false := by kernel_rfl)
    (he : starEach (e :: es) env = (false, eval e env) :: starEach es env := by rfl) : PE B n env ρ st (.Call (.Name x np) (e :: es) [] pos) c := fun A hA E s H S => by
  obtain ⟨o, ho, hdat⟩ := F.at_
  refine wpAny_Call_ofName (ld_fn F S hk hv ?_ hd)
  refine callWith_def (o := o) (fd := fd) hdat (wpAny_mono (ha A hA E s H pos S) (fun xs s₁ ⟨k1, r1⟩ => ?_) fun _ _ e => e) he
  have S₁ := S.keeps (kp_get k1)
  exact ⟨B.KX.keeps S₁.base.keep _ _ ho, wpAny_mono (h2 A hA E s₁ H xs S₁.sb r1) (fun z s₂ ⟨k2, r2⟩ => ⟨kp_trans k1 k2, r2⟩) fun _ _ e => e⟩
end
end Mine

-- part Gw15
namespace Mine

/-- what a name of the top means -/
noncomputable def gname (K : Frag) (x : Str) : Option Value := match K.lookup mainGlobals with
  | some ⟨_, _, .dict es _, _⟩ => nsFind es x
  | _ => none
noncomputable def hasTop (K : Frag) : Bool := match K.lookup mainGlobals with
  | some ⟨_, _, .dict _ _, _⟩ => true
  | _ => false
theorem mg_of {B : Bs} (ht : hasTop B.K = true) (x : Str) : B.mg x = gname B.K x := by
  unfold gname
  unfold hasTop at ht
  split at ht
  · rename_i c d es n sl h
    obtain ⟨o, es', ep, ho, hd, _, hm⟩ := B.g
    have := B.KX _ _ h
    rw [ho] at this
    cases this
    cases hd
    exact (hm x).symm
  · cases ht
theorem glob_b {B : Bs} {x : Str} {v : Value} (ht : hasTop B.K = true) (hg : gname B.K x = none) (hb : bootBuiltins x = some v) (hx : x ≠ "__name__") : (B.mg x).or (B.mb x) = some v := by
  rw [mg_of ht, hg, B.bb x hx, hb]; rfl
theorem glob_g {B : Bs} {x : Str} {v : Value} (ht : hasTop B.K = true) (hg : gname B.K x = some v) : B.mg x = some v := by rw [mg_of ht, hg]

noncomputable def fdOf (K : Frag) (a : Addr) : FuncData := match K.lookup a with
  | some ⟨_, _, .func fd, _⟩ => fd
  | _ => default
noncomputable def bodyOf (fd : FuncData) : List Stmt := match fd.body with
  | .stmts b => b
  | _ => []
noncomputable def codeOk (K : Frag) (cd : Value) (q : Str) : Bool := match cd with
  | .ref c => (match K.lookup c with
    | some ⟨_, _, .fields vs, _⟩ => (match (vs[1]? : Option Value) with
      | some (Value.str x _) => x == q
      | _ => false)
    | _ => false)
  | _ => false
noncomputable def fnOkB (K : Frag) (a : Addr) : Bool :=
  (match K.lookup a with | some ⟨_, _, .func _, _⟩ => true | _ => false) && (match (fdOf K a).body with | .stmts _ => true | _ => false) && (fdOf K a).closure.isEmpty && (fdOf K a).globals == mainGlobals && (fdOf K a).builtins == builtinsNs &&
  codeOk K (fdOf K a).code (fdOf K a).qualname && !(fdOf K a).scope.isCoroutine && !(fdOf K a).scope.isGenerator && (fdOf K a).scope.kind == .function && nodupB ((fdOf K a).scope.names.map (·.1)) && ((fdOf K a).scope.names.all fun x => x.2 != .free)
theorem fnOk_of {B : Bs} {a : Addr} (h : fnOkB B.K a = true) : FnOk B a (fdOf B.K a) (bodyOf (fdOf B.K a)) := by
  simp only [fnOkB, Bool.and_eq_true, beq_iff_eq, Bool.not_eq_eq_eq_not, Bool.not_true] at h
  obtain ⟨⟨⟨⟨⟨⟨⟨⟨⟨⟨h1, h2⟩, h3⟩, h4⟩, h5⟩, h6⟩, h7⟩, h8⟩, h9⟩, h10⟩, h11⟩ := h
  refine ⟨?_, ?_, by simpa using h3, h4, h5, ?_, h7, h8, h9, h10, h11⟩
  · unfold fdOf
    split at h1
    · rename_i c d fd sl ho
      exact ⟨_, ho, rfl⟩
    · cases h1
  · unfold bodyOf
    split at h2
    · rename_i b hb; rw [hb]
    · cases h2
  · unfold codeOk at h6
    split at h6
    · rename_i c hc
      split at h6
      · rename_i c' d vs sl ho
        split at h6
        · rename_i x t hx
          refine ⟨c, _, vs, t, hc, B.KX _ _ ho, rfl, ?_⟩
          rw [hx, eq_of_beq h6]
        · cases h6
      · cases h6
    · cases h6

theorem repAll_ints {H : Hd} {h : Heap} : ∀ {vs : List Value} {ns : List Int}, IntsAre vs ns → RepAll H h vs (ns.map V.int)
  | _, _, .nil => .nil
  | _, _, .cons i t r => .cons (.int i t) (repAll_ints r)

theorem well_list {P : Params} {h : Heap} {a : Addr} {ns : List Int} {vs : List Value} (w : Well P h (.ref a) (ofPy (.list (ns.map .int)))) (hl : h.IsList a vs.toArray) : h.get? a = some (lisObj vs.toArray 0) := by
  obtain ⟨o, ho, hc, n, hd⟩ := hl
  have : ∀ d, ofPy (.list (ns.map .int)) = d → Well P h (.ref a) d → h.get? a = some (lisObj vs.toArray 0) := by
    intro d hd' w
    cases w with
    | list hg _ =>
      rw [ho] at hg; cases hg
      cases hd
      exact ho
    | _ => (simp [ofPy] at hd'; try (first | cases hd' | (rw [ho] at *; simp_all)))
  exact this _ rfl w
end Mine

-- part Gw16
namespace Mine

theorem ints_of_rep {H : Hd} {h : Heap} : ∀ {vs : List Value} {ns : List Int}, RepAll H h vs (ns.map V.int) → IntsAre vs ns
  | _, [], r => by cases r; exact .nil
  | _, i :: ns, r => by
    cases r with
    | cons r1 r => cases r1; exact .cons i _ (ints_of_rep r)

-- data by value, the handles read through the store
mutual
noncomputable def py (st : Store) : Nat → V → Option PyData
  | _, .none => some .none
  | _, .bool b => some (.bool b)
  | _, .int i => some (.int i)
  | _, .str s => some (.str s)
  | f + 1, .tup l => (pys st f l).map .tuple
  | f + 1, .lst l => (pys st f l).map .list
  | f + 1, .ref k => match st[k]? with
    | some l => (pys st f l).map .list
    | none => none
  | _, _ => none
noncomputable def pys (st : Store) : Nat → List V → Option (List PyData)
  | _, [] => some []
  | f, v :: vs => match py st f v, pys st f vs with
    | some d, some ds => some (d :: ds)
    | _, _ => none
end

theorem reads_of {H : Hd} {st : Store} {h : Heap} (S : SimH H st h) : ∀ (f : Nat) {x : Value} {v : V} {d : PyData}, Rep H h x v → py st f v = some d → ∃ as, Reads h x d as := by
  have all : ∀ (f : Nat), (∀ {x : Value} {v : V} {d : PyData}, Rep H h x v → py st f v = some d → ∃ as, Reads h x d as) → ∀ {xs : List Value} {vs : List V} {ds : List PyData}, RepAll H h xs vs → pys st f vs = some ds → ∃ as, ReadsAll h xs ds as := by
    intro f ih xs
    induction xs with
    | nil => intro vs ds r hd; cases r; simp [pys] at hd; subst hd; exact ⟨_, .nil⟩
    | cons x xs hi =>
      intro vs ds r hd
      cases r with
      | @cons _ _ v vs r1 r =>
        unfold pys at hd
        cases e1 : py st f v with
        | none => rw [e1] at hd; cases hd
        | some d =>
          cases e2 : pys st f vs with
          | none => rw [e1, e2] at hd; cases hd
          | some ds' =>
            rw [e1, e2] at hd
            cases hd
            obtain ⟨as, q⟩ := ih r1 e1
            obtain ⟨bs, q'⟩ := hi r e2
            exact ⟨_, .cons q q'⟩
  intro f
  induction f with
  | zero => intro x v d r hd; cases r <;> simp [py] at hd <;> subst hd <;> exact ⟨_, by constructor⟩
  | succ f ih =>
    intro x v d r hd
    cases r with
    | none => simp [py] at hd; subst hd; exact ⟨_, .none⟩
    | bool b => simp [py] at hd; subst hd; exact ⟨_, .bool b⟩
    | int i t => simp [py] at hd; subst hd; exact ⟨_, .int i t⟩
    | str s t => simp [py] at hd; subst hd; exact ⟨_, .str s t⟩
    | tup ha ho hr =>
      simp only [py, Option.map_eq_some_iff] at hd
      obtain ⟨ds, e, rfl⟩ := hd
      obtain ⟨as, q⟩ := all f ih hr e
      exact ⟨_, .tuple ho rfl rfl q⟩
    | lst ha ho hr =>
      simp only [py, Option.map_eq_some_iff] at hd
      obtain ⟨ds, e, rfl⟩ := hd
      obtain ⟨as, q⟩ := all f ih hr e
      exact ⟨_, .list ho rfl rfl q⟩
    | @ref k a hk =>
      simp only [py] at hd
      cases hl : st[k]? with
      | none => rw [hl] at hd; cases hd
      | some l =>
        rw [hl] at hd
        simp only [Option.map_eq_some_iff] at hd
        obtain ⟨ds, e, rfl⟩ := hd
        obtain ⟨vs, n, ho, hr⟩ := S.at_ k a l hk hl
        obtain ⟨as, q⟩ := all f ih hr e
        exact ⟨_, .list ho rfl rfl q⟩
    | val x => simp [py] at hd

section
variable {B : Bs} {n : Nat} {st : Store}

theorem o_maxL {a : V} {ns : List Int} {M : Int} (hl : lis st a = some (ns.map V.int)) (hM : M ∈ ns) (hmax : ∀ x ∈ ns, x ≤ M) : PL B n st (fun xs => call (.builtin "max") xs) [a] (.int M) := PL.one fun A hA E s H x S rx => by
  obtain ⟨ad, vs, m, rfl, ho, hr⟩ := lis_at (B := B) S.sto rx hl
  have hi := ints_of_rep hr
  obtain ⟨xs, e⟩ := hi.allInts.items
  have hns : ns = xs.toList.map (·.1) := by rw [← hi.numsOf, ← nums_intItems, ← e]
  have hsz : 0 < xs.size := by
    rcases Nat.eq_zero_or_pos xs.size with h | h
    · have : xs.toList = [] := by simpa using h
      rw [hns, this] at hM; cases hM
    · exact h
  have hL : s.heap.IsList ad (intItems xs) := by rw [← e]; simpa using isList_of ho
  refine max_intList hA.hd hL hsz fun v h' tk hv hk => ?_
  obtain ⟨t, rfl⟩ := intItems_at hv
  obtain ⟨h1, h2⟩ := argBest_gt (numAt xs) (xs.size - 1)
  have e1 : numAt xs (argBest (fun i j => decide (numAt xs i > numAt xs j)) (xs.size - 1)) = M := by
    apply Int.le_antisymm
    · apply hmax
      rw [hns, numAt_eq]; exact getD_mem (by rw [List.length_map, Array.length_toList]; omega)
    · rw [hns] at hM
      obtain ⟨p, hp, rfl⟩ := List.mem_map.mp hM
      obtain ⟨i, hi'⟩ := List.getElem?_of_mem hp
      have hil := (List.getElem?_eq_some_iff.mp hi').1
      have : numAt xs i = p.1 := by rw [numAt]; simp at hi' hil; simp [hi']
      rw [← this]
      exact h2 i (by simp at hil; omega)
  rw [e1]
  exact ⟨⟨h', tk, rfl, .of hk⟩, .int ..⟩
theorem o_sumL {a : V} {ns : List Int} (hl : lis st a = some (ns.map V.int)) : PL B n st (fun xs => call (.builtin "sum") xs) [a] (.int ns.sum) := PL.one fun A hA E s H x S rx => by
  obtain ⟨ad, vs, m, rfl, ho, hr⟩ := lis_at (B := B) S.sto rx hl
  have hi := ints_of_rep hr
  obtain ⟨xs, e⟩ := hi.allInts.items
  have hns : ns = xs.toList.map (·.1) := by rw [← hi.numsOf, ← nums_intItems, ← e]
  have hL : s.heap.IsList ad (intItems xs) := by rw [← e]; simpa using isList_of ho
  refine sum_intListG hA.hd hL fun h' tk t' hk => ?_
  have e2 : preSum (numAt xs) xs.size = ns.sum := by rw [preSum_eq, List.take_of_length_le (by simp), hns]
  rw [e2]
  exact ⟨⟨h', tk, rfl, .of hk⟩, .int ..⟩
theorem o_neD {a b : V} {da db : PyData} (f g : Nat) (ha : py st f a = some da) (hb : py st g b = some db) (sa : SeqAt.shaped da = true) (sb : SeqAt.shaped db = true) : P2 B n st (compareOp .NotEq) a b (.bool (!PyData.eqv da db)) := fun A hA E s H x y S rx ry => by
  obtain ⟨as, ra⟩ := reads_of S.sto f rx ha
  obtain ⟨bs, rb⟩ := reads_of S.sto g ry hb
  exact ne_dataH ra rb sa sb (by have := hA.un; simp only [cLine]; omega) ⟨kp_refl _, .bool _⟩
theorem o_neSame {a b : V} {d : PyData} (f g : Nat) (ha : py st f a = some d) (hb : py st g b = some d) (sa : SeqAt.shaped d = true) : P2 B n st (compareOp .NotEq) a b (.bool false) := by
  have := o_neD (B := B) (n := n) f g ha hb sa sa
  rwa [SeqAt.eqv_refl d (SeqAt.canLay_of_shaped sa)] at this
end
end Mine

-- part Gw17
namespace Mine
section
variable {B : Bs} {n m : Nat} {env : Env} {ρ : Nm} {st : Store} {Φ : Fl → Nm → Store → Prop} {Ψ : V → Store → Prop}

theorem nm_ne {ρ : Nm} {x y : Str} {v w : V} (h : ρ y = some w) (hne : y ≠ x := by decide +kernel) : upd ρ x v y = some w := by unfold upd; rw [if_neg hne]; exact h
theorem nm_eq {ρ : Nm} {x : Str} {v : V} : upd ρ x v x = some v := by unfold upd; rw [if_pos rfl]

/-- a local name -/
theorem pn {x : Str} {pos : Pos} {v : V} (hv : ρ x = some v) (hk : env.kindOf x = some .local := by kernel_rfl)
    (hd : (x == ("__debug__" : Str)) = false := by kernel_rfl) (hc : (x == ("__classdict__" : Str)) = false := by kernel_rfl) : PE B n env ρ st (.Name x pos) v := pe_name hv (.inl hk) hd hc
/-- a name in a cell of its own -/
theorem pc {x : Str} {pos : Pos} {v : V} (hv : ρ x = some v) (hk : env.kindOf x = some .cell := by kernel_rfl)
    (hd : (x == ("__debug__" : Str)) = false := by kernel_rfl) (hc : (x == ("__classdict__" : Str)) = false := by kernel_rfl) : PE B n env ρ st (.Name x pos) v := pe_name hv (.inr (.inl hk)) hd hc
/-- a name of a frame around -/
theorem pf {x : Str} {pos : Pos} {v : V} (hv : ρ x = some v) (hk : env.kindOf x = some .free := by kernel_rfl)
    (hd : (x == ("__debug__" : Str)) = false := by kernel_rfl) (hc : (x == ("__classdict__" : Str)) = false := by kernel_rfl) : PE B n env ρ st (.Name x pos) v := pe_name hv (.inr (.inr hk)) hd hc

theorem xa {x : Str} {px pos : Pos} {e : Expr} (h : PM B n env m ρ st e (fun v st' => Φ .next (upd ρ x v) st')) (hk : env.kindOf x = some .local := by kernel_rfl) (hs : swapsWith e (some (.Name x px)) pos.line env = pure false := by rfl) :
    EX1 B n env m ρ st (.Assign [.Name x px] e pos) Φ := x_assign h (.inl hk) hs
theorem xc {x : Str} {px pos : Pos} {e : Expr} (h : PM B n env m ρ st e (fun v st' => Φ .next (upd ρ x v) st')) (hk : env.kindOf x = some .cell := by kernel_rfl) (hs : swapsWith e (some (.Name x px)) pos.line env = pure false := by rfl) :
    EX1 B n env m ρ st (.Assign [.Name x px] e pos) Φ := x_assign h (.inr hk) hs

/-- an if whose ways meet again -/
theorem x_ifJ {t : Expr} {b o : List Stmt} {pos : Pos} {c : Bool} (J : Nm → Store → Prop) (h1 : PT B n env ρ st t c) (h2 : c = true → EX B n env m ρ st b (fun f ρ st => f = .next ∧ J ρ st)) (h3 : c = false → EX B n env m ρ st o (fun f ρ st => f = .next ∧ J ρ st))
    (h4 : ∀ ρ st, J ρ st → Φ .next ρ st) : EX1 B n env m ρ st (.If t b o pos) Φ :=
  x_if h1 (fun h => (h2 h).mono fun f ρ st q => by rw [q.1]; exact h4 _ _ q.2) (fun h => (h3 h).mono fun f ρ st q => by rw [q.1]; exact h4 _ _ q.2)

theorem o_lenN {a : V} {l : List V} {k : Nat} (hl : lis st a = some l) (hk : l.length = k) (hfit : k < 2 ^ 62) : PL B n st (fun xs => call (.builtin "len") xs) [a] (.int k) := by subst hk; exact o_len hl hfit
theorem o_neF {a : Int} : P2 B n st (compareOp .NotEq) (.int a) (.int a) (.bool false) := by have := o_ne (B := B) (n := n) (st := st) (a := a) (b := a); simpa using this
theorem o_ltD {a b : Int} {c : Bool} (h : decide (a < b) = c) : P2 B n st (compareOp .Lt) (.int a) (.int b) (.bool c) := h ▸ o_lt
end
end Mine

-- part Gw18
namespace Mine
section
variable {B : Bs} {n m : Nat} {env : Env} {ρ : Nm} {st : Store} {Φ : Fl → Nm → Store → Prop} {Ψ : V → Store → Prop}

/-- the namespace of a comprehension is let go -/
theorem Sim.but {H : Hd} {h h' : Heap} {C : Addr} {q : Str → Option Value} (S : Sim B env ρ st H h) (hn : h.Ns C q) (hC0 : B.free C) (hL : env.locals ≠ C) (hs : Heap.SameBut C h h') : Sim B env ρ st H h' ∧ DKeep H h H h' := by
  have ks : ∀ b o, IsSeq o → h.get? b = some o → h'.get? b = some o := fun b o hq e => hs.extBut b o (fun e' => by
    subst e'
    obtain ⟨o', es, ep, ho', hd, _⟩ := hn
    rw [e] at ho'; cases ho'
    obtain ⟨_, _, hq⟩ := hq
    rw [hd] at hq; cases hq) e
  have kc : ∀ {c : Addr} {v : Option Value}, h.IsCell c v → c ≠ C := fun hc e => by
    subst e
    obtain ⟨o, es, ep, ho, hd, _⟩ := hn
    obtain ⟨o', ho', hd'⟩ := hc
    rw [ho] at ho'; cases ho'; rw [hd] at hd'; cases hd'
  refine ⟨⟨base_ne S.base (W := (· = C)) (fun b o hb e => hs.extBut b o hb e) (fun b hb => hb ▸ hC0) (fun b o hb e => by subst hb; exact ns_notCode hn e), S.sto.keepSeq ks, S.en.kind, S.en.gl, S.en.bi, ?_, fun z w hz hw => ?_, fun z c hz => ?_, S.en.has, S.en.apart⟩, dk_seq ks⟩
  · obtain ⟨q', hm, hr⟩ := S.en.loc
    exact ⟨q', hm.sameBut hs hL, fun z w hz hw => let ⟨y, hy, r⟩ := hr z w hz hw; ⟨y, hy, r.ext (dk_seq ks)⟩⟩
  · obtain ⟨c, y', h1, h2, h3⟩ := S.en.cell z w hz hw
    exact ⟨c, y', h1, h2.sameBut hs (kc h2), h3.ext (dk_seq ks)⟩
  · obtain ⟨w, hc⟩ := S.en.cells z c hz
    exact ⟨w, hc.sameBut hs (kc hc)⟩

/-- a list comprehension gives these -/
noncomputable def PC (B : Bs) (n : Nat) (env : Env) (ρ : Nm) (st : Store) (e : Expr) (out : List V) : Prop :=
  ∃ elt target iter ifs gs scope pos, e = .ListComp elt (⟨target, iter, ifs, 0⟩ :: gs) scope pos ∧ (∀ x, foldedSetIterable iter env x = pure x) ∧ okScope env scope = true ∧
    ∀ A, Rm n A → ∀ (E : Value → Shared → Prop) (s : Shared) (H : Hd) (RR : Value → Addr → Result → Shared → Prop), Sim B env ρ st H s.heap →
      (∀ D C h' tk m, s.heap.get? D = none → s.heap.get? C = none → D ≠ C → h'.Ns C m → AccAt D out ⟨H.hs, [D] ++ H.xs⟩ h' → KH B s.heap h' → RR (.ref D) C (.ok .next) { s with heap := h', toks := tk }) →
      wpAny (model B.prog B.w) A (eval iter env) (fun xv s₁ => wpAny (model B.prog B.w) A (pyIter xv) (fun it s₂ => wpAny (model B.prog B.w) A (newList []) (fun acc s₃ => wpAny (model B.prog B.w) A (newFunctionEnv scope env.globals (closOf env scope.names []) [] env.qual none .none (some env)) (fun cenv s₄ =>
        codeAny (model B.prog B.w) A (.compStart (.ListComp elt (⟨target, iter, ifs, 0⟩ :: gs) scope pos) 0 it acc { cenv with scope := relabel scope env }) (RR acc cenv.locals) s₄) E s₃) E s₂) E s₁) E s

theorem PC.pe {e : Expr} {out : List V} (h : PC B n env ρ st e out) : PE B n env ρ st e (.lst out) := fun A hA E s H S => by
  obtain ⟨elt, target, iter, ifs, gs, scope, pos, rfl, hs, ok, h⟩ := h
  obtain ⟨f1, f2, f3⟩ := okScope_facts ok
  rw [eval_ListComp]
  refine wpAny_comprehension_free (use := none) rfl hs (hclos_of S.en ok) f1 (hnames_of f2) (h A hA E s H (fun acc C => compPost (model B.prog B.w) A E none _ acc C) S ?_)
  intro D C h' tk m hD hC hDC hn acc kp
  refine ⟨m, hn, fun h'' hs'' => ?_⟩
  obtain ⟨⟨vs', q, ho, hr⟩, hDH⟩ := accAt_end S.sto hD hDC hn acc hs''
  exact ⟨⟨h'', tk, rfl, kp.but hC hn hs''⟩, .lst hDH ho hr.dropX⟩

/-- x = [...]: the store is made ahead of the variables' end -/
theorem xu {e : Expr} {out : List V} {y : Str} {py spos : Pos} (h : PC B n env ρ st e out) (hp : Φ .next (upd ρ y (.lst out)) st) (hk : env.kindOf y = some .local := by kernel_rfl) (hsw : swapsWith e (some (.Name y py)) spos.line env = pure true := by kernel_rfl) : EX1 B n env m ρ st (.Assign [.Name y py] e spos) Φ := fun A hA O E s H S => by
  obtain ⟨elt, target, iter, ifs, gs, scope, pos, rfl, hs, ok, h⟩ := h
  obtain ⟨f1, f2, f3⟩ := okScope_facts ok
  rw [exec_Assign_Name_used _ _ _ _ hsw]
  refine wpAny_bind (wpAny_standAt (wpAny_bind ?_))
  show wpAny _ A (do let _ ← comprehension (.ListComp elt (⟨target, iter, ifs, 0⟩ :: gs) scope pos) scope env _ (newList []) false (eval iter env) (some (assign (.Name y py) env))) _ _ s
  refine wpAny_bind (wpAny_mono (wpAny_comprehension_free (use := some (assign (.Name y py) env)) (Q := fun _ s' => _) rfl hs (hclos_of S.en ok) f1 (hnames_of f2) (h A hA E s H (fun acc C => compPost (model B.prog B.w) A E (some (assign (.Name y py) env)) _ acc C) S ?_)) (fun _ s' hq => wpAny_pure (wpAny_pure hq)) fun _ _ e => e)
  intro D C h' tk q hD hC hDC hn acc kp
  show wpAny _ A (assign (.Name y py) env (.ref D)) _ _ _
  have S' := S.keeps kp
  obtain ⟨⟨vs', q', ho, hr⟩, hDH⟩ := accAt_end S.sto hD hDC hn acc (h'' := h') (Heap.SameBut.refl _ _)
  have hlive : ∀ b, wrt env [y] b → b ≠ C := fun b hb e => by
    subst e
    obtain ⟨o, ho⟩ := S.en.live _ (wrt_own hb)
    rw [hC] at ho; cases ho
  have hC0 : B.free C := S.base.free hC
  refine wpAny_assign_Name (st_name (xs := [y]) (v := .lst out) S' (O.own _) (by simp) (.inl hk) (.lst hDH ho hr.dropX) fun h₂ tk₂ S₂ kp₂ => ?_)
  have hn₂ : h₂.Ns C q := hn.at' fun o e => kp₂ C o (fun hw => hlive C hw rfl) e
  refine ⟨q, hn₂, fun h₃ hs₃ => ?_⟩
  obtain ⟨S₃, dk₃⟩ := S₂.but hn₂ hC0 (hlive _ (.inl rfl)) hs₃
  refine ⟨.next, _, st, H, h₃, tk₂, rfl, hp, .next, S₃, ?_⟩
  refine ⟨⟨[], by simp⟩, rfl, fun _ a b => absurd a b, fun b o hb _ hx e => ?_⟩
  exact hs₃.extBut b o (fun e' => by subst e'; rw [hC] at e; cases e) (kp₂ b o (fun hw => hb (wrt_own hw)) (kp.keep b o hx e))

theorem pc_comp0 {elt target iter : Expr} {ifs : List Expr} {scope : Scope} {pos : Pos} {vs : List V} {Cond : Store → Prop} {Tg : Expr → Prop} {pl : Bool} {xs : List Str} (hiter : PI B n env ρ st iter vs Cond Tg pl) (htg : Tg target) (ok : okScope env scope = true) (hxs : ∀ x ∈ xs, scope.names.lookup x = some .local ∨ scope.names.lookup x = some .cell)
    (outs : List (List V)) (hlen : outs.length = vs.length)
    (hturn : ∀ (i : Nat) v out, vs[i]? = some v → outs[i]? = some out → ∀ C, ∃ ρ' p w, PA B n (cEnv scope C env) st target v xs (restr scope ρ) ρ' ∧ PTs B n (cEnv scope C env) ρ' st ifs p ∧ (p = true → PE B n (cEnv scope C env) ρ' st elt w) ∧ out = (if p then [w] else []) ∧ ∀ y u, restr scope ρ y = some u → ρ' y = some u)
    (hsz : (outs.flatten).length ≤ sizeLine) (hs : ∀ x, foldedSetIterable iter env x = pure x := by intro _; rfl) :
    PC B n env ρ st (.ListComp elt [⟨target, iter, ifs, 0⟩] scope pos) outs.flatten :=
  ⟨elt, target, iter, ifs, [], scope, pos, rfl, hs, ok, fun A hA E s H RR S hRR => comp_block1 (RR := RR) hA S hiter htg ok hxs outs hlen hturn hsz hRR⟩

theorem pc_if {α : Type} {elt target iter : Expr} {ifs : List Expr} {scope : Scope} {pos : Pos} {Cond : Store → Prop} {Tg : Expr → Prop} {pl : Bool} (xs : List Str) (as : List α) (c : α → V) (ρ' : α → Str → Option V) (p : α → Bool) (f : α → V) {vs out : List V} (hout : out = (as.filter p).map f) (hiter : PI B n env ρ st iter vs Cond Tg pl) (hvs : vs = as.map c) (htg : Tg target) (ok : okScope env scope = true)
    (hxs : ∀ x ∈ xs, scope.names.lookup x = some .local ∨ scope.names.lookup x = some .cell)
    (hpa : ∀ a ∈ as, ∀ C, PA B n (cEnv scope C env) st target (c a) xs (restr scope ρ) (ρ' a)) (hw : ∀ a ∈ as, ∀ y u, restr scope ρ y = some u → ρ' a y = some u)
    (hp : ∀ a ∈ as, ∀ C, PTs B n (cEnv scope C env) (ρ' a) st ifs (p a)) (hf : ∀ a ∈ as, p a = true → ∀ C, PE B n (cEnv scope C env) (ρ' a) st elt (f a))
    (hsz : as.length ≤ sizeLine) (hs : ∀ x, foldedSetIterable iter env x = pure x := by intro _; rfl) :
    PC B n env ρ st (.ListComp elt [⟨target, iter, ifs, 0⟩] scope pos) out := by
  subst hvs hout
  rw [← flatten_if]
  refine pc_comp0 hiter htg ok hxs _ (by simp) (fun i v out hv ho C => ?_) ?_ hs
  · rw [List.getElem?_map] at hv ho
    cases ha : as[i]? with
    | none => rw [ha] at hv; cases hv
    | some a =>
      rw [ha] at hv ho
      cases hv; cases ho
      have hm := List.mem_of_getElem? ha
      exact ⟨ρ' a, p a, f a, hpa a hm C, hp a hm C, fun h => hf a hm h C, rfl, hw a hm⟩
  · rw [flatten_if, List.length_map]; exact Nat.le_trans (List.length_filter_le _ _) hsz

theorem pc_name {α : Type} {elt iter : Expr} {x : Str} {px : Pos} {ifs : List Expr} {scope : Scope} {pos : Pos} {Cond : Store → Prop} {Tg : Expr → Prop} {pl : Bool} (as : List α) (c : α → V) (p : α → Bool) (f : α → V) {vs out : List V} (hout : out = (as.filter p).map f) (hiter : PI B n env ρ st iter vs Cond Tg pl) (hvs : vs = as.map c) (htg : Tg (.Name x px))
    (hp : ∀ a ∈ as, ∀ C, PTs B n (cEnv scope C env) (upd (restr scope ρ) x (c a)) st ifs (p a)) (hf : ∀ a ∈ as, p a = true → ∀ C, PE B n (cEnv scope C env) (upd (restr scope ρ) x (c a)) st elt (f a))
    (hsz : as.length ≤ sizeLine) (ok : okScope env scope = true := by kernel_rfl) (hx : scope.names.lookup x = some .local := by kernel_rfl) (hs : ∀ x, foldedSetIterable iter env x = pure x := by intro _; rfl) :
    PC B n env ρ st (.ListComp elt [⟨.Name x px, iter, ifs, 0⟩] scope pos) out :=
  pc_if [x] as c (fun a => upd (restr scope ρ) x (c a)) p f hout hiter hvs htg ok (fun y hy => by cases List.mem_singleton.mp hy; exact .inl hx) (fun a _ C => pa_name (List.mem_singleton.mpr rfl) (kind_comp (.inl hx))) (fun a _ => upd_weak (.inl hx) fun _ _ h => h) hp hf hsz hs
/-- two names as the target -/
theorem pc_two {α : Type} {elt iter : Expr} {x y : Str} {px py pt : Pos} {kt : Nat} {ifs : List Expr} {scope : Scope} {pos : Pos} {Cond : Store → Prop} {Tg : Expr → Prop} {pl : Bool} (as : List α) (c d : α → V) (p : α → Bool) (f : α → V) {vs out : List V} (hout : out = (as.filter p).map f) (hiter : PI B n env ρ st iter vs Cond Tg pl) (hvs : vs = as.map fun a => V.tup [c a, d a]) (htg : Tg (.Tuple [.Name x px, .Name y py] kt pt))
    (hp : ∀ a ∈ as, ∀ C, PTs B n (cEnv scope C env) (upd (upd (restr scope ρ) x (c a)) y (d a)) st ifs (p a)) (hf : ∀ a ∈ as, p a = true → ∀ C, PE B n (cEnv scope C env) (upd (upd (restr scope ρ) x (c a)) y (d a)) st elt (f a))
    (hsz : as.length ≤ sizeLine) (ok : okScope env scope = true := by kernel_rfl) (hx : scope.names.lookup x = some .local := by kernel_rfl) (hy : scope.names.lookup y = some .local := by kernel_rfl) (hs : ∀ x, foldedSetIterable iter env x = pure x := by intro _; rfl) :
    PC B n env ρ st (.ListComp elt [⟨.Tuple [.Name x px, .Name y py] kt pt, iter, ifs, 0⟩] scope pos) out :=
  pc_if [x, y] as _ (fun a => upd (upd (restr scope ρ) x (c a)) y (d a)) p f hout hiter hvs htg ok (fun z hz => by simp at hz; rcases hz with rfl | rfl <;> exact .inl (by assumption))
    (fun a _ C => pa_tuple (pas_cons (pa_name (by simp) (kind_comp (.inl hx))) (pas_cons (pa_name (by simp) (kind_comp (.inl hy))) pas_nil))) (fun a _ => upd_weak (.inl hy) (upd_weak (.inl hx) fun _ _ h => h)) hp hf hsz hs

/-- a range by its length -/
theorem pi_rangeN {np pos : Pos} {e : Expr} {k : Nat} {vs : List V} (h1 : PE B n env ρ st e (.int k)) (hvs : vs = (List.range k).map fun j => V.int (j : Nat)) (hb : k < 2 ^ 62)
    (hv : (B.mg "range").or (B.mb "range") = some (.type "range")) (hk : env.kindOf "range" = some .globalImplicit := by kernel_rfl)
    (he : starEach [e] env = [(false, eval e env)] := by rfl) :
    PI B n env ρ st (.Call (.Name "range" np) [e] [] pos) vs (fun _ => True) AnyT true := by
  have := pi_range1 (np := np) (pos := pos) h1 (by omega) hv hk he
  rw [hvs]
  have e : (rng 0 1 (k : Int).toNat).map V.int = (List.range k).map fun j => V.int (j : Nat) := by simp [rng]
  rwa [e] at this

/-- names of the frame within a comprehension -/
theorem rs {scope : Scope} {x : Str} {v : V} (h : ρ x = some v) (hk : scope.names.lookup x = some .free := by kernel_rfl) : restr scope ρ x = some v := by unfold restr; rw [if_pos hk]; exact h
end
end Mine

-- part Gw19
namespace Mine
section
variable {B : Bs} {n m : Nat}

end
end Mine

-- part Gw20
namespace Mine

theorem codeAmong_app {pos : Pos} {a b : Int} {c cv : Value} (l : List Value) (h : TriplesOk l) (hs : codeAmong pos (l ++ [rawInt a, rawInt b, c]) = some cv) : codeAmong pos l = some cv ∨ cv = c := by
  fun_induction TriplesOk l with
  | case1 =>
    simp only [List.nil_append, rawInt, codeAmong] at hs
    split at hs
    · cases hs; exact .inr rfl
    · cases hs
  | case2 a' t b' u x rest ih =>
    simp only [List.cons_append, codeAmong] at hs ⊢
    split at hs
    · rename_i hc; rw [if_pos hc]; exact .inl hs
    · rename_i hc; rw [if_neg hc]; exact ih h hs
  | case3 => exact h.elim

theorem triples_noStr {l : List Value} (h : TriplesOk l) {q : Str} {t : Tok} : l[1]? ≠ some (.str q t) := by
  fun_induction TriplesOk l with
  | case1 => simp
  | case2 a' t b' u x rest ih => simp
  | case3 => exact h.elim
theorem inj_nodup {α β : Type} {f : α → β} : ∀ {l : List α}, (l.map f).Nodup → ∀ {x y}, x ∈ l → y ∈ l → f x = f y → x = y
  | [], _, _, _, hx, _, _ => by simp at hx
  | a :: l, h, x, y, hx, hy, e => by
    simp only [List.map_cons, List.nodup_cons] at h
    rcases List.mem_cons.mp hx with e1 | hx'
    · rcases List.mem_cons.mp hy with e2 | hy'
      · rw [e1, e2]
      · exact absurd (by rw [← e1, e]; exact List.mem_map_of_mem hy') h.1
    · rcases List.mem_cons.mp hy with e2 | hy'
      · exact absurd (by rw [← e2, ← e]; exact List.mem_map_of_mem hx') h.1
      · exact inj_nodup h.2 hx' hy' e

section
variable {B : Bs} {n m : Nat} {env : Env} {ρ : Nm} {st : Store} {Φ : Fl → Nm → Store → Prop} {Ψ : V → Store → Prop}

/-- a lambda is made: its function stands, tables may have grown -/
theorem lam_eval {A : Around} {E : Value → Shared → Prop} {s : Shared} {H : Hd} {t : Tab} {params : Arguments} {body : Expr} {scope : Scope} {pos : Pos} {clos : List (Str × Addr)} {Q : Value → Shared → Prop} (S : Sim B env ρ st H s.heap) (ht : t ∈ B.tabs) (hcode : env.code = .ref t.c) (hq : env.qual ++ "<lambda>" = t.q)
    (hdef : defaultsOf params env = ([], [])) (hcl : closureFor scope env = pure clos)
    (h : ∀ f cv ctv h' tk, KH B s.heap h' → s.heap.get? f = none → h'.get? f = some { cls := .type "function", data := .func (kla_fn "<lambda>" t.q params body scope clos ((B.mg "__name__").getD .none) cv ctv) } → h'.CodeRec cv t.q → Q (.ref f) { s with heap := h', toks := tk }) :
    wpAny (model B.prog B.w) A (eval (.Lambda params body scope pos) env) Q E s := by
  refine kla_eval hdef ?_
  obtain ⟨ps, hP, htr, hrec⟩ := S.base.tab t ht
  have hg : s.heap.Ns mainGlobals B.mg := B.g.keeps S.base.keep
  have hgP : mainGlobals ≠ t.P := fun q => by
    obtain ⟨o, es, ep, e, hd, _⟩ := hg
    rw [q, hP] at e; cases e; cases hd
  have hb : s.heap.BuiltinsAt B.mg t.P := by
    obtain ⟨bm, ob, b1, b2, b3, b4, b5, b6⟩ := B.bm
    have b3' := S.base.keep _ _ b3
    refine ⟨bm, ob, b1, b2, fun q => ?_, fun q => ?_, b3', b4, b5, b6⟩
    · obtain ⟨o, es, ep, e, hd, _⟩ := hg
      rw [q, e] at b3'; cases b3'; rw [hd] at b6; cases b6
    · rw [q, hP] at b3'; cases b3'; cases b4
  have C := (B.codes t ht).keeps S.base.keep
  rw [hq]
  cases hcm : codeAmong pos ps.toList with
  | none =>
    refine kla_makeFunction (mg := B.mg) hcl S.en.gl hg hcode C hP htr hcm hgP hb fun c' ctv h' tk hx hge hlt hrc htb => ?_
    have kp : ∀ b o, b ≠ t.P → s.heap.get? b = some o → (h'.push (kla_obj "<lambda>" t.q params body scope clos ((B.mg "__name__").getD .none) c' ctv)).get? b = some o := fun b o hb e => Heap.get?_push_of_some _ (hx b o hb e)
    refine h _ (.ref c') ctv _ tk ⟨fun b o hne e => kp b o (fun eb => hne ?_) e, fun T t' ht' => ?_, fun b o e => ?_⟩ ?_ (Heap.get?_push_size _ rfl) (hrc.push _)
    · subst eb; rw [hP] at e; cases e
      exact ⟨⟨t, ht, rfl⟩, rfl, _, rfl⟩
    · by_cases eP : t'.P = t.P
      · have et : t' = t := by
          have := B.apartT
          exact inj_nodup this ht' ht eP
        subst et
        refine ⟨_, Heap.get?_push_of_some _ htb, ?_, fun pos' cv e => ?_⟩
        · have := TriplesOk_snoc pos.line pos.col (.ref c') _ htr
          simpa using this
        · have e' : codeAmong pos' (ps.toList ++ [rawInt pos.line, rawInt pos.col, .ref c']) = some cv := by simpa using e
          rcases codeAmong_app _ htr e' with e | rfl
          · obtain ⟨c, o, vs, u, e1, e2, e3, e4⟩ := hrec pos' cv e
            refine ⟨c, o, vs, u, e1, kp c o (fun ec => ?_) e2, e3, e4⟩
            rw [ec, hP] at e2; cases e2; cases e3
            exact triples_noStr htr (by simpa using e4)
          · exact hrc.push _
      · obtain ⟨ps', h1, h2, h3⟩ := T t' ht'
        refine ⟨ps', kp _ _ eP h1, h2, fun pos' cv e => ?_⟩
        obtain ⟨c, o, vs, u, e1, e2, e3, e4⟩ := h3 pos' cv e
        refine ⟨c, o, vs, u, e1, kp c o (fun ec => ?_) e2, e3, e4⟩
        rw [ec, hP] at e2; cases e2; cases e3
        exact triples_noStr htr (by simpa using e4)
    · by_cases eb : b = t.P
      · subst eb; exact ⟨_, Heap.get?_push_of_some _ htb⟩
      · exact ⟨o, kp b o eb e⟩
    · cases e : s.heap.get? h'.objs.size with
      | none => rfl
      | some o =>
        have h1 : (h'.objs.size : Nat) < s.heap.objs.size := Heap.lt_size e
        have h2 : (c' : Nat) < h'.objs.size := hlt
        have h3 : s.heap.objs.size ≤ (c' : Nat) := hge
        exact absurd (Nat.lt_of_lt_of_le (Nat.lt_trans h2 h1) h3) (Nat.lt_irrefl _)
  | some cv =>
    refine kla_makeFunctionHit (mg := B.mg) hcl S.en.gl hg hcode C hP htr hcm hb fun ctv h' tk hk hsz => ?_
    have kp : ∀ b o, s.heap.get? b = some o → (h'.push { cls := .type "function", data := .func (kla_fn "<lambda>" t.q params body scope clos ((B.mg "__name__").getD .none) cv ctv) }).get? b = some o := fun b o e => Heap.get?_push_of_some _ (hk b o e)
    refine h _ cv ctv _ tk (.of kp) ?_ (Heap.get?_push_size _ rfl) ((hrec pos cv hcm).keeps kp)
    cases e : s.heap.get? h'.objs.size with
    | none => rfl
    | some o =>
      exact absurd (Nat.lt_of_lt_of_le (Heap.lt_size e) hsz) (Nat.lt_irrefl _)
end
end Mine

-- part Gw21
namespace Mine

/-- a lambda's function -/
structure LamOk (B : Bs) (a : Addr) (fd : FuncData) (body : Expr) : Prop where
  at_ : ∃ o, B.h₀.get? a = some o ∧ o.data = .func fd
  body : fd.body = .expr body
  clo : fd.closure = []
  gl : fd.globals = mainGlobals
  bi : fd.builtins = builtinsNs
  cd : B.h₀.CodeRec fd.code fd.qualname
  co : fd.scope.isCoroutine = false
  gen : fd.scope.isGenerator = false
  kind : fd.scope.kind = .function
  nd : nodupB (fd.scope.names.map (·.1)) = true
  nofree : (fd.scope.names.all fun x => x.2 != .free) = true

noncomputable def lamScope (sc : Scope) : Bool := !sc.isCoroutine && !sc.isGenerator && sc.kind == .function && nodupB (sc.names.map (·.1)) && (sc.names.all fun x => x.2 != .free)

section
variable {B : Bs} {n m : Nat} {st : Store}

/-- the call of a lambda -/
theorem lam_pl {a : Addr} {fd : FuncData} {body : Expr} {names : List Str} {vs : List V} {c : V} (F : LamOk B a fd body) (hp : paramsOk fd.scope names = true) (hlen : names.length = vs.length)
    (hb : ∀ xs : List Value, xs.length = vs.length → bindArgs fd ⟨xs, []⟩ = pure (names.zip xs))
    (hx : ∀ L, PE B n (callEnvC fd L a) (fun x => (names.zip vs).lookup x) st body c) : PL B (n + 1) st (fun xs => call (.ref a) xs) vs c := fun A hA E s H ys S hr => by
  obtain ⟨o, ho, hdat⟩ := F.at_
  refine wpAny_call (kla_callFunE (by have := hA.dp; simp only [recursionLimit]; omega) (S.base.keep _ _ ho) hdat F.co F.gen F.body (F.cd.keeps S.base.keep) ?_)
  rw [hb ys hr.length]
  refine wpAny_pure ?_
  have hplen : names.length = ys.length := by rw [hlen, hr.length]
  have hnm : (names.zip ys).map (·.1) = names := List.map_fst_zip (Nat.le_of_eq hplen)
  simp only [paramsOk, Bool.and_eq_true, List.all_eq_true, Bool.or_eq_true, beq_iff_eq] at hp
  have hnd : ((names.zip ys).map (·.1)).Nodup := by rw [hnm]; exact nodupB_iff hp.1
  have hkinds : ∀ x ∈ names.zip ys, fd.scope.names.lookup x.1 = some .local ∨ (fd.scope.names.lookup x.1 = some .cell ∧ ((cellsFrom (s.heap.objs.size + 1) fd.scope.names []).lookup x.1).isSome = true) := fun x hx => by
    have hx' : x.1 ∈ names := by rw [← hnm]; exact List.mem_map.mpr ⟨x, hx, rfl⟩
    rcases hp.2 _ hx' with h | h
    · exact .inl h
    · obtain ⟨c, hc⟩ := cellsFrom_has (m := s.heap.objs.size + 1) (mem_of_lookup h)
      exact .inr ⟨h, by rw [hc]; rfl⟩
  rw [F.clo]
  refine wpAny_newFunctionEnv_cells F.kind hkinds fun env he s₁ x => ?_
  have he' : env = callEnvC fd s.heap.objs.size a := he
  have hLC : env.locals = s.heap.objs.size := by rw [he']; rfl
  have hcells : env.cells = cellsFrom (s.heap.objs.size + 1) fd.scope.names [] := by rw [he']; rfl
  have hscope : env.scope = fd.scope := by rw [he']; rfl
  obtain ⟨h₁, tk₁, e₁⟩ := x.toInCall.same
  have kp : ∀ b o, s.heap.get? b = some o → s₁.heap.get? b = some o := x.toInCall.keep
  have S₁ := S.keeps (.of kp)
  have hkindOf : ∀ y, env.kindOf y = fd.scope.names.lookup y := fun y => by show env.scope.names.lookup y = _; rw [hscope]
  have en : EnvRep env (fun x => (names.zip vs).lookup x) H s₁.heap := by
    refine ⟨by rw [hscope]; exact F.kind, by rw [he']; exact F.gl, by rw [he']; exact F.bi, ⟨_, x.toInCall.ns, fun y v hy hv => ?_⟩, fun y v hy hv => ?_, fun y c hc => ?_, fun y hy => ?_, x.apart⟩
    · obtain ⟨z, hz, rz⟩ := lookup_zip_rep hr hv
      refine ⟨z, ?_, rz.ext (.of_full kp)⟩
      rw [bindL_lookup _ _ _ _ hy hnd, hz]; rfl
    · obtain ⟨z, hz, rz⟩ := lookup_zip_rep hr hv
      have hmem : y ∈ names := by rw [← hnm]; exact List.mem_map.mpr ⟨_, mem_of_lookup hz, rfl⟩
      have hcell : fd.scope.names.lookup y = some .cell := by
        rcases hp.2 y hmem with h | h
        · rw [hkindOf, h] at hy; rcases hy with hy | hy <;> cases hy
        · exact h
      obtain ⟨c, hc⟩ := cellsFrom_has (m := s.heap.objs.size + 1) (mem_of_lookup hcell)
      rw [← hcells] at hc
      refine ⟨c, z, hc, ?_, rz.ext (.of_full kp)⟩
      have := x.cell y c hc
      rw [bindC_lookup _ _ _ _ (by rw [hkindOf, hcell]; simp) hnd, hz] at this
      exact this
    · have hl : env.cells.lookup y = some c := by
        rw [hcells] at hc ⊢
        exact cellsFrom_lookup (nodupB_iff F.nd) hc
      exact ⟨_, x.cell y c hl⟩
    · have hcell : fd.scope.names.lookup y = some .cell := by
        rw [hkindOf] at hy
        rcases hy with hy | hy
        · exact hy
        · have := List.all_eq_true.mp F.nofree _ (mem_of_lookup hy)
          simp at this
      obtain ⟨c, hc⟩ := cellsFrom_has (m := s.heap.objs.size + 1) (mem_of_lookup hcell)
      exact ⟨c, by rw [hcells]; exact hc⟩
  refine ⟨B.lim.keeps S₁.base.keep, kla_codeExpr ?_⟩
  have hA' : Rm n (A.deeper env) := hA.deeper env (by rw [hscope]; exact F.gen) (by rw [hscope]; exact F.co) (by rw [he']; exact F.bi) (by rw [he']; exact F.gl)
  rw [he'] at hA' en
  subst e₁
  rw [he']
  refine wpAny_mono (hx s.heap.objs.size (A.deeper _) hA' _ _ H ⟨S₁.base, S₁.sto, en⟩) (fun f s₂ ⟨k2, r2⟩ => ?_) fun _ _ e => e
  exact ⟨kp_trans ⟨_, _, rfl, .of kp⟩ k2, r2⟩

/-- what must not stand in the base -/
noncomputable def hidden (B : Bs) (H : Hd) : List Addr := H.hs ++ H.xs ++ B.tabs.map (·.P)
theorem incl {H : Hd} {h : Heap} (S : SB B st H h) : ∀ b o, B.h₀.get? b = some o → (hideAll h (hidden B H)).get? b = some o := fun b o e => by
  refine hideAll_get _ (S.base.keep b o e) fun hb => ?_
  rcases List.mem_append.mp hb with hb | hb
  · rcases List.mem_append.mp hb with hb | hb
    · exact (S.base.new b (.inl hb)).no e
    · exact (S.base.new b (.inr hb)).no e
  · obtain ⟨t, ht, rfl⟩ := List.mem_map.mp hb
    rw [B.hid t ht] at e; cases e

/-- the base with all that stands but the handles -/
noncomputable def Bs.grow (B : Bs) {st : Store} {H : Hd} {h : Heap} (S : SB B st H h) : Bs where
  prog := B.prog
  w := B.w
  h₀ := hideAll h (hidden B H)
  mg := B.mg
  mb := B.mb
  g := B.g.keeps (incl S)
  b := B.b.keeps (incl S)
  lim := B.lim.keeps (incl S)
  seer := B.seer.keeps (incl S)
  tree := B.tree
  K := B.K
  KX := B.KX.keeps (incl S)
  bb := B.bb
  bm := let ⟨bm, ob, h1, h2, h3, r⟩ := B.bm; ⟨bm, ob, h1, h2, incl S _ _ h3, r⟩
  tabs := B.tabs
  hid := fun t ht => hideAll_none _ (List.mem_append_right _ (List.mem_map_of_mem ht))
  codes := fun t ht => (B.codes t ht).keeps (incl S)
  apartT := B.apartT

theorem sb_grow {H : Hd} {h : Heap} (S : SB B st H h) : SB (B.grow S) st H h :=
  ⟨⟨fun b o e => of_hideAll _ e, fun a ha => ⟨hideAll_none _ (List.mem_append_left _ (ha.elim (fun h => List.mem_append_left _ h) fun h => List.mem_append_right _ h)), (S.base.new a ha).2⟩, S.base.tab⟩, S.sto⟩
theorem sb_back {H H' : Hd} {h h' : Heap} {st' : Store} (S : SB B st H h) (S' : SB (B.grow S) st' H' h') : SB B st' H' h' :=
  ⟨⟨fun b o e => S'.base.keep b o (incl S b o e), fun a ha => ⟨by
    cases e : B.h₀.get? a with
    | none => rfl
    | some o => exact ((S'.base.new a ha).no (incl S a o e)).elim, (S'.base.new a ha).2⟩, S'.base.tab⟩, S'.sto⟩

theorem kt_back {H : Hd} {h : Heap} (S : SB B st H h) {s s' : Shared} (k : KT (B.grow S) s s') : KT B s s' := let ⟨h', tk, e, q⟩ := k; ⟨h', tk, e, q.keep, q.tab, q.live⟩

variable {env : Env} {ρ : Nm} {Ψ : V → Store → Prop}

/-- a base of the same text -/
structure Like (B B' : Bs) : Prop where
  K : B'.K = B.K
  w : B'.w = B.w
  prog : B'.prog = B.prog
  mg : B'.mg = B.mg
  mb : B'.mb = B.mb
  tabs : B'.tabs = B.tabs
theorem like_grow {H : Hd} {h : Heap} (S : SB B st H h) : Like B (B.grow S) := ⟨rfl, rfl, rfl, rfl, rfl, rfl⟩

theorem lamOk_grow {H : Hd} {h : Heap} (S : SB B st H h) {f : Addr} {q : Str} {params : Arguments} {body : Expr} {scope : Scope} {pm cv ctv : Value} (hok : lamScope scope = true) (ho : h.get? f = some { cls := .type "function", data := .func (kla_fn "<lambda>" q params body scope [] pm cv ctv) }) (hc : h.CodeRec cv q) :
    LamOk (B.grow S) f (kla_fn "<lambda>" q params body scope [] pm cv ctv) body := by
  have vis : ∀ b o, ¬ IsSeq o → ¬ TabO o → h.get? b = some o → (hideAll h (hidden B H)).get? b = some o := fun b o hs ht e => by
    refine hideAll_get _ e fun hb => ?_
    rcases List.mem_append.mp hb with hb | hb
    · obtain ⟨o', e', hs'⟩ := S.sto.live b ((List.mem_append.mp hb).elim .inl .inr)
      rw [e] at e'; cases e'; exact hs hs'
    · obtain ⟨t, htt, rfl⟩ := List.mem_map.mp hb
      obtain ⟨ps, h1, _⟩ := S.base.tab t htt
      rw [e] at h1; cases h1
      exact ht ⟨rfl, _, rfl⟩
  simp only [lamScope, Bool.and_eq_true, beq_iff_eq, Bool.not_eq_eq_eq_not, Bool.not_true] at hok
  refine ⟨⟨_, vis _ _ (by rintro ⟨_, _, e⟩; cases e) (by rintro ⟨_, _, e⟩; cases e) ho, rfl⟩, rfl, rfl, rfl, rfl, ?_, hok.1.1.1.1, hok.1.1.1.2, hok.1.1.2, hok.1.2, hok.2⟩
  obtain ⟨c, oc, vs, u, e1, e2, e3, e4⟩ := hc
  refine ⟨c, oc, vs, u, e1, ?_, e3, e4⟩
  refine hideAll_get _ e2 fun hb => ?_
  rcases List.mem_append.mp hb with hb | hb
  · obtain ⟨o', e', hs'⟩ := S.sto.live c ((List.mem_append.mp hb).elim .inl .inr)
    rw [e2] at e'; cases e'
    exact seq_notCode hs' ⟨vs, _, _, e3, e4⟩
  · obtain ⟨t, htt, rfl⟩ := List.mem_map.mp hb
    obtain ⟨ps, h1, h2, _⟩ := S.base.tab t htt
    rw [e2] at h1; cases h1; cases e3
    exact triples_noStr h2 (by simpa using e4)

/-- what a lambda's site needs -/
structure Site (B : Bs) (env : Env) (params : Arguments) (lscope : Scope) (t : Tab) : Prop where
  mem : t ∈ B.tabs
  code : env.code = .ref t.c
  qual : env.qual ++ "<lambda>" = t.q
  dflt : defaultsOf params env = ([], [])
  clos : closureFor lscope env = pure []
  ok : lamScope lscope = true

/-- a def called with a lambda as its key -/
theorem pm_callKey {x : Str} {np pos kp : Pos} {e : Expr} {es : List Expr} {a : Addr} {fd : FuncData} {body : List Stmt} {params : Arguments} {lbody : Expr} {lscope : Scope} {lpos : Pos} {t : Tab} (F : FnOk B a fd body) (hk : env.kindOf x = some .globalImplicit) (hv : B.mg x = some (.ref a)) (site : Site B env params lscope t)
    (ha : PMs B n env m ρ st (e :: es) (fun vs st' => ∀ B', Like B B' → ∀ f pm cv ctv, LamOk B' f (kla_fn "<lambda>" t.q params lbody lscope [] pm cv ctv) lbody → OM B' n m st' (fun xs => call (.ref a) xs [("key", .ref f)]) vs Ψ)) (hd : (x == ("__debug__" : Str)) = false := by kernel_rfl)
    (he : starEach (e :: es) env = (false, eval e env) :: starEach es env := by rfl) : PM B n env m ρ st (.Call (.Name x np) (e :: es) [⟨some "key", .Lambda params lbody lscope lpos, kp⟩] pos) Ψ := fun A hA E s H S => by
  obtain ⟨o, ho, hdat⟩ := F.at_
  refine wpAny_Call_ofName (ld_fn F S hk hv ?_ hd)
  refine callWith_def_kw (o := o) (fd := fd) hdat (evalArgs_kw2 rfl (wpAny_mono (ha A hA E s H pos S) (fun xs s₁ q => ?_) fun _ _ e => e) he)
  obtain ⟨vs, st', H', h', tk, rfl, hp, S', cs, r⟩ := q
  refine wpAny_evalAll_cons (wpAny_bind (lam_eval S' site.mem site.code site.qual site.dflt site.clos fun f cv ctv h'' tk' kh hf ho' hc => wpAny_bind (wpAny_standAt (wpAny_pure (wpAny_evalAll_nil ?_)))))
  have S'' := S'.keeps kh
  refine ⟨B.KX.keeps S''.base.keep _ _ ho, ?_⟩
  have hO := hp (B.grow S''.sb) (like_grow _) f _ cv ctv (lamOk_grow S''.sb site.ok ho' hc)
  refine wpAny_mono (hO A hA E { s with heap := h'', toks := tk' } H' xs (sb_grow S''.sb) (r.ext (.of_keeps kh))) (fun z s₂ q => ?_) fun _ _ e => e
  obtain ⟨v, st'', H'', h₃, tk₃, rfl, hp', SB3, cs3, r3⟩ := q
  have cs3' : CS B m H' h'' H'' h₃ := ⟨cs3.pre, cs3.xs, cs3.new, cs3.keep⟩
  have SB3' := sb_back S''.sb SB3
  exact ⟨v, st'', H'', h₃, tk₃, rfl, hp', ⟨SB3'.base, SB3'.sto, S''.en.cs S''.sto cs3'⟩, (cs.trans (.of_keeps kh) S'.sb).trans cs3' S''.sb, r3⟩

/-- the key called within -/
theorem pe_callVal {x : Str} {np pos : Pos} {e : Expr} {es : List Expr} {f : Addr} {fd : FuncData} {lbody : Expr} {vs : List V} {c : V} (F : LamOk B f fd lbody) (hn : PE B n env ρ st (.Name x np) (.val (.ref f)))
    (ha : PEs B n env ρ st (e :: es) vs) (h2 : PL B n st (fun xs => call (.ref f) xs) vs c)
    (he : starEach (e :: es) env = (false, eval e env) :: starEach es env := by rfl) : PE B n env ρ st (.Call (.Name x np) (e :: es) [] pos) c := fun A hA E s H S => by
  obtain ⟨o, ho, hdat⟩ := F.at_
  refine wpAny_Call_ofName (wpAny_mono (hn A hA E s H S) (fun y s₀ ⟨k0, r0⟩ => ?_) fun _ _ e => e)
  cases r0
  have S₀ := S.keeps (kp_get k0)
  refine callWith_def (o := o) (fd := fd) hdat (wpAny_mono (ha A hA E s₀ H pos S₀) (fun xs s₁ ⟨k1, r1⟩ => ?_) fun _ _ e => e) he
  have S₁ := S₀.keeps (kp_get k1)
  exact ⟨S₁.base.keep _ _ ho, wpAny_mono (h2 A hA E s₁ H xs S₁.sb r1) (fun z s₂ ⟨k2, r2⟩ => ⟨kp_trans k0 (kp_trans k1 k2), r2⟩) fun _ _ e => e⟩

end
end Mine

-- part Gw22
namespace Mine

theorem ns_hide {h : Heap} {ts : List Addr} {a : Addr} {m : Str → Option Value} (x : h.Ns a m) (ha : a ∉ ts) : (hideAll h ts).Ns a m := x.at' fun o e => hideAll_get _ e ha

/-- an object of the fragment that is a def -/
noncomputable def isFn (K : Frag) (a : Addr) : Bool := match K.lookup a with
  | some ⟨_, _, .func _, _⟩ => true
  | _ => false

theorem tab_of_top {p : Program} {loose : List Str} {mean : ExcName → Option Value} {mg mb : Str → Option Value} {h : Heap} (T : Top p loose mean mg mb h) {K : Frag} (KX : K.In h) {name : Str} {a c P : Addr} (hd : name ∈ (recsOf p).map (·.name)) (hm : mg name = some (.ref a)) (hf : isFn K a = true) (hfd : (fdOf K a).code = .ref c) (hc : codeHdIn K c P = true) : h.TableAt c P #[] := by
  obtain ⟨d, hdm, rfl⟩ := List.mem_map.mp hd
  obtain ⟨a', o, fd, c', P', h1, h2, h3, h4, h5, h6⟩ := T.tab d hdm
  rw [hm] at h1; cases h1
  have hfo : ∃ o', K.lookup a = some o' ∧ o'.data = .func (fdOf K a) := by
    unfold isFn at hf
    unfold fdOf
    split at hf
    · rename_i c d fd sl ho
      exact ⟨_, ho, by first | rfl | rw [ho]⟩
    · cases hf
  obtain ⟨o', ho', hd'⟩ := hfo
  have := KX _ _ ho'
  rw [h2] at this; cases this
  rw [h3] at hd'; cases hd'
  rw [h4] at hfd; cases hfd
  obtain ⟨o, vs, file, tf, flags, tg, inF, text, tt, e1, e2, e3, e4, _⟩ := codeHd_of_K KX hc
  obtain ⟨⟨o2, vs2, f1, f2, f3, f4⟩, f5⟩ := h6
  rw [e1] at f1; cases f1
  rw [e3] at f3; cases f3
  rw [e4] at f4; cases f4
  exact ⟨⟨o, vs, e1, e2, e3, e4⟩, f5⟩

structure TabsFit (p : Program) (mg : Str → Option Value) (K : Frag) (tabs : List Tab) : Prop where
  nd : (tabs.map (·.P)).Nodup
  nK : ∀ t ∈ tabs, K.lookup t.P = none
  co : ∀ t ∈ tabs, codeHdIn K t.c t.P = true
  st : ∀ t ∈ tabs, t.P ≠ mainGlobals ∧ t.P ≠ builtinsNs ∧ t.P ≠ cStatics ∧ t.P ≠ sysModules
  fn : ∀ t ∈ tabs, ∃ name a, name ∈ (recsOf p).map (·.name) ∧ mg name = some (.ref a) ∧ isFn K a = true ∧ (fdOf K a).code = .ref t.c

/-- the base from the head's facts -/
noncomputable def Bs.of {p : Program} {loose : List Str} {mean : ExcName → Option Value} {mg mb : Str → Option Value} {h : Heap} (T : Top p loose mean mg mb h) (prog : Program) (w : World) (hi : importsNone p = true) (tree : prog.given.tree = none) (K : Frag) (KX : K.In h) (tabs : List Tab) (X : TabsFit p mg K tabs) : Bs where
  prog := prog
  w := w
  h₀ := hideAll h (tabs.map (·.P))
  mg := mg
  mb := mb
  g := ns_hide T.g fun hm => let ⟨t, ht, e⟩ := List.mem_map.mp hm; (X.st t ht).1 e
  b := ns_hide T.b fun hm => let ⟨t, ht, e⟩ := List.mem_map.mp hm; (X.st t ht).2.1 e
  lim := by
    obtain ⟨mc, h1, h2⟩ := T.nolimit
    exact ⟨mc, ns_hide h1 fun hm => let ⟨t, ht, e⟩ := List.mem_map.mp hm; (X.st t ht).2.2.1 e, h2⟩
  seer := by
    have N := T.seer hi
    refine ⟨?_, ?_, ?_, ?_⟩
    · obtain ⟨mc, h1, h2⟩ := N.statics
      exact ⟨mc, ns_hide h1 fun hm => let ⟨t, ht, e⟩ := List.mem_map.mp hm; (X.st t ht).2.2.1 e, h2⟩
    · obtain ⟨mc, h1, h2⟩ := N.mods
      exact ⟨mc, ns_hide h1 fun hm => let ⟨t, ht, e⟩ := List.mem_map.mp hm; (X.st t ht).2.2.2 e, h2⟩
    · obtain ⟨mc, h1, h2⟩ := N.imp
      exact ⟨mc, ns_hide h1 fun hm => let ⟨t, ht, e⟩ := List.mem_map.mp hm; (X.st t ht).2.1 e, h2⟩
    · obtain ⟨mg', bm, ob, h1, h2, h3, h4, h5⟩ := N.main
      refine ⟨mg', bm, ob, ns_hide h1 fun hm => let ⟨t, ht, e⟩ := List.mem_map.mp hm; (X.st t ht).1 e, h2, hideAll_get _ h3 fun hm => ?_, h4, h5⟩
      obtain ⟨t, ht, rfl⟩ := List.mem_map.mp hm
      obtain ⟨name, a, n1, n2, n3, n4⟩ := X.fn t ht
      have := (tab_of_top T KX n1 n2 n3 n4 (X.co t ht)).2
      rw [h3] at this; cases this; cases h4
  tree := tree
  K := K
  KX := fun a o e => hideAll_get _ (KX a o e) fun hm => by
    obtain ⟨t, ht, rfl⟩ := List.mem_map.mp hm
    rw [X.nK t ht] at e; cases e
  bb := T.builtins
  bm := by
    obtain ⟨bm, ob, h1, h2, h3, h4, r⟩ := T.bmain
    refine ⟨bm, ob, h1, h2, hideAll_get _ h3 fun hm => ?_, h4, r⟩
    obtain ⟨t, ht, rfl⟩ := List.mem_map.mp hm
    obtain ⟨name, a, n1, n2, n3, n4⟩ := X.fn t ht
    have := (tab_of_top T KX n1 n2 n3 n4 (X.co t ht)).2
    rw [h3] at this; cases this; cases h4
  tabs := tabs
  hid := fun t ht => hideAll_none _ (List.mem_map_of_mem ht)
  codes := fun t ht => codeHd_of_K (fun a o e => hideAll_get _ (KX a o e) fun hm => by
    obtain ⟨t, ht, rfl⟩ := List.mem_map.mp hm
    rw [X.nK t ht] at e; cases e) (X.co t ht)
  apartT := X.nd
end Mine

-- part Gw23
namespace Mine

section
variable (r : Nat → Int)
variable {r}

variable (r) in
end
end Mine

-- part Gw24
namespace Mine
section
variable {B : Bs} {n m : Nat} {st : Store}

/-- a new sequence is changed -/
theorem KH.upd {h h' h'' : Heap} {a : Addr} {o : Obj} (k : KH B h h') (ha : h.get? a = none) (ho : h'.get? a = some o) (hs : IsSeq o) (sb : Heap.SameBut a h' h'') : KH B h h'' where
  keep := fun b o hx e => sb.extBut b o (fun e' => by subst e'; rw [ha] at e; cases e) (k.keep b o hx e)
  tab := fun T => tabs_ne (k.tab T) (W := (· = a)) (fun b o hb e => sb.extBut b o hb e) (fun b hb ⟨t, ht, e⟩ => by
    obtain ⟨ps, h1, _⟩ := T t ht
    rw [e, hb, ha] at h1; cases h1) fun b o' hb e => by subst hb; rw [ho] at e; cases e; exact seq_notCode hs
  live := fun b o e => let ⟨o', e'⟩ := k.live b o e; ⟨o', sb.extBut b o' (fun e'' => by subst e''; rw [ha] at e; cases e) e'⟩

/-- an opaque list was changed -/
theorem sb_acc {H : Hd} {h h' : Heap} {D : Addr} {o o' : Obj} (S : SB B st H h) (hD : D ∈ H.xs) (ho : h.get? D = some o) (hs : IsSeq o) (ho' : h'.get? D = some o') (hs' : IsSeq o')
    (kp : ∀ b o, b ≠ D → h.get? b = some o → h'.get? b = some o) : SB B st H h' ∧ DKeep H h H h' := by
  have dk : DKeep H h H h' := ⟨⟨[], by simp⟩, fun _ h1 h2 => absurd h1 h2, fun b o hb hq e => kp b o (fun e' => hb (e' ▸ .inr hD)) e⟩
  refine ⟨⟨base_ne S.base (W := (· = D)) (fun b o hb e => kp b o hb e) (fun b hb => hb ▸ S.base.new _ (.inr hD)) (fun b o'' hb e => by subst hb; rw [ho] at e; cases e; exact seq_notCode hs), ⟨S.sto.len, S.sto.nd, fun k a l ha hl => ?_, fun a ha => ?_, S.sto.dj⟩⟩, dk⟩
  · obtain ⟨us, q, ho, hr⟩ := S.sto.at_ k a l ha hl
    exact ⟨us, q, kp a _ (fun e => S.sto.dj _ hD (e ▸ List.mem_of_getElem? ha)) ho, hr.ext dk⟩
  · by_cases e : a = D
    · subst e; exact ⟨_, ho', hs'⟩
    · obtain ⟨o, ho, hs⟩ := S.sto.live a ha; exact ⟨o, kp a o e ho, hs⟩

/-- the loop over the items: the keys are made -/
theorem keys_ok {A : Around} (hA : Rm n A) {E : Value → Shared → Prop} {s₀ s : Shared} {H : Hd} {D kS f : Addr} {e1 : Nat} {vs : List Value} {l kvs : List V} {Q : PySem.Fin → Shared → Prop}
    (S : SB B st ⟨H.hs, [D, kS] ++ H.xs⟩ s.heap) (kh : KH B s₀.heap s.heap) (hD0 : s₀.heap.get? D = none) (hk0 : s₀.heap.get? kS = none) (hDk : D ≠ kS) (hr : RepAll ⟨H.hs, [D, kS] ++ H.xs⟩ s.heap vs l)
    (hD : s.heap.get? D = some (seqObj "list" #[] e1)) (hk : s.heap.get? kS = some (seqObj "list" #[] 0)) (hlen : kvs.length = l.length) (h64 : l.length < 64)
    (hkey : ∀ (i : Nat) v k, l[i]? = some v → kvs[i]? = some k → PL B n st (fun xs => call (.ref f) xs) [v] k)
    (h : ∀ h' tk ks c, SB B st ⟨H.hs, [D, kS] ++ H.xs⟩ h' → KH B s₀.heap h' → RepAll ⟨H.hs, [D, kS] ++ H.xs⟩ h' vs l → RepAll ⟨H.hs, [D, kS] ++ H.xs⟩ h' ks kvs → h'.get? D = some (seqObj "list" #[] e1) → h'.get? kS = some (seqObj "list" ks.toArray c) →
      wpAny (model B.prog B.w) A (ksk_end D false vs.toArray e1 (.ref kS) ks.toArray) Q E { s with heap := h', toks := tk }) :
    wpAny (model B.prog B.w) A (ksk_rest D (.ref f) false vs.toArray e1 (.ref kS)) Q E s := by
  have hvl := hr.length
  unfold ksk_rest
  refine wpAny_bind (wpAny_rule ?_)
  rw [List.forIn_toArray]
  refine wpAny_bind (ksk_fold (fun i s' => ∃ h' tk ks c, s' = { s with heap := h', toks := tk } ∧ SB B st ⟨H.hs, [D, kS] ++ H.xs⟩ h' ∧ KH B s₀.heap h' ∧ RepAll ⟨H.hs, [D, kS] ++ H.xs⟩ h' vs l ∧ RepAll ⟨H.hs, [D, kS] ++ H.xs⟩ h' ks (kvs.take i) ∧ h'.get? D = some (seqObj "list" #[] e1) ∧ h'.get? kS = some (seqObj "list" ks.toArray c)) vs 0 s
    ⟨s.heap, s.toks, [], 0, rfl, S, kh, hr, by simpa using RepAll.nil, hD, by simpa using hk⟩ ?step ?done)
  case step =>
    rintro j x s' hx ⟨h', tk, ks, c, rfl, S', kh', hr', hks, hD', hk'⟩
    simp only [Nat.zero_add] at hks ⊢
    obtain ⟨v, hv, rx⟩ := hr'.get' hx
    have hj : j < l.length := (List.getElem?_eq_some_iff.mp hv).1
    obtain ⟨kv, hkv⟩ : ∃ kv, kvs[j]? = some kv := ⟨_, List.getElem?_eq_getElem (by omega)⟩
    have hksl : ks.length ≤ j := by have := hks.length; rw [List.length_take] at this; omega
    refine wpAny_bind (wpAny_attempt (wpAny_mono (hkey j v kv hv hkv A hA (fun _ _ => False) { s with heap := h', toks := tk } _ [x] S' (.one rx)) (fun k s'' q => ?_) fun _ _ hF => hF.elim))
    obtain ⟨⟨h2, tk2, rfl, kh2⟩, rk⟩ := q
    have kh2 : KH B h' h2 := kh2
    have S2 := S'.keeps kh2
    have hk2 := kh2.seq ⟨_, _, rfl⟩ hk'
    have hD2 := kh2.seq ⟨_, _, rfl⟩ hD'
    have s1 := Heap.SameBut.update h2 kS (Obj.mapSeq (·.push k))
    have ea : (List.toArray ks).push k = List.toArray (ks ++ [k]) := by simp
    obtain ⟨c2, hc2⟩ : ∃ c2, (h2.update kS (Obj.mapSeq (·.push k))).get? kS = some (seqObj "list" (List.toArray (ks ++ [k])) c2) := ⟨_, by rw [← ea]; exact get?_update_seq hk2 (·.push k)⟩
    obtain ⟨S3, dk3⟩ := sb_acc S2 (D := kS) (List.mem_append_left _ (by simp)) hk2 ⟨_, _, rfl⟩ hc2 ⟨_, _, rfl⟩ (fun b o hb e => s1.extBut b o hb e)
    refine wpAny_bind (listUpdate_at hk2 rfl ?_ (by rw [List.size_toArray, sizeLine_eq]; omega) (Nat.le_trans (Nat.le_of_eq (Array.size_push ..)) (by rw [List.size_toArray, sizeLine_eq]; omega)))
    refine wpAny_pure ⟨rfl, _, tk2, ks ++ [k], c2, rfl, S3, (kh'.trans kh2).upd hk0 hk2 ⟨_, _, rfl⟩ s1, (hr'.ext (.of_keeps kh2)).ext dk3, ?_, s1.extBut _ _ hDk hD2, hc2⟩
    rw [List.take_add_one, hkv]
    exact ((hks.ext (.of_keeps kh2)).ext dk3).append (.one (rk.ext dk3))
  case done =>
    rintro s' ⟨h', tk, ks, c, rfl, S', kh', hr', hks, hD', hk'⟩
    rw [List.take_of_length_le (by omega)] at hks
    refine wpAny_bind (listItems_at hk' rfl ?_)
    exact h h' tk ks c S' kh' hr' hks hD' hk'

end
end Mine

-- part Gw25
namespace Mine
section
variable {B : Bs} {n m : Nat} {st : Store}

theorem RepAll.getD {H : Hd} {h : Heap} {vs : List Value} {l : List V} (r : RepAll H h vs l) : ∀ p : List Nat, (∀ i ∈ p, i < l.length) → RepAll H h (p.map fun i => vs.getD i .none) (p.map fun i => l.getD i .none)
  | [], _ => .nil
  | i :: p, hp => by
    have hi := hp i (by simp)
    obtain ⟨x, hx, rx⟩ := r.get (i := i) (v := l[i]) (List.getElem?_eq_getElem hi)
    refine .cons ?_ (RepAll.getD r p fun j hj => hp j (by simp [hj]))
    show Rep H h (vs.getD i Value.none) (l.getD i V.none)
    rw [List.getD_eq_getElem?_getD, List.getD_eq_getElem?_getD, hx, List.getElem?_eq_getElem hi]
    exact rx

end
end Mine

-- part Gw26
namespace Mine

theorem filter_le {α : Type} {p q : α → Bool} (h : ∀ x, p x = true → q x = true) : ∀ l : List α, (l.filter p).length ≤ (l.filter q).length
  | [] => Nat.le_refl _
  | a :: l => by
    have ih := filter_le h l
    simp only [List.filter_cons]
    cases hp : p a
    · cases hq : q a <;> simp <;> omega
    · rw [h a hp]; simp; omega
theorem filter_lt {α : Type} {p q : α → Bool} (h : ∀ x, p x = true → q x = true) {a : α} (ha : p a = false) (hq : q a = true) : ∀ l : List α, a ∈ l → (l.filter p).length < (l.filter q).length
  | b :: l, hm => by
    simp only [List.filter_cons]
    rcases List.mem_cons.mp hm with rfl | hm
    · rw [ha, hq]; have := filter_le h l; simp; omega
    · have ih := filter_lt h ha hq l hm
      cases hp : p b
      · cases hq : q b <;> simp <;> omega
      · rw [h b hp]; simp; omega
section
variable {B : Bs} {n m : Nat} {st : Store}

end
end Mine

-- part Gw27
namespace Mine
section
variable {B : Bs} {n m : Nat} {env : Env} {ρ : Nm} {st : Store} {Φ : Fl → Nm → Store → Prop} {Ψ : V → Store → Prop}

end
end Mine

-- part Gw28
namespace Mine
section
variable {prog : Program} {w : World} {A : Around} {E : Value → Shared → Prop} {s : Shared}

end
end Mine

-- part Gw29
namespace Mine
section
variable {prog : Program} {w : World} {A : Around} {E : Value → Shared → Prop} {s : Shared}

end
end Mine

-- part Gw30
namespace Mine
section
variable {prog : Program} {w : World} {A : Around} {E : Value → Shared → Prop} {s : Shared}

end
end Mine

-- part Gw31
namespace Mine

theorem RepAll.of_get {H : Hd} {h : Heap} : ∀ {xs : List Value} {vs : List V}, xs.length = vs.length → (∀ (i : Nat) x v, xs[i]? = some x → vs[i]? = some v → Rep H h x v) → RepAll H h xs vs
  | [], [], _, _ => .nil
  | x :: xs, v :: vs, hl, hr => .cons (hr 0 x v rfl rfl) (RepAll.of_get (by simpa using hl) fun i y w hy hw => hr (i + 1) y w (by simpa using hy) (by simpa using hw))
  | [], _ :: _, hl, _ => by simp at hl
  | _ :: _, [], hl, _ => by simp at hl

section
variable {B : Bs} {n m : Nat} {env : Env} {ρ : Nm} {st : Store} {Φ : Fl → Nm → Store → Prop} {Ψ : V → Store → Prop}

end
end Mine

-- part Gw32
namespace Mine

theorem slc_plain (l : List V) (lo hi : Option Int) : slc l lo hi none = (l.drop (lo.elim 0 (clipAt l.length))).take (hi.elim l.length (clipAt l.length) - lo.elim 0 (clipAt l.length)) := by
  unfold slc
  rw [sliceBounds_plain]
  simp only [sliceRange_one]
  have := pick_run l.toArray (lo.elim 0 (clipAt l.length)) (hi.elim l.length (clipAt l.length) - lo.elim 0 (clipAt l.length))
  simpa using this
theorem slc_from (l : List V) {x : Int} (a : Nat) (hx : x = (a : Nat)) : slc l (some x) none none = l.drop a := by
  subst hx
  rw [slc_plain]
  simp only [Option.elim, clipAt_nat]
  rcases Nat.le_total a l.length with h | h
  · rw [Nat.min_eq_left h, List.take_of_length_le (by simp)]
  · rw [Nat.min_eq_right h, List.drop_of_length_le (Nat.le_refl _), List.drop_of_length_le h]; simp
theorem slc_both (l : List V) {x y : Int} (a b : Nat) (hx : x = (a : Nat)) (hy : y = (b : Nat)) (hab : a ≤ b) : slc l (some x) (some y) none = (l.drop a).take (b - a) := by
  subst hx; subst hy
  rw [slc_plain]
  simp only [Option.elim, clipAt_nat]
  rcases Nat.le_total a l.length with h | h
  · rw [Nat.min_eq_left h]
    rcases Nat.le_total b l.length with h' | h'
    · rw [Nat.min_eq_left h']
    · rw [Nat.min_eq_right h', List.take_of_length_le (by simp), List.take_of_length_le (by simp; omega)]
  · rw [Nat.min_eq_right h, List.drop_of_length_le (Nat.le_refl _), List.drop_of_length_le h]; simp
theorem slc_rev (l : List V) : slc l none none (some (-1)) = l.reverse := by
  unfold slc
  rw [krv_bounds]
  show (sliceRange ((l.length : Int) - 1) (-1) (-1)).filterMap (l[·]?) = _
  rw [krv_sliceRange, krv_range, List.filterMap_reverse]
  have := krv_all l.toArray
  simp only [List.size_toArray] at this
  congr 1
  simpa using this

end Mine

-- part Gw33
namespace Mine

section
variable {B : Bs} {n m : Nat} {env : Env} {ρ : Nm} {st : Store} {Φ : Fl → Nm → Store → Prop} {Ψ : V → Store → Prop}

/-- a def called with key=name -/
theorem pe_callKw {x : Str} {np pos kp kp2 : Pos} {y : Str} {e : Expr} {es : List Expr} {a f : Addr} {fd : FuncData} {body : List Stmt} {vs : List V} {c : V} (F : FnOk B a fd body) (hk : env.kindOf x = some .globalImplicit) (hv : B.mg x = some (.ref a)) (hn : PE B n env ρ st (.Name y kp2) (.val (.ref f)))
    (ha : PEs B n env ρ st (e :: es) vs) (h2 : PL B n st (fun xs => call (.ref a) xs [("key", .ref f)]) vs c) (hd : (x == ("__debug__" : Str)) = false := by kernel_rfl)
    (he : starEach (e :: es) env = (false, eval e env) :: starEach es env := by rfl) : PE B n env ρ st (.Call (.Name x np) (e :: es) [⟨some "key", .Name y kp2, kp⟩] pos) c := fun A hA E s H S => by
  obtain ⟨o, ho, hdat⟩ := F.at_
  refine wpAny_Call_ofName (ld_fn F S hk hv ?_ hd)
  refine callWith_def_kw (o := o) (fd := fd) hdat (evalArgs_kw2 rfl (wpAny_mono (ha A hA E s H pos S) (fun xs s₁ ⟨k1, r1⟩ => ?_) fun _ _ e => e) he)
  have S' := S.keeps (kp_get k1)
  refine kwAll_cons (wpAny_mono (hn A hA E s₁ H S') (fun y s₂ ⟨k2, r2⟩ => kwAll_nil ?_) fun _ _ e => e)
  cases r2
  have S'' := S'.keeps (kp_get k2)
  refine ⟨B.KX.keeps S''.base.keep _ _ ho, ?_⟩
  refine wpAny_mono (h2 A hA E s₂ H xs S''.sb (r1.ext (kp_dk k2 H))) (fun z s₃ ⟨k3, r3⟩ => ?_) fun _ _ e => e
  exact ⟨kp_trans (kp_trans k1 k2) k3, r3⟩
end
end Mine

-- part Gw34
namespace Mine
open PySem.AutoSeq1 (wpAny_loadPart')
open PySem.MeetsSeq PySem.MeetsSeq2 PySem.MeetsSeq3 PySem.SeqAt

end Mine

-- part Gw35
namespace Mine
section
variable {prog : Program} {w : World} {A : Around} {E : Value → Shared → Prop} {s : Shared} {R : Result → Shared → Prop}

end

section
variable {B : Bs} {n m : Nat} {st : Store} {Ψ : V → Store → Prop}

end
end Mine

-- part Gw36
-- what stood here stands in Gw9 and Gw10 now

-- part Gw37
namespace Mine

theorem compStart_two {prog : Program} {w : World} {A : Around} {R : Result → Shared → Prop} {s : Shared} {elt t0 i0 t1 i1 : Expr} {f0 f1 : List Expr} {scope : Scope} {pos : Pos} {it acc : Value} {env : Env}
    (h0 : codeAny (model prog w) A (.compLoop (.ListComp elt [⟨t0, i0, f0, 0⟩, ⟨t1, i1, f1, 0⟩] scope pos) 1 it acc env) R s)
    (h : wpAny (model prog w) A (pyIter it) (fun it' s' => codeAny (model prog w) A (.compLoop (.ListComp elt [⟨t0, i0, f0, 0⟩, ⟨t1, i1, f1, 0⟩] scope pos) 1 it' acc env) R s')
      (notedBy (model prog w) A env fun x s' => R (.error x) s') s) :
    codeAny (model prog w) A (.compStart (.ListComp elt [⟨t0, i0, f0, 0⟩, ⟨t1, i1, f1, 0⟩] scope pos) 1 it acc env) R s := by
  refine codeAny_of_tree ?_
  show wpAny _ _ ((compStart (.ListComp elt [⟨t0, i0, f0, 0⟩, ⟨t1, i1, f1, 0⟩] scope pos) 1 it acc env).onRaise (fun x => do noteFrame x env; standAt theWindowsPlace)) _ _ s
  refine wpAny_notedAt ?_
  unfold compStart
  show wpAny _ _ (ask >>= _) _ _ s
  refine wpAny_bind (wpAny_askSetting (wpAny_ite ?_))
  split
  · first
      | exact wpAny_bind (wpAny_pure (wpAny_pure (And.intro rfl h0)))
      | exact wpAny_pure (And.intro rfl h0)
  · first
      | exact wpAny_bind (wpAny_rule (wpAny_bind (wpAny_standAt (wpAny_bind (wpAny_mono h (fun it' s' h' => wpAny_pure (And.intro rfl h')) fun _ _ x => x)))))
      | (refine wpAny_bind (wpAny_rule ?_); show wpAny _ _ (standAt i1.pos >>= _) _ _ s; exact wpAny_bind (wpAny_standAt (wpAny_bind (wpAny_mono h (fun it' s' h' => wpAny_pure (And.intro rfl h')) fun _ _ x => x))))

section
variable {B : Bs} {n : Nat} {env : Env} {ρ : Str → Option V} {st : Store}


/-- the inner clause -/
theorem rb_nest {cenv : Env} {xs : List Str} {D : Addr} {ρ ρ₀ : Str → Option V} {elt t0 i0 t1 i1 : Expr} {f1 : List Expr} {scope : Scope} {pos : Pos} {it : Value} {vs : List V} {Cond : Store → Prop} {Tg : Expr → Prop} {pl : Bool} {ys : List V}
    (hi : PI B n cenv ρ st i1 vs Cond Tg pl) (htg : Tg t1) (outs : List (List V)) (hlen : outs.length = vs.length)
    (turn : ∀ (j : Nat) v out, vs[j]? = some v → outs[j]? = some out → ∃ ρ'' q w, PA B n cenv st t1 v xs ρ ρ'' ∧ PTs B n cenv ρ'' st f1 q ∧ (q = true → PE B n cenv ρ'' st elt w) ∧ out = (if q then [w] else []) ∧ ∀ y u, ρ y = some u → ρ'' y = some u)
    (hw : ∀ y v, ρ₀ y = some v → ρ y = some v) (hs : ∀ x, foldedSetIterable i1 cenv x = pure x) (hsz : ys.length + outs.flatten.length ≤ sizeLine) :
    RBodyG B n cenv xs D st ρ ρ₀ (do
        let x ← eval i1 cenv
        standAt i1.pos
        let x ← foldedSetIterable i1 cenv x
        let _ ← runOwn (.compStart (.ListComp elt [⟨t0, i0, [], 0⟩, ⟨t1, i1, f1, 0⟩] scope pos) 1 (← holding [x] (pyIter x)) (.ref D) cenv) cenv
        again (.compLoop (.ListComp elt [⟨t0, i0, [], 0⟩, ⟨t1, i1, f1, 0⟩] scope pos) 0 it (.ref D) cenv)) (.compLoop (.ListComp elt [⟨t0, i0, [], 0⟩, ⟨t1, i1, f1, 0⟩] scope pos) 0 it (.ref D) cenv) (AccAt D ys) (AccAt D (ys ++ outs.flatten)) := fun A hA O E s H hD hDw S acc => by
  refine wpAny_bind (wpAny_mono (hi A hA E s H S) (fun xv s₁ ⟨k1, q1⟩ => ?_) fun _ _ e => e)
  refine wpAny_bind (wpAny_standAt ?_)
  rw [hs xv]
  refine wpAny_bind (wpAny_pure ?_)
  refine wpAny_bind (wpAny_holding (wpAny_mono q1 (fun it' s₂ q2 => ?_) fun _ _ e => e))
  obtain ⟨k2, X, wr, fp, St, IT, hc, _, hst, hnew⟩ := q2
  have live2 : ∀ b, b ∈ fp ∨ b ∈ X → ∃ o, s₂.heap.get? b = some o := fun b hb => by
    rcases hb with hb | hb
    · obtain ⟨o, ho, _⟩ := IT.wrObj _ _ _ b hst hb; exact ⟨o, ho⟩
    · obtain ⟨o, ho, _⟩ := IT.xObj _ _ _ b hst hb; exact ⟨o, ho⟩
  obtain ⟨SB1, dk1⟩ := sim_more (Y := X) S.sb (kp_get k2) (fun a ha => hnew a (.inr ha)) (fun a ha => IT.xObj _ _ _ a hst ha)
  have S1 : Sim B cenv ρ st ⟨H.hs, X ++ H.xs⟩ s₂.heap := ⟨SB1.base, SB1.sto, S.en.ext (kp_get k2) dk1⟩
  have acc1 : AccAt D ys ⟨H.hs, X ++ H.xs⟩ s₂.heap := by
    obtain ⟨us, q, ho, hr⟩ := acc
    exact ⟨us, q, (kp_get k2).seq (isSeq_lis ..) ho, hr.ext dk1⟩
  have hDlive : ∃ o, s.heap.get? D = some o := by obtain ⟨us, q, ho, _⟩ := acc; exact ⟨_, ho⟩
  have fin : ∀ h' tk, Sim B cenv ρ st H h' → AccAt D (ys ++ outs.flatten) H h' → (∀ b o, b ≠ D → b ∉ wr → ¬ wrt cenv xs b → ¬ Ex B b o → s₂.heap.get? b = some o → h'.get? b = some o) →
      wpAny (model B.prog B.w) A (again (.compLoop (.ListComp elt [⟨t0, i0, [], 0⟩, ⟨t1, i1, f1, 0⟩] scope pos) 0 it (.ref D) cenv) : Sem PySem.Fin) (RGq B cenv xs D st ρ₀ (.compLoop (.ListComp elt [⟨t0, i0, [], 0⟩, ⟨t1, i1, f1, 0⟩] scope pos) 0 it (.ref D) cenv) (AccAt D (ys ++ outs.flatten)) H s) E { s₂ with heap := h', toks := tk } := by
    intro h' tk S' acc' kp
    obtain ⟨h₂, tk₂, rfl, kh⟩ := k2
    refine wpAny_pure ⟨rfl, h', tk, rfl, S'.weaken hw, acc', fun b o hb hwr hx e => kp b o hb (fun hw' => ?_) hwr hx (kh.keep b o hx e)⟩
    rw [hnew b (.inl (IT.sub b hw'))] at e; cases e
  have loop : codeAny (model B.prog B.w) A (.compLoop (.ListComp elt [⟨t0, i0, [], 0⟩, ⟨t1, i1, f1, 0⟩] scope pos) 1 it' (.ref D) cenv) (fun r s' => match r with | .ok f => wpAny (model B.prog B.w) A (again (.compLoop (.ListComp elt [⟨t0, i0, [], 0⟩, ⟨t1, i1, f1, 0⟩] scope pos) 0 it (.ref D) cenv) : Sem PySem.Fin) (RGq B cenv xs D st ρ₀ (.compLoop (.ListComp elt [⟨t0, i0, [], 0⟩, ⟨t1, i1, f1, 0⟩] scope pos) 0 it (.ref D) cenv) (AccAt D (ys ++ outs.flatten)) H s) E s' | .error e => cameBackBy (model B.prog B.w) A cenv E e s') s₂ := by
    refine comp_loopG (H := H) (D := D) (ρ₀ := ρ) (cenv := cenv) (xs := xs) hA (fun i H h => AccAt D (ys ++ (outs.take i).flatten) H h) (fun i H h h' x dk hD => x.ext dk hD) (fun i H h x => x.dropX) rfl (p := i1.pos) (rest := do
        let mut ok := true
        for c in f1 do
          if ok then ok ← isTrue c cenv (eval c cenv)
        if ok then
          (do let _ ← call (.builtin "list.append") [.ref D, ← eval elt cenv])
        again (.compLoop (.ListComp elt [⟨t0, i0, [], 0⟩, ⟨t1, i1, f1, 0⟩] scope pos) 1 it' (.ref D) cenv)) (fun Q E s h => ?_) IT hc htg (fun j v hv => ?_) O hD hDw (fun hm => ?_) (fun a ha hh => ?_) (fun b hb hw => ?_) (fun b hb => ?_) (fun b hb => ?_) S1 (by simpa using acc1) hst (fun h' tk S' acc' kp' => ?_)
    · show wpAny _ A ((compTurn (.ListComp elt [⟨t0, i0, [], 0⟩, ⟨t1, i1, f1, 0⟩] scope pos) 1 it' (.ref D) cenv).onRaise (fun x => do noteFrame x cenv; theTreesLotGoes x)) _ _ _
      rw [turn_b]
      exact h
    · have hjl : j < vs.length := (List.getElem?_eq_some_iff.mp hv).1
      have hout : outs[j]? = some (outs[j]'(hlen ▸ hjl)) := List.getElem?_eq_getElem _
      generalize outs[j]'(hlen ▸ hjl) = out at hout
      obtain ⟨ρ'', q, w, h1, h2, h3, h4, h5⟩ := turn j v out hv hout
      have htake : outs.take (j + 1) = outs.take j ++ [out] := by rw [List.take_add_one, hout]; rfl
      refine ⟨ρ'', h1, ?_⟩
      have e : ys ++ (outs.take (j + 1)).flatten = (ys ++ (outs.take j).flatten) ++ out := by rw [htake]; simp
      show RBodyG B n cenv xs D st ρ'' ρ _ _ (AccAt D (ys ++ (outs.take j).flatten)) (AccAt D (ys ++ (outs.take (j + 1)).flatten))
      rw [e]
      refine RBody.g (h4 ▸ rb_emit h2 h3 h5) ?_
      have e1 : (outs.flatten).length = ((outs.take (j + 1)).flatten).length + ((outs.drop (j + 1)).flatten).length := by
        rw [← List.length_append, ← List.flatten_append, List.take_append_drop]
      rw [htake, List.flatten_append, List.length_append] at e1
      simp only [List.flatten_cons, List.flatten_nil, List.append_nil, List.length_append] at e1 ⊢
      omega
    · obtain ⟨o, ho⟩ := hDlive; rw [hnew D (.inl hm)] at ho; cases ho
    · obtain ⟨o, ho, _⟩ := S.sto.live a hh; rw [hnew a (.inr ha)] at ho; cases ho
    · obtain ⟨o, ho⟩ := S.en.live _ (wrt_own hw); rw [hnew b (.inl hb)] at ho; cases ho
    · exact (S.base.free (hnew b (.inl hb))).2
    · exact S.base.free (hnew b (.inl (IT.sub b hb)))
    · rw [← hlen, List.take_length] at acc'
      exact fin h' tk S' acc' kp'
  exact wpAny_bind (wpAny_runOwn (compStart_two loop (IT.self A hA _ _ ⟨H.hs, X ++ H.xs⟩ 0 _ hst loop)))

/-- a list comprehension with two clauses -/
theorem pc_comp2 {elt t0 i0 t1 i1 : Expr} {f1 : List Expr} {scope : Scope} {pos : Pos} {vs : List V} {Cond : Store → Prop} {Tg : Expr → Prop} {pl : Bool} {xs : List Str} (hiter : PI B n env ρ st i0 vs Cond Tg pl) (htg : Tg t0) (ok : okScope env scope = true) (hxs : ∀ x ∈ xs, scope.names.lookup x = some .local ∨ scope.names.lookup x = some .cell)
    (outs : List (List (List V))) (hlen : outs.length = vs.length)
    (hturn : ∀ (i : Nat) v os, vs[i]? = some v → outs[i]? = some os → ∀ C, ∃ ρ' vs1 Cond1 Tg1 pl1, PA B n (cEnv scope C env) st t0 v xs (restr scope ρ) ρ' ∧ (∀ y u, restr scope ρ y = some u → ρ' y = some u) ∧ PI B n (cEnv scope C env) ρ' st i1 vs1 Cond1 Tg1 pl1 ∧ Tg1 t1 ∧ os.length = vs1.length ∧
      ∀ (j : Nat) v out, vs1[j]? = some v → os[j]? = some out → ∃ ρ'' q w, PA B n (cEnv scope C env) st t1 v xs ρ' ρ'' ∧ PTs B n (cEnv scope C env) ρ'' st f1 q ∧ (q = true → PE B n (cEnv scope C env) ρ'' st elt w) ∧ out = (if q then [w] else []) ∧ ∀ y u, ρ' y = some u → ρ'' y = some u)
    (hsz : ((outs.map List.flatten).flatten).length ≤ sizeLine) (hs : ∀ x, foldedSetIterable i0 env x = pure x := by intro _; rfl) (hs1 : ∀ env x, foldedSetIterable i1 env x = pure x := by intro _ _; rfl) :
    PC B n env ρ st (.ListComp elt [⟨t0, i0, [], 0⟩, ⟨t1, i1, f1, 0⟩] scope pos) (outs.map List.flatten).flatten := by
  refine ⟨elt, t0, i0, [], [⟨t1, i1, f1, 0⟩], scope, pos, rfl, hs, ok, fun A hA E s H RR S hRR => ?_⟩
  refine comp_blockG (RR := RR) (xs := xs) (rest := fun it D cenv => do
        let x ← eval i1 cenv
        standAt i1.pos
        let x ← foldedSetIterable i1 cenv x
        let _ ← runOwn (.compStart (.ListComp elt [⟨t0, i0, [], 0⟩, ⟨t1, i1, f1, 0⟩] scope pos) 1 (← holding [x] (pyIter x)) (.ref D) cenv) cenv
        again (.compLoop (.ListComp elt [⟨t0, i0, [], 0⟩, ⟨t1, i1, f1, 0⟩] scope pos) 0 it (.ref D) cenv)) hA S hiter htg ok hxs (fun D i H h => AccAt D (((outs.take i).map List.flatten).flatten) H h) (fun D i H h h' x dk hD => x.ext dk hD) (fun D i X H h x => x.dropX) (fun D H h ho => ⟨#[], 0, ho, .nil⟩) (fun it D cenv => ?_) (fun i v hv it D C hD => ?_) (fun D C h' tk m _ h1 h2 h3 h4 h5 h6 => ?_)
  · rw [turn_c]; rfl
  · have hil : i < vs.length := (List.getElem?_eq_some_iff.mp hv).1
    have hout : outs[i]? = some (outs[i]'(hlen ▸ hil)) := List.getElem?_eq_getElem _
    generalize outs[i]'(hlen ▸ hil) = os at hout
    obtain ⟨ρ', vs1, Cond1, Tg1, pl1, a1, a2, a3, a4, a5, a6⟩ := hturn i v os hv hout C
    have htake : outs.take (i + 1) = outs.take i ++ [os] := by rw [List.take_add_one, hout]; rfl
    refine ⟨ρ', a1, ?_⟩
    show RBodyG B n (cEnv scope C env) xs D st ρ' (restr scope ρ) _ _ (AccAt D (((outs.take i).map List.flatten).flatten)) (AccAt D (((outs.take (i + 1)).map List.flatten).flatten))
    have e : ((outs.take (i + 1)).map List.flatten).flatten = ((outs.take i).map List.flatten).flatten ++ os.flatten := by rw [htake]; simp
    rw [e]
    refine rb_nest a3 a4 os a5 a6 a2 (hs1 _) ?_
    have e1 : ((outs.map List.flatten).flatten).length = (((outs.take (i + 1)).map List.flatten).flatten).length + (((outs.drop (i + 1)).map List.flatten).flatten).length := by
      rw [← List.length_append, ← List.flatten_append, ← List.map_append, List.take_append_drop]
    rw [e, List.length_append] at e1
    omega
  · rw [← hlen, List.take_length] at h5
    exact hRR D C h' tk m h1 h2 h3 h4 h5 h6
end
end Mine

-- part Gw38
namespace Mine

section
variable {B : Bs} {n m : Nat} {env : Env} {ρ : Nm} {st : Store} {Φ : Fl → Nm → Store → Prop} {Ψ : V → Store → Prop}

end
end Mine

-- part Gw39
namespace Mine

section
variable {B : Bs} {n m : Nat} {env : Env} {ρ : Nm} {st : Store} {Φ : Fl → Nm → Store → Prop} {Ψ : V → Store → Prop}

theorem drawList {prog : Program} {w : World} {A : Around} {E : Value → Shared → Prop} {it t : Addr} {items : Array Value} (hne : t ≠ it) : ∀ (n i : Nat) (s : Shared) (Q : List Value → Shared → Prop), s.heap.IsListIter it t i → s.heap.IsList t items → i + n ≤ items.size →
    (∀ h', h'.IsListIter it t (i + n) → Heap.SameBut it s.heap h' → Q ((items.toList.drop i).take n) { s with heap := h' }) → wpAny (model prog w) A (draw (.ref it) n) Q E s
  | 0, i, s, Q, hit, _, _, hQ => by
    show wpAny _ _ (pure []) Q E s
    exact wpAny_pure (by simpa using hQ s.heap hit (Heap.SameBut.refl ..))
  | n + 1, i, s, Q, hit, ht, hle, hQ => by
    have hlt : i < items.size := by omega
    show wpAny _ _ (pyNext (.ref it) >>= _) Q E s
    refine wpAny_bind (wpAny_pyNext_list_item hit ht (x := items[i]) (by simp [hlt]) fun h₁ hit₁ hs₁ => ?_)
    refine wpAny_bind (wpAny_holding (drawList hne n (i + 1) _ _ hit₁ (ht.at fun o e => hs₁.extBut _ o hne e) (by omega) fun h₂ hit₂ hs₂ => wpAny_pure ?_))
    have hd : items.toList.drop i = items[i] :: items.toList.drop (i + 1) := by simp [List.drop_eq_getElem_cons, hlt]
    have := hQ h₂ (by rw [show i + (n + 1) = i + 1 + n by omega]; exact hit₂) (hs₁.trans hs₂)
    rw [hd, List.take_succ_cons] at this
    exact this

theorem unpackList {prog : Program} {w : World} {A : Around} {E : Value → Shared → Prop} {s : Shared} {t : Addr} {items : Array Value} {Q : List Value → Shared → Prop} (hh : A.handled = none) (ht : s.heap.IsList t items)
    (hQ : ∀ h', Heap.ExtBut s.heap.objs.size s.heap h' → Q items.toList { s with heap := h' }) : wpAny (model prog w) A (unpackItems (.ref t) items.size none) Q E s := by
  have hlt : t ≠ s.heap.objs.size := by obtain ⟨o, ho, _⟩ := ht; exact Nat.ne_of_lt (Heap.lt_size ho)
  unfold unpackItems
  refine wpAny_bind ?_
  unfold notIterableAtAll
  refine wpAny_bind (wpAny_specialOf ht.typeIs F.slot_list_iter.lookup ?_)
  refine wpAny_pure ?_
  simp only [Bool.false_eq_true, if_false]
  refine wpAny_bind (wpAny_holding (wpAny_pyIter_list ht ?_))
  have ht' : (s.heap.push { cls := .type "list_iterator", data := .fields #[.ref t, .int 0 0] }).IsList t items := ht.push _
  refine wpAny_bind (wpAny_holding (drawList hlt items.size 0 _ _ ⟨_, Heap.get?_push_size _ rfl, rfl, rfl⟩ ht' (by omega) fun h₁ hit₁ hs₁ => ?_))
  have hall : List.take items.size (List.drop 0 items.toList) = items.toList := by
    rw [List.drop_zero]; exact List.take_of_length_le (by simp)
  rw [hall]
  rw [if_neg (by simp)]
  have ht₁ : h₁.IsList t items := ht'.at fun o e => hs₁.extBut _ o hlt e
  refine wpAny_bind (wpAny_holding (wpAny_pyNext_list_end hh hit₁ ht₁ (by simp) fun h₂ he₂ => ?_))
  simp only [Option.isSome_none, Bool.false_eq_true, if_false]
  refine wpAny_pure (hQ h₂ fun b o hb e => he₂ b o hb (hs₁.extBut b o hb (Heap.get?_push_of_some _ e)))

/-- targets from a list -/
theorem pa_tupleL {ts : List Expr} {k : Nat} {pos : Pos} {vs : List V} {xs : List Str} {ρ' : Str → Option V} (h : PAs B n env st ts vs xs ρ ρ') (hn : (assignEach ts env).length = vs.length := by rfl) (hstar : (assignEach ts env).findIdx? (·.1) = none := by rfl) :
    PA B n env st (.Tuple ts k pos) (.lst vs) xs ρ ρ' := fun A hA O E s H y S r => by
  cases r with
  | lst ha ho hr =>
    rw [arm_assign_Tuple]
    refine wpAny_bind (wpAny_standAt ?_)
    unfold unpack
    rw [hn, hstar, ← hr.size]
    refine wpAny_bind (wpAny_holding (unpackList hA.hd (isList_of ho) fun h' he => ?_))
    have kp : ∀ b o, s.heap.get? b = some o → h'.get? b = some o := fun b o e => he b o (Nat.ne_of_lt (Heap.lt_size e)) e
    refine wpAny_mono (h A hA O E { s with heap := h' } H _ (S.keeps (.of kp)) (hr.ext (.of_full kp))) (fun _ s₁ q => ?_) fun _ _ e => e
    obtain ⟨h'', tk', rfl, S'', kp'⟩ := q
    exact ⟨h'', tk', rfl, S'', fun b o hb e => kp' b o hb (kp b o e)⟩

end
end Mine

-- part S1
namespace Mine.Ts

/-- the rank at a place -/
noncomputable def Kr (r : Keyed → Int) (xs : Array Keyed) (i : Nat) : Int := r (xs.getD i (.none, .none))
theorem Kr_congr {r : Keyed → Int} {xs ys : Array Keyed} {i j : Nat} (h : xs[i]? = ys[j]?) : Kr r xs i = Kr r ys j := by unfold Kr; rw [Array.getD_eq_getD_getElem?, Array.getD_eq_getD_getElem?, h]

/-- what the sort stands on -/
structure SI (κ : SortKind) (a₀ : Array Keyed) (st : SortSt) : Prop where
  kind : kindOf st = κ
  failed : failedOf st = none
  perm : (arrOf st).Perm a₀
theorem SI.size {κ : SortKind} {a₀ : Array Keyed} {st : SortSt} (h : SI κ a₀ st) : (arrOf st).size = a₀.size := h.perm.size_eq
theorem SI.setArr {κ : SortKind} {a₀ : Array Keyed} {st : SortSt} (h : SI κ a₀ st) {xs : Array Keyed} (hp : xs.Perm (arrOf st)) : SI κ a₀ (setArr st xs) := ⟨h.kind, h.failed, hp.trans h.perm⟩
theorem SI.mem {κ : SortKind} {a₀ : Array Keyed} {st : SortSt} (h : SI κ a₀ st) {x : Keyed} (hx : x ∈ arrOf st) : x ∈ a₀ := by
  have := (Array.perm_iff_toList_perm.mp h.perm).mem_iff (a := x)
  simpa using this.mp (by simpa using hx)

section
variable {prog : Program} {w : World} {A : Around} {E : Value → Shared → Prop} {s : Shared} {κ : SortKind} {a₀ : Array Keyed} {r : Keyed → Int}

/-- the comparison of two of the items -/
noncomputable def Cmp (prog : Program) (w : World) (A : Around) (E : Value → Shared → Prop) (s : Shared) (κ : SortKind) (a₀ : Array Keyed) (r : Keyed → Int) : Prop :=
  ∀ (st : SortSt) (x y : Keyed) (Q : Option Bool → SortSt → Prop), kindOf st = κ → x ∈ a₀ → y ∈ a₀ → Q (some (decide (r x < r y))) st → wpS (model prog w) A E s (lt' x y) Q st
/-- no two are alike -/
noncomputable def Inj (a₀ : Array Keyed) (r : Keyed → Int) : Prop := (a₀.toList.map r).Nodup
theorem Inj.at {κ : SortKind} {st : SortSt} (h : Inj a₀ r) (S : SI κ a₀ st) {i j : Nat} (hi : i < a₀.size) (hj : j < a₀.size) (e : Kr r (arrOf st) i = Kr r (arrOf st) j) : i = j := by
  have hp := (Array.perm_iff_toList_perm.mp S.perm).map r
  have hn : ((arrOf st).toList.map r).Nodup := hp.nodup_iff.mpr h
  have hsz := S.size
  have hi' : i < (arrOf st).size := by omega
  have hj' : j < (arrOf st).size := by omega
  have e1 : ∀ k, k < (arrOf st).size → ((arrOf st).toList.map r)[k]? = some (Kr r (arrOf st) k) := fun k hk => by simp [Kr, hk]
  refine (List.getElem?_inj (by simpa using hi') hn).mp ?_
  rw [e1 i hi', e1 j hj', e]

theorem wpS_elem {st : SortSt} {xs : Array Keyed} {i : Nat} {x : Keyed} {Q : Keyed → SortSt → Prop} (hx : xs[i]? = some x) (h : Q x st) : wpS (model prog w) A E s (elem' xs i) Q st := by
  rw [elem'_eq, hx]; exact wpS_pure h
theorem wpS_ltR {st : SortSt} {i j : Nat} {Q : Option Bool → SortSt → Prop} (hc : Cmp prog w A E s κ a₀ r) (S : SI κ a₀ st) (hi : i < a₀.size) (hj : j < a₀.size)
    (h : Q (some (decide (Kr r (arrOf st) i < Kr r (arrOf st) j))) st) : wpS (model prog w) A E s (ltAt' i j) Q st := by
  have hsz := S.size
  have hi' : i < (arrOf st).size := by omega
  have hj' : j < (arrOf st).size := by omega
  rw [ltAt'_eq]
  refine wpS_bind (wpS_get ?_)
  show wpS _ _ _ _ (do let x ← elem' (arrOf st) i; let y ← elem' (arrOf st) j; lt' x y) Q st
  refine wpS_bind (wpS_elem (Array.getElem?_eq_getElem hi') (wpS_bind (wpS_elem (Array.getElem?_eq_getElem hj') ?_)))
  refine hc st _ _ Q S.kind (S.mem (Array.getElem_mem hi')) (S.mem (Array.getElem_mem hj')) ?_
  have e1 : Kr r (arrOf st) i = r (arrOf st)[i] := by simp [Kr, hi']
  have e2 : Kr r (arrOf st) j = r (arrOf st)[j] := by simp [Kr, hj']
  rwa [e1, e2] at h

/-- rising from place i up to j -/
noncomputable def Rise (r : Keyed → Int) (xs : Array Keyed) (i j : Nat) : Prop := ∀ p q, i ≤ p → p < q → q < j → Kr r xs p < Kr r xs q
noncomputable def Same (xs ys : Array Keyed) (i j : Nat) : Prop := ∀ p, p < i ∨ j ≤ p → ys[p]? = xs[p]?
theorem Rise.one {xs : Array Keyed} {i : Nat} : Rise r xs i (i + 1) := fun p q h1 h2 h3 => by omega

end

section
variable {r : Keyed → Int} {T : Array Keyed} {pre mid post : List Keyed}
theorem kr_mid (h : T.toList = pre ++ (mid ++ post)) {i : Nat} (hi : i < mid.length) : Kr r T (pre.length + i) = r mid[i] := by
  unfold Kr
  rw [Array.getD_eq_getD_getElem?, ← Array.getElem?_toList, h, List.getElem?_append_right (Nat.le_add_right _ _), Nat.add_sub_cancel_left, List.getElem?_append_left hi, List.getElem?_eq_getElem hi]; rfl
theorem rise_mid (h : T.toList = pre ++ (mid ++ post)) : Rise r T pre.length (pre.length + mid.length) ↔ mid.Pairwise (fun a b => r a < r b) := by
  rw [List.pairwise_iff_getElem]
  constructor
  · intro hR i j hi hj hij
    rw [← kr_mid (r := r) h hi, ← kr_mid (r := r) h hj]
    exact hR _ _ (Nat.le_add_right _ _) (Nat.add_lt_add_left hij _) (Nat.add_lt_add_left hj _)
  · intro hP p q h1 h2 h3
    obtain ⟨i, rfl⟩ := Nat.exists_eq_add_of_le h1
    obtain ⟨j, rfl⟩ := Nat.exists_eq_add_of_le (Nat.le_trans h1 (Nat.le_of_lt h2))
    have hij := Nat.lt_of_add_lt_add_left h2
    have hj := Nat.lt_of_add_lt_add_left h3
    rw [kr_mid h (Nat.lt_trans hij hj), kr_mid h hj]
    exact hP i j _ hj hij
theorem ex_mid (h : T.toList = pre ++ (mid ++ post)) : (T.extract pre.length (pre.length + mid.length)).toList = mid := by
  rw [Array.toList_extract, List.extract_eq_take_drop, h, Nat.add_sub_cancel_left, List.drop_left, List.take_left]
theorem cut2 {l : List Keyed} {a : Nat} (h : a ≤ l.length) : ∃ pre post, l = pre ++ post ∧ pre.length = a := ⟨l.take a, l.drop a, (List.take_append_drop a l).symm, List.length_take_of_le h⟩
theorem lt_of_le_ne {a b : Int} (h : ¬ b < a) (hn : a ≠ b) : a < b := Int.lt_iff_le_and_ne.mpr ⟨Int.not_lt.mp h, hn⟩
theorem bub_mid {x : Keyed} (h : T.toList = pre ++ (mid ++ x :: post)) : (bubble T (pre.length + mid.length) mid.length).toList = pre ++ (x :: (mid ++ post)) := by
  have hs : pre.length + mid.length < T.size := by
    rw [← Array.length_toList, h, List.length_append, List.length_append, List.length_cons]
    exact Nat.add_lt_add_left (Nat.lt_add_of_pos_right (Nat.succ_pos _)) _
  apply List.ext_getElem?
  intro p
  rw [Array.getElem?_toList, getElem?_bubble hs _ (Nat.le_add_left _ _), Nat.add_sub_cancel]
  simp only [← Array.getElem?_toList, h]
  by_cases h1 : p < pre.length
  · rw [if_neg (Nat.ne_of_lt h1), if_neg fun q => Nat.lt_asymm q.1 h1, List.getElem?_append_left h1, List.getElem?_append_left h1]
  · obtain ⟨q, rfl⟩ := Nat.exists_eq_add_of_le (Nat.le_of_not_lt h1)
    rw [List.getElem?_append_right (l₁ := pre) (l₂ := x :: (mid ++ post)) (Nat.le_add_right _ _), Nat.add_sub_cancel_left]
    cases q with
    | zero => rw [if_pos (Nat.add_zero _), List.getElem?_append_right (Nat.le_add_right _ _), Nat.add_sub_cancel_left, List.getElem?_append_right (Nat.le_refl _), Nat.sub_self]; rfl
    | succ q =>
      rw [if_neg (Nat.ne_of_gt (Nat.lt_add_of_pos_right (Nat.succ_pos _))), List.getElem?_cons_succ]
      by_cases h2 : q < mid.length
      · rw [if_pos ⟨Nat.lt_add_of_pos_right (Nat.succ_pos _), Nat.add_le_add_left h2 _⟩, ← Nat.add_assoc, Nat.add_sub_cancel, List.getElem?_append_right (Nat.le_add_right _ _), Nat.add_sub_cancel_left, List.getElem?_append_left h2, List.getElem?_append_left h2]
      · obtain ⟨t, rfl⟩ := Nat.exists_eq_add_of_le (Nat.le_of_not_lt h2)
        rw [if_neg fun e => h2 (Nat.le_of_add_le_add_left e.2), List.getElem?_append_right (Nat.le_add_right _ _), Nat.add_sub_cancel_left, List.getElem?_append_right (l₁ := mid) (l₂ := x :: post) (Nat.le_succ_of_le (Nat.le_add_right _ _)), show (mid.length + t).succ - mid.length = t + 1 from Nat.add_sub_cancel_left (n := mid.length) (m := t + 1), List.getElem?_cons_succ, List.getElem?_append_right (Nat.le_add_right _ _), Nat.add_sub_cancel_left]
theorem ins_pw {A B : List Keyed} {x : Keyed} (h : (A ++ B).Pairwise (fun a b => r a < r b)) (ha : ∀ a ∈ A, r a < r x) (hb : ∀ b ∈ B, r x < r b) : (A ++ x :: B).Pairwise (fun a b => r a < r b) := by
  obtain ⟨h1, h2, h3⟩ := List.pairwise_append.mp h
  exact List.pairwise_append.mpr ⟨h1, List.pairwise_cons.mpr ⟨hb, h2⟩, fun a ha' b hb' => (List.mem_cons.mp hb').elim (fun e => e ▸ ha a ha') fun hb' => h3 a ha' b hb'⟩
theorem bubble_rise {lo l k : Nat} (hk : lo + k < T.size) (hl : l ≤ k) (hs : Rise r T lo (lo + k)) (hlo : ∀ i, i < l → Kr r T (lo + i) < Kr r T (lo + k)) (hhi : ∀ i, l ≤ i → i < k → Kr r T (lo + k) < Kr r T (lo + i)) : Rise r (bubble T (lo + k) (lo + k - (lo + l))) lo (lo + (k + 1)) := by
  have h0 := Array.length_toList (xs := T)
  obtain ⟨u, v, hT, hu⟩ := cut2 (l := T.toList) (a := lo) (by omega)
  rw [hT, List.length_append] at h0
  obtain ⟨A, v, rfl, hA⟩ := cut2 (l := v) (a := l) (by omega)
  rw [List.length_append] at h0
  obtain ⟨B, v, rfl, hB⟩ := cut2 (l := v) (a := k - l) (by omega)
  rw [List.length_append] at h0
  have lAB : (A ++ B).length = k := by rw [List.length_append, hA, hB]; exact Nat.add_sub_of_le hl
  cases v with
  | nil => rw [List.length_nil] at h0; omega
  | cons x post =>
    have t1 : T.toList = u ++ ((A ++ B) ++ (x :: post)) := by rw [hT]; simp only [List.append_assoc]
    have t2 : T.toList = (u ++ (A ++ B)) ++ (x :: post ++ []) := by rw [hT]; simp only [List.append_assoc, List.append_nil, List.cons_append]
    have t3 : T.toList = (u ++ A) ++ (B ++ x :: post) := by rw [hT]; simp only [List.append_assoc]
    have kx : r x = Kr r T (lo + k) := by
      have := kr_mid (r := r) t2 (i := 0) (Nat.succ_pos _)
      rw [List.length_append, hu, lAB, Nat.add_zero] at this
      exact this.symm
    have kA : ∀ {j : Nat} (hj : j < (A ++ B).length), r (A ++ B)[j] = Kr r T (lo + j) := fun hj => by rw [← kr_mid (r := r) t1 hj, hu]
    have pw := ins_pw (r := r) (x := x) ((rise_mid t1).mp (by rw [hu, lAB]; exact hs)) (fun a ha => by
      obtain ⟨j, hj, rfl⟩ := List.mem_iff_getElem.mp ha
      have e : A[j] = (A ++ B)[j]'(by rw [List.length_append]; exact Nat.lt_add_right _ hj) := (List.getElem_append_left hj).symm
      rw [e, kA, kx]
      exact hlo j (hA ▸ hj)) (fun b hb => by
      obtain ⟨j, hj, rfl⟩ := List.mem_iff_getElem.mp hb
      have e : B[j] = (A ++ B)[A.length + j]'(by rw [List.length_append]; exact Nat.add_lt_add_left hj _) := by rw [List.getElem_append_right (Nat.le_add_right _ _)]; simp
      rw [e, kA, kx]
      exact hhi _ (hA ▸ Nat.le_add_right _ _) (by rw [hA]; omega))
    have e1 := bub_mid t3
    rw [List.length_append, hu, hA, hB, show lo + l + (k - l) = lo + k by omega, show k - l = lo + k - (lo + l) by omega] at e1
    have e2 : (bubble T (lo + k) (lo + k - (lo + l))).toList = u ++ ((A ++ x :: B) ++ post) := by rw [e1]; simp only [List.append_assoc, List.cons_append]
    have := (rise_mid (r := r) e2).mpr pw
    rwa [List.length_append, List.length_cons, ← Nat.add_assoc A.length, ← List.length_append, hu, lAB] at this
end

section
variable {prog : Program} {w : World} {A : Around} {E : Value → Shared → Prop} {s : Shared} {κ : SortKind} {a₀ : Array Keyed} {r : Keyed → Int}

theorem wS_eq {α : Type} {p q : Nat} {x y : StateT SortSt Sem α} {Q : α → SortSt → Prop} {st : SortSt} (h1 : p = q → wpS (model prog w) A E s x Q st) (h2 : p ≠ q → wpS (model prog w) A E s y Q st) : wpS (model prog w) A E s (if (p == q) = true then x else y) Q st := by
  split
  · exact h1 (by simp_all)
  · exact h2 (by simp_all)
theorem wS_if {α : Type} {c : Prop} [Decidable c] {x y : StateT SortSt Sem α} {Q : α → SortSt → Prop} {st : SortSt} (h1 : c → wpS (model prog w) A E s x Q st) (h2 : ¬ c → wpS (model prog w) A E s y Q st) : wpS (model prog w) A E s (if c then x else y) Q st := by
  split
  · exact h1 (by assumption)
  · exact h2 (by assumption)
theorem wS_at {α : Type} {xs : Array Keyed} {i : Nat} (hi : i < xs.size) {f : Keyed → StateT SortSt Sem α} {Q : α → SortSt → Prop} {st : SortSt} (h : wpS (model prog w) A E s (f xs[i]) Q st) : wpS (model prog w) A E s (elem' xs i >>= f) Q st := wpS_bind (wpS_elem (Array.getElem?_eq_getElem hi) h)

theorem asc_loop (hc : Cmp prog w A E s κ a₀ r) (hi : Inj a₀ r) {st : SortSt} {lo a nrem : Nat} {Q : Option (Option Nat) × Nat → SortSt → Prop} (S : SI κ a₀ st) (hn : lo + nrem ≤ a₀.size) (ha : 1 ≤ a) (han : a ≤ nrem)
    (hs : Rise r (arrOf st) lo (lo + a))
    (h : ∀ n, a ≤ n → n ≤ nrem → Rise r (arrOf st) lo (lo + n) → (n = nrem ∨ Kr r (arrOf st) (lo + n) < Kr r (arrOf st) (lo + n - 1)) → Q (none, n) st) :
    wpS (model prog w) A E s (forIn [a:nrem] ((none, a) : Option (Option Nat) × Nat) fun _ acc0 => do
      let res0 ← ltAt' (lo + acc0.snd) (lo + acc0.snd - 1)
      match res0 with
      | some smaller => if smaller = true then pure (ForInStep.done (none, acc0.snd)) else pure (ForInStep.yield (none, acc0.snd + 1))
      | _ => pure (ForInStep.done (some none, acc0.snd))) Q st := by
  refine wpS_forRange (I := fun x c st' => st' = st ∧ c = (none, x) ∧ Rise r (arrOf st) lo (lo + x)) ?step ?fin ⟨rfl, rfl, hs⟩
  case fin =>
    rintro c st' ⟨rfl, rfl, hs'⟩
    rw [show max a nrem = nrem by omega] at hs' ⊢
    exact h nrem han (Nat.le_refl _) hs' (.inl rfl)
  case step =>
    rintro x c st' hax hxn ⟨rfl, rfl, hs'⟩
    dsimp only
    refine wpS_bind (wpS_ltR hc S (by omega) (by omega) ?_)
    by_cases hless : Kr r (arrOf st') (lo + x) < Kr r (arrOf st') (lo + x - 1)
    · simp only [hless, decide_true, if_true]
      exact wpS_pure (h x hax (by omega) hs' (.inr hless))
    · simp only [hless, decide_false, Bool.false_eq_true, if_false]
      have hne : Kr r (arrOf st') (lo + x) ≠ Kr r (arrOf st') (lo + x - 1) := fun e => by have := hi.at S (by omega) (by omega) e; omega
      refine wpS_pure ⟨rfl, rfl, fun p q h1 h2 h3 => ?_⟩
      by_cases hq : q < lo + x
      · exact hs' p q h1 h2 hq
      · have hq' : q = lo + x := by omega
        subst hq'
        by_cases hp' : p = lo + x - 1
        · subst hp'; omega
        · have := hs' p (lo + x - 1) h1 (by omega) (by omega); omega

theorem desc_loop (hc : Cmp prog w A E s κ a₀ r) (hi : Inj a₀ r) {st : SortSt} {lo a nrem : Nat} {Q : Option (Option Nat) × Nat × Nat → SortSt → Prop} (S : SI κ a₀ st) (hn : lo + nrem ≤ a₀.size) (ha : 1 ≤ a) (han : a ≤ nrem)
    (hs : ∀ p q, lo ≤ p → p < q → q < lo + a → Kr r (arrOf st) q < Kr r (arrOf st) p)
    (h : ∀ n, a ≤ n → n ≤ nrem → (∀ p q, lo ≤ p → p < q → q < lo + n → Kr r (arrOf st) q < Kr r (arrOf st) p) → Q (none, n, 0) st) :
    wpS (model prog w) A E s (forIn [a:nrem] ((none, a, 0) : Option (Option Nat) × Nat × Nat) fun _ acc0 => do
      let res0 ← ltAt' (lo + acc0.snd.fst) (lo + acc0.snd.fst - 1)
      match res0 with
      | some smaller =>
        if smaller = true then
          if acc0.snd.snd > 0 then do
            reverseSlice' (lo + acc0.snd.fst - (acc0.snd.snd + 1)) (lo + acc0.snd.fst)
            pure (ForInStep.yield (none, acc0.snd.fst + 1, 0))
          else pure (ForInStep.yield (none, acc0.snd.fst + 1, 0))
        else do
          let res0 ← ltAt' (lo + acc0.snd.fst - 1) (lo + acc0.snd.fst)
          match res0 with
          | some larger =>
            if larger = true then pure (ForInStep.done (none, acc0.snd.fst, acc0.snd.snd))
            else pure (ForInStep.yield (none, acc0.snd.fst + 1, acc0.snd.snd + 1))
          | _ => pure (ForInStep.done (some none, acc0.snd.fst, acc0.snd.snd))
      | _ => pure (ForInStep.done (some none, acc0.snd.fst, acc0.snd.snd))) Q st := by
  refine wpS_forRange (I := fun x c st' => st' = st ∧ c = (none, x, 0) ∧ ∀ p q, lo ≤ p → p < q → q < lo + x → Kr r (arrOf st) q < Kr r (arrOf st) p) ?step ?fin ⟨rfl, rfl, hs⟩
  case fin =>
    rintro c st' ⟨rfl, rfl, hs'⟩
    rw [show max a nrem = nrem by omega] at hs' ⊢
    exact h nrem han (Nat.le_refl _) hs'
  case step =>
    rintro x c st' hax hxn ⟨rfl, rfl, hs'⟩
    dsimp only
    refine wpS_bind (wpS_ltR hc S (by omega) (by omega) ?_)
    by_cases hless : Kr r (arrOf st') (lo + x) < Kr r (arrOf st') (lo + x - 1)
    · simp only [hless, decide_true, if_true]
      rw [if_neg (by omega)]
      refine wpS_pure ⟨rfl, rfl, fun p q h1 h2 h3 => ?_⟩
      by_cases hq : q < lo + x
      · exact hs' p q h1 h2 hq
      · have hq' : q = lo + x := by omega
        subst hq'
        by_cases hp' : p = lo + x - 1
        · subst hp'; exact hless
        · have := hs' p (lo + x - 1) h1 (by omega) (by omega); omega
    · simp only [hless, decide_false, Bool.false_eq_true, if_false]
      refine wpS_bind (wpS_ltR hc S (by omega) (by omega) ?_)
      have hne : Kr r (arrOf st') (lo + x) ≠ Kr r (arrOf st') (lo + x - 1) := fun e => by have := hi.at S (by omega) (by omega) e; omega
      have hl : Kr r (arrOf st') (lo + x - 1) < Kr r (arrOf st') (lo + x) := by omega
      simp only [hl, decide_true, if_true]
      exact wpS_pure (h x hax (by omega) hs')

theorem count_run (hc : Cmp prog w A E s κ a₀ r) (hi : Inj a₀ r) {st : SortSt} {lo nrem : Nat} {Q : Option Nat → SortSt → Prop} (S : SI κ a₀ st) (hn : lo + nrem ≤ a₀.size) (h1 : 1 ≤ nrem)
    (h : ∀ m xs, SI κ a₀ (setArr st xs) → 1 ≤ m → m ≤ nrem → Rise r xs lo (lo + m) → Same (arrOf st) xs lo (lo + m) → Q (some m) (setArr st xs)) :
    wpS (model prog w) A E s (countRun' lo nrem) Q st := by
  rw [countRun'_eq]
  refine wpS_bind (asc_loop hc hi S hn (Nat.le_refl 1) h1 Rise.one fun n hn1 hn2 hsn hor => ?_)
  dsimp only
  by_cases hnn : n = nrem
  · rw [if_pos (by simpa using hnn)]
    exact wpS_pure (h n (arrOf st) S hn1 hn2 hsn fun _ _ => rfl)
  · rw [if_neg (by simpa using hnn)]
    have hlt : Kr r (arrOf st) (lo + n) < Kr r (arrOf st) (lo + n - 1) := hor.resolve_left hnn
    by_cases hgt : n > 1
    · rw [if_pos hgt]
      refine wpS_bind (wpS_ltR hc S (by omega) (by omega) ?_)
      have hrose : Kr r (arrOf st) lo < Kr r (arrOf st) (lo + n - 1) := hsn lo (lo + n - 1) (Nat.le_refl _) (by omega) (by omega)
      simp only [hrose, decide_true, if_true]
      exact wpS_pure (h n (arrOf st) S hn1 hn2 hsn fun _ _ => rfl)
    · rw [if_neg hgt]
      have hn' : n = 1 := by omega
      subst hn'
      refine wpS_bind (wpS_lift (wpAny_rule ⟨rfl, ?_⟩))
      refine wpS_bind (desc_loop hc hi S hn (by omega) (by omega) ?_ fun m hm1 hm2 hf => ?_)
      · intro p q h2 h3 h4
        have e1 : p = lo := by omega
        have e2 : q = lo + 1 := by omega
        subst e1; subst e2
        simpa using hlt
      dsimp only
      rw [if_neg (by omega)]
      have hsz : lo + m ≤ (arrOf st).size := by rw [S.size]; omega
      refine wpS_bind (wpS_reverse ?_)
      have S' : SI κ a₀ (setArr st (mirror (arrOf st) lo (lo + m) ((lo + m - lo) / 2))) := S.setArr (mirror_perm _ _ _ _)
      have hmir : ∀ k, (mirror (arrOf st) lo (lo + m) ((lo + m - lo) / 2))[k]? = if lo ≤ k ∧ k < lo + m then (arrOf st)[lo + (lo + m) - 1 - k]? else (arrOf st)[k]? := fun k => getElem?_mirror_all hsz k
      refine wpS_bind (asc_loop hc hi S' hn (by omega) hm2 ?_ fun n hn1 hn2 hsn _ => ?_)
      · intro p q h2 h3 h4
        show Kr r (mirror (arrOf st) lo (lo + m) ((lo + m - lo) / 2)) p < Kr r (mirror (arrOf st) lo (lo + m) ((lo + m - lo) / 2)) q
        have e1 : Kr r (mirror (arrOf st) lo (lo + m) ((lo + m - lo) / 2)) p = Kr r (arrOf st) (lo + (lo + m) - 1 - p) := Kr_congr (by rw [hmir, if_pos (by omega)])
        have e2 : Kr r (mirror (arrOf st) lo (lo + m) ((lo + m - lo) / 2)) q = Kr r (arrOf st) (lo + (lo + m) - 1 - q) := Kr_congr (by rw [hmir, if_pos (by omega)])
        rw [e1, e2]
        exact hf _ _ (by omega) (by omega) (by omega)
      · exact wpS_pure (h n _ S' (by omega) hn2 hsn fun p hp => by rw [hmir, if_neg (by omega)])

theorem mid1 {l u : Nat} (h : l < u) : l ≤ (l + u) / 2 ∧ (l + u) / 2 < u := by omega
theorem bin_find (hc : Cmp prog w A E s κ a₀ r) (hi : Inj a₀ r) {st : SortSt} {lo k : Nat} {Q : Option Bool × Nat × Nat → SortSt → Prop} (S : SI κ a₀ st) (hk : lo + k < a₀.size) (hs : Rise r (arrOf st) lo (lo + k))
    (h : ∀ l u, l ≤ k → (∀ i, i < l → Kr r (arrOf st) (lo + i) < Kr r (arrOf st) (lo + k)) → (∀ i, l ≤ i → i < k → Kr r (arrOf st) (lo + k) < Kr r (arrOf st) (lo + i)) → Q (none, l, u) st) :
    wpS (model prog w) A E s (forIn [0:k] ((none, 0, k) : Option Bool × Nat × Nat) fun _ c =>
      if c.snd.fst ≥ c.snd.snd then pure (ForInStep.done (none, c.snd.fst, c.snd.snd)) else do
        let t ← ltAt' (lo + k) (lo + (c.snd.fst + c.snd.snd) / 2)
        match t with
        | some less => if less = true then pure (ForInStep.yield (none, c.snd.fst, (c.snd.fst + c.snd.snd) / 2)) else pure (ForInStep.yield (none, (c.snd.fst + c.snd.snd) / 2 + 1, c.snd.snd))
        | _ => pure (ForInStep.done (some false, c.snd.fst, c.snd.snd))) Q st := by
  refine wpS_forRange (I := fun x c st' => st' = st ∧ ∃ l u, c = (none, l, u) ∧ l ≤ u ∧ u ≤ k ∧ u + x ≤ k + l ∧
    (∀ i, i < l → Kr r (arrOf st) (lo + i) < Kr r (arrOf st) (lo + k)) ∧ (∀ i, u ≤ i → i < k → Kr r (arrOf st) (lo + k) < Kr r (arrOf st) (lo + i))) ?_ ?_ ⟨rfl, 0, k, rfl, Nat.zero_le _, Nat.le_refl _, Nat.le_refl _, fun i hi => absurd hi (Nat.not_lt_zero _), fun i h1 h2 => absurd h2 (Nat.not_lt_of_le h1)⟩
  · rintro x c st' _ hx ⟨rfl, l, u, rfl, a1, a2, a3, a4, a5⟩
    by_cases hge : l ≥ u
    · rw [if_pos hge]
      exact wpS_pure (h l u (Nat.le_trans a1 a2) a4 fun i h1 h2 => a5 i (Nat.le_trans hge h1) h2)
    · rw [if_neg hge]
      obtain ⟨m1, m2⟩ := mid1 (Nat.lt_of_not_ge hge)
      have hmk := Nat.lt_of_lt_of_le m2 a2
      refine wpS_bind (wpS_ltR hc S hk (Nat.lt_trans (Nat.add_lt_add_left hmk _) hk) ?_)
      dsimp only
      generalize (l + u) / 2 = m at *
      by_cases hless : Kr r (arrOf st') (lo + k) < Kr r (arrOf st') (lo + m)
      · simp only [hless, decide_true, if_true]
        refine wpS_pure ⟨rfl, l, m, rfl, m1, Nat.le_of_lt hmk, by omega, a4, fun i h2 h3 => ?_⟩
        by_cases e : m = i
        · subst e; exact hless
        · exact Int.lt_trans hless (hs _ _ (Nat.le_add_right _ _) (Nat.add_lt_add_left (Nat.lt_of_le_of_ne h2 e) _) (Nat.add_lt_add_left h3 _))
      · simp only [hless, decide_false, Bool.false_eq_true, if_false]
        have hne : Kr r (arrOf st') (lo + m) < Kr r (arrOf st') (lo + k) := lt_of_le_ne hless fun e => Nat.ne_of_lt (Nat.add_lt_add_left hmk lo) (hi.at S (Nat.lt_trans (Nat.add_lt_add_left hmk _) hk) hk e)
        refine wpS_pure ⟨rfl, m + 1, u, rfl, m2, a2, by omega, fun i h2 => ?_, a5⟩
        by_cases e : i = m
        · subst e; exact hne
        · exact Int.lt_trans (hs _ _ (Nat.le_add_right _ _) (Nat.add_lt_add_left (Nat.lt_of_le_of_ne (Nat.le_of_lt_succ h2) e) _) (Nat.add_lt_add_left hmk _)) hne
  · rintro c st' ⟨rfl, l, u, rfl, a1, a2, a3, a4, a5⟩
    rw [Nat.max_eq_right (Nat.zero_le _)] at a3
    exact h l u (Nat.le_trans a1 a2) a4 fun i h1 h2 => a5 i (by omega) h2

theorem bin_sort (hc : Cmp prog w A E s κ a₀ r) (hi : Inj a₀ r) {st : SortSt} {lo n ok : Nat} {Q : Bool → SortSt → Prop} (S : SI κ a₀ st) (hn : lo + n ≤ a₀.size) (h1 : 1 ≤ ok) (hok : ok ≤ n) (hs : Rise r (arrOf st) lo (lo + ok))
    (h : ∀ xs, SI κ a₀ (setArr st xs) → Rise r xs lo (lo + n) → Same (arrOf st) xs lo (lo + n) → Q true (setArr st xs)) : wpS (model prog w) A E s (binarySort' lo n ok) Q st := by
  rw [binarySort'_eq]
  refine wpS_bind (wpS_mono (wpS_forRange (I := fun k c st' => c = (none, ()) ∧ ∃ xs, st' = setArr st xs ∧ SI κ a₀ st' ∧ Rise r xs lo (lo + k) ∧ Same (arrOf st) xs lo (lo + n))
    (Q := fun c st' => c = (none, ()) ∧ ∃ xs, st' = setArr st xs ∧ SI κ a₀ st' ∧ Rise r xs lo (lo + n) ∧ Same (arrOf st) xs lo (lo + n)) ?step ?fin ⟨rfl, arrOf st, rfl, S, by rw [Nat.max_eq_left h1]; exact hs, fun _ _ => rfl⟩) ?post)
  case post =>
    rintro c st' ⟨rfl, xs, rfl, S', hs', hm⟩
    exact wpS_pure (h xs S' hs' hm)
  case fin =>
    rintro c st' ⟨hc', xs, e, S', hs', hm⟩
    rw [Nat.max_eq_left h1, Nat.max_eq_right hok] at hs'
    exact ⟨hc', xs, e, S', hs', hm⟩
  case step =>
    rintro k c st' hak hkn ⟨rfl, xs, rfl, S', hs', hm⟩
    have hk : lo + k < a₀.size := Nat.lt_of_lt_of_le (Nat.add_lt_add_left hkn _) hn
    have hxs : xs.size = a₀.size := S'.size
    refine wpS_bind (bin_find hc hi S' hk hs' fun l u hlk hlo hhi => ?_)
    refine wpS_bind (wpS_modify ?_)
    refine wpS_pure ⟨rfl, bubble xs (lo + k) (lo + k - (lo + l)), rfl, S'.setArr (bubble_perm _ _ _), bubble_rise (hxs ▸ hk) hlk hs' hlo hhi, fun p hp => ?_⟩
    rw [getElem?_bubble (hxs ▸ hk) _ (Nat.sub_le _ _) p]
    clear hak h1 hok hxs hn hk
    rw [if_neg (by omega), if_neg (by omega)]; exact hm p hp
end
end Mine.Ts

-- part S2
namespace Mine.Ts

noncomputable def gallop' : Bool → Keyed → Array Keyed → Nat → Nat → Nat → StateT SortSt Sem (Option Nat) := sortPriv% PySem.Builtin.gallop
noncomputable def beyond' (left : Bool) (key : Keyed) (arr : Array Keyed) (base i : Nat) : StateT SortSt Sem (Option Bool) := do
  let x ← elem' arr (base + i)
  if left then lt' x key else return (← lt' key x).map (!·)

theorem gallop'_eq (left : Bool) (key : Keyed) (arr : Array Keyed) (base n hint : Nat) : gallop' left key arr base n hint = (do
  let mut lastofs := 0
  let mut ofs := 1
  let mut lo := 0
  let mut hi := 0
  let some right ← beyond' left key arr base hint | return none
  if right then
    let maxofs := n - hint
    for _ in [0:n] do
      if ofs ≥ maxofs then break
      let some more ← beyond' left key arr base (hint + ofs) | return none
      if !more then break
      lastofs := ofs
      ofs := 2 * ofs + 1
    lo := hint + lastofs + 1
    hi := hint + min ofs maxofs
  else
    let maxofs := hint + 1
    for _ in [0:n] do
      if ofs ≥ maxofs then break
      let some found ← beyond' left key arr base (hint - ofs) | return none
      if found then break
      lastofs := ofs
      ofs := 2 * ofs + 1
    lo := hint + 1 - min ofs maxofs
    hi := hint - lastofs
  for _ in [0:n] do
    if lo ≥ hi then break
    let m := lo + (hi - lo) / 2
    let some more ← beyond' left key arr base m | return none
    if more then lo := m + 1 else hi := m
  return some hi) := rfl

section
variable {prog : Program} {w : World} {A : Around} {E : Value → Shared → Prop} {s : Shared} {κ : SortKind} {a₀ : Array Keyed} {r : Keyed → Int}

noncomputable def bd2 (r : Keyed → Int) (left : Bool) (key : Keyed) (arr : Array Keyed) (base i : Nat) : Bool := if left then decide (Kr r arr (base + i) < r key) else !decide (r key < Kr r arr (base + i))

theorem beyond_ok (hc : Cmp prog w A E s κ a₀ r) {st : SortSt} (hk : kindOf st = κ) {left : Bool} {key : Keyed} {arr : Array Keyed} {base i : Nat} {Q : Option Bool → SortSt → Prop} (hkey : key ∈ a₀) (hx : ∃ x, arr[base + i]? = some x ∧ x ∈ a₀) (h : Q (some (bd2 r left key arr base i)) st) :
    wpS (model prog w) A E s (beyond' left key arr base i) Q st := by
  obtain ⟨x, hx, hm⟩ := hx
  unfold beyond'
  have e : Kr r arr (base + i) = r x := by unfold Kr; rw [Array.getD_eq_getD_getElem?, hx]; rfl
  unfold bd2 at h
  rw [e] at h
  refine wpS_bind (wpS_elem hx ?_)
  cases left with
  | true => simp only [if_true] at h ⊢; exact hc st x key Q hk hm hkey h
  | false =>
    simp only [Bool.false_eq_true, if_false] at h ⊢
    exact wpS_bind (hc st key x _ hk hkey hm (wpS_pure h))

theorem mid2 {l u : Nat} (h : l < u) : l ≤ l + (u - l) / 2 ∧ l + (u - l) / 2 < u := by omega
section
variable {st : SortSt} {left : Bool} {key : Keyed} {arr : Array Keyed} {base n hint : Nat} {bd : Nat → Bool}
/-- what a search leans on -/
structure GB (prog : Program) (w : World) (A : Around) (E : Value → Shared → Prop) (s : Shared) (st : SortSt) (left : Bool) (key : Keyed) (arr : Array Keyed) (base n : Nat) (bd : Nat → Bool) : Prop where
  B : ∀ {i : Nat} {Q : Option Bool → SortSt → Prop}, i < n → Q (some (bd i)) st → wpS (model prog w) A E s (beyond' left key arr base i) Q st
  up : ∀ i j, i ≤ j → j < n → bd j = true → bd i = true
  dn : ∀ i j, i ≤ j → j < n → bd i = false → bd j = false
theorem gal_fin (G : GB prog w A E s st left key arr base n bd) {lo hi : Nat} (h1 : lo ≤ hi) (h2 : hi ≤ n) (hlo : ∀ i, i < lo → bd i = true) (hhi : ∀ i, hi ≤ i → i < n → bd i = false) {Q : Option (Option Nat) × Nat × Nat → SortSt → Prop}
    (hQ : ∀ l, l ≤ n → (∀ i, i < l → bd i = true) → (∀ i, l ≤ i → i < n → bd i = false) → Q (none, l, l) st) :
    wpS (model prog w) A E s (forIn [0:n] ((none, lo, hi) : Option (Option Nat) × Nat × Nat) fun _ acc0 =>
      if acc0.snd.fst ≥ acc0.snd.snd then pure (ForInStep.done (none, acc0.snd.fst, acc0.snd.snd)) else do
        let res0 ← beyond' left key arr base (acc0.snd.fst + (acc0.snd.snd - acc0.snd.fst) / 2)
        match res0 with
        | some more => if more = true then pure (ForInStep.yield (none, acc0.snd.fst + (acc0.snd.snd - acc0.snd.fst) / 2 + 1, acc0.snd.snd)) else pure (ForInStep.yield (none, acc0.snd.fst, acc0.snd.fst + (acc0.snd.snd - acc0.snd.fst) / 2))
        | _ => pure (ForInStep.done (some none, acc0.snd.fst, acc0.snd.snd))) Q st := by
  refine wpS_forRange (I := fun x c st' => st' = st ∧ ∃ l u, c = (none, l, u) ∧ l ≤ u ∧ u ≤ n ∧ u + x ≤ n + l ∧ (∀ i, i < l → bd i = true) ∧ (∀ i, u ≤ i → i < n → bd i = false)) ?_ ?_ ⟨rfl, lo, hi, rfl, h1, h2, Nat.le_trans h2 (Nat.le_add_right _ _), hlo, hhi⟩
  · rintro x c st' _ hxn ⟨rfl, l, u, rfl, a1, a2, a3, a4, a5⟩
    refine wS_if (fun hge => ?_) fun hge => ?_
    · obtain rfl : l = u := Nat.le_antisymm a1 hge
      exact wpS_pure (hQ l a2 a4 a5)
    · obtain ⟨m1, m2⟩ := mid2 (Nat.lt_of_not_ge hge)
      refine wpS_bind (G.B (Nat.lt_of_lt_of_le m2 a2) ?_)
      dsimp only at m1 m2 ⊢
      generalize l + (u - l) / 2 = m at *
      cases hb : bd m with
      | true => exact wS_if (fun _ => wpS_pure ⟨rfl, m + 1, u, rfl, m2, a2, by omega, fun i hi => G.up i _ (Nat.le_of_lt_succ hi) (Nat.lt_of_lt_of_le m2 a2) hb, a5⟩) fun h => absurd rfl h
      | false => exact wS_if (fun h => by cases h) fun _ => wpS_pure ⟨rfl, l, m, rfl, m1, Nat.le_of_lt (Nat.lt_of_lt_of_le m2 a2), by omega, a4, fun i h1 h2 => G.dn _ i h1 h2 hb⟩
  · rintro c st' ⟨rfl, l, u, rfl, a1, a2, a3, a4, a5⟩
    rw [Nat.max_eq_right (Nat.zero_le _)] at a3
    obtain rfl : l = u := Nat.le_antisymm a1 (by omega)
    exact hQ l a2 a4 a5
theorem gal_up (G : GB prog w A E s st left key arr base n bd) (hh : hint < n) (hr : bd hint = true) {Q : Option (Option Nat) × Nat × Nat → SortSt → Prop}
    (hQ : ∀ l o, l < o → hint + l < n → bd (hint + l) = true → (n ≤ hint + o ∨ (hint + o < n ∧ bd (hint + o) = false)) → Q (none, l, o) st) :
    wpS (model prog w) A E s (forIn [0:n] ((none, 0, 1) : Option (Option Nat) × Nat × Nat) fun _ acc0 =>
      if acc0.snd.snd ≥ n - hint then pure (ForInStep.done (none, acc0.snd.fst, acc0.snd.snd)) else do
        let res0 ← beyond' left key arr base (hint + acc0.snd.snd)
        match res0 with
        | some more => if (!more) = true then pure (ForInStep.done (none, acc0.snd.fst, acc0.snd.snd)) else pure (ForInStep.yield (none, acc0.snd.snd, 2 * acc0.snd.snd + 1))
        | _ => pure (ForInStep.done (some none, acc0.snd.fst, acc0.snd.snd))) Q st := by
  refine wpS_forRange (I := fun x c st' => st' = st ∧ ∃ l o, c = (none, l, o) ∧ l < o ∧ x + 1 ≤ o ∧ hint + l < n ∧ bd (hint + l) = true) ?_ ?_ ⟨rfl, 0, 1, rfl, Nat.one_pos, Nat.le_refl _, hh, hr⟩
  · rintro x c st' _ hxn ⟨rfl, l, o, rfl, a1, a2, a3, a4⟩
    refine wS_if (fun hge => wpS_pure (hQ l o a1 a3 a4 (.inl (Nat.add_comm o hint ▸ Nat.le_add_of_sub_le hge)))) fun hge => ?_
    have ho : hint + o < n := Nat.add_comm o hint ▸ Nat.add_lt_of_lt_sub (Nat.lt_of_not_ge hge)
    refine wpS_bind (G.B ho ?_)
    cases hb : bd (hint + o) with
    | true => exact wS_if (fun h => by cases h) fun _ => wpS_pure ⟨rfl, o, 2 * o + 1, rfl, by omega, by omega, ho, hb⟩
    | false => exact wS_if (fun _ => wpS_pure (hQ l o a1 a3 a4 (.inr ⟨ho, hb⟩))) fun h => absurd rfl h
  · rintro c st' ⟨rfl, l, o, rfl, a1, a2, a3, a4⟩
    rw [Nat.max_eq_right (Nat.zero_le _)] at a2
    exact hQ l o a1 a3 a4 (.inl (Nat.le_trans (Nat.le_of_succ_le a2) (Nat.le_add_left _ _)))
theorem gal_dn (G : GB prog w A E s st left key arr base n bd) (hh : hint < n) (hr : bd hint = false) {Q : Option (Option Nat) × Nat × Nat → SortSt → Prop}
    (hQ : ∀ l o, l < o → l ≤ hint → bd (hint - l) = false → (hint + 1 ≤ o ∨ (o ≤ hint ∧ bd (hint - o) = true)) → Q (none, l, o) st) :
    wpS (model prog w) A E s (forIn [0:n] ((none, 0, 1) : Option (Option Nat) × Nat × Nat) fun _ acc0 =>
      if acc0.snd.snd ≥ hint + 1 then pure (ForInStep.done (none, acc0.snd.fst, acc0.snd.snd)) else do
        let res0 ← beyond' left key arr base (hint - acc0.snd.snd)
        match res0 with
        | some found => if found = true then pure (ForInStep.done (none, acc0.snd.fst, acc0.snd.snd)) else pure (ForInStep.yield (none, acc0.snd.snd, 2 * acc0.snd.snd + 1))
        | _ => pure (ForInStep.done (some none, acc0.snd.fst, acc0.snd.snd))) Q st := by
  refine wpS_forRange (I := fun x c st' => st' = st ∧ ∃ l o, c = (none, l, o) ∧ l < o ∧ x + 1 ≤ o ∧ l ≤ hint ∧ bd (hint - l) = false) ?_ ?_ ⟨rfl, 0, 1, rfl, Nat.one_pos, Nat.le_refl _, Nat.zero_le _, hr⟩
  · rintro x c st' _ hxn ⟨rfl, l, o, rfl, a1, a2, a3, a4⟩
    refine wS_if (fun hge => wpS_pure (hQ l o a1 a3 a4 (.inl hge))) fun hge => ?_
    have ho : o ≤ hint := Nat.le_of_lt_succ (Nat.lt_of_not_ge hge)
    refine wpS_bind (G.B (Nat.lt_of_le_of_lt (Nat.sub_le _ _) hh) ?_)
    cases hb : bd (hint - o) with
    | true => exact wS_if (fun _ => wpS_pure (hQ l o a1 a3 a4 (.inr ⟨ho, hb⟩))) fun h => absurd rfl h
    | false => exact wS_if (fun h => by cases h) fun _ => wpS_pure ⟨rfl, o, 2 * o + 1, rfl, by omega, by omega, ho, hb⟩
  · rintro c st' ⟨rfl, l, o, rfl, a1, a2, a3, a4⟩
    rw [Nat.max_eq_right (Nat.zero_le _)] at a2
    exact hQ l o a1 a3 a4 (.inl (Nat.le_trans (Nat.succ_le_succ (Nat.le_of_lt hh)) a2))
end

/-- the search by leaps finds the border -/
theorem gallop_ok (hc : Cmp prog w A E s κ a₀ r) {st : SortSt} (hk : kindOf st = κ) {left : Bool} {key : Keyed} {arr : Array Keyed} {base n hint : Nat} {Q : Option Nat → SortSt → Prop} (hkey : key ∈ a₀) (hx : ∀ i, i < n → ∃ x, arr[base + i]? = some x ∧ x ∈ a₀) (hh : hint < n)
    (mono : ∀ i j, i ≤ j → j < n → bd2 r left key arr base j = true → bd2 r left key arr base i = true)
    (h : ∀ k, k ≤ n → (∀ i, i < k → bd2 r left key arr base i = true) → (∀ i, k ≤ i → i < n → bd2 r left key arr base i = false) → Q (some k) st) :
    wpS (model prog w) A E s (gallop' left key arr base n hint) Q st := by
  have G : GB prog w A E s st left key arr base n (bd2 r left key arr base) := ⟨fun hi hq => beyond_ok hc hk hkey (hx _ hi) hq, mono, fun i j h1 h2 h3 => by
    cases e : bd2 r left key arr base j with
    | false => rfl
    | true => have := mono i j h1 h2 e; rw [h3] at this; cases this⟩
  clear hc hk hkey hx
  generalize bd2 r left key arr base = bd at mono h G
  rw [gallop'_eq]
  refine wpS_bind (G.B hh ?_)
  cases hr : bd hint with
  | true =>
    refine wS_if (fun _ => ?_) fun h => absurd rfl h
    refine wpS_bind (gal_up G hh hr fun l o a1 a3 a4 a5 => ?_)
    refine wpS_bind (gal_fin G (lo := hint + l + 1) (hi := hint + min o (n - hint)) (by omega) (by omega) (fun i hi => mono i (hint + l) (Nat.le_of_lt_succ hi) a3 a4) (fun i h1 h2 => ?_) fun l' b1 b2 b3 => wpS_pure (h l' b1 b2 b3))
    rcases a5 with a5 | ⟨a5, a6⟩
    · omega
    · exact G.dn (hint + o) i (by omega) h2 a6
  | false =>
    refine wS_if (fun h => by cases h) fun _ => ?_
    refine wpS_bind (gal_dn G hh hr fun l o a1 a3 a4 a5 => ?_)
    refine wpS_bind (gal_fin G (lo := hint + 1 - min o (hint + 1)) (hi := hint - l) (by omega) (by omega) (fun i hi => ?_) (fun i h1 h2 => G.dn (hint - l) i h1 h2 a4) fun l' b1 b2 b3 => wpS_pure (h l' b1 b2 b3))
    rcases a5 with a5 | ⟨a5, a6⟩
    · omega
    · exact mono i (hint - o) (by omega) (by omega) a6
end
end Mine.Ts

-- part S3
namespace Mine.Ts

noncomputable def setMin (st : SortSt) (g : Nat) : SortSt := SortSt.mk' (kindOf st) (arrOf st) (pendingOf st) g (failedOf st)
noncomputable def setMin' (g : Nat) : StateT SortSt Sem Unit := modify fun s => setMin s g
noncomputable def mergeLo' : Array Keyed → Array Keyed → StateT SortSt Sem (Array Keyed) := sortPriv% PySem.Builtin.mergeLo
noncomputable def mergeHi' : Array Keyed → Array Keyed → StateT SortSt Sem (Array Keyed) := sortPriv% PySem.Builtin.mergeHi
noncomputable def doneLo (a b : Array Keyed) (out : Array Keyed) (ia ib : Nat) : Array Keyed := out ++ a.extract ia a.size ++ b.extract ib b.size
noncomputable def lastLo (a b : Array Keyed) (out : Array Keyed) (ia ib : Nat) : Array Keyed := out ++ b.extract ib b.size ++ a.extract ia a.size

/-- the merging of two lists, the first one's ahead of those alike -/
noncomputable def mg (r : Keyed → Int) (xs ys : List Keyed) : List Keyed := List.merge xs ys (fun x y => !decide (r y < r x))
theorem mg_perm (r : Keyed → Int) (xs ys : List Keyed) : (mg r xs ys).Perm (xs ++ ys) := List.merge_perm_append (le := _)
theorem mg_nilR (r : Keyed → Int) (xs : List Keyed) : mg r xs [] = xs := by unfold mg; simp
theorem mg_nilL (r : Keyed → Int) (ys : List Keyed) : mg r [] ys = ys := by unfold mg; simp
theorem mg_consB {r : Keyed → Int} {x y : Keyed} {xs ys : List Keyed} (h : r y < r x) : mg r (x :: xs) (y :: ys) = y :: mg r (x :: xs) ys := by
  unfold mg; rw [List.cons_merge_cons]; simp [h]
theorem mg_consA {r : Keyed → Int} {x y : Keyed} {xs ys : List Keyed} (h : ¬ r y < r x) : mg r (x :: xs) (y :: ys) = x :: mg r xs (y :: ys) := by
  unfold mg; rw [List.cons_merge_cons]; simp [h]
theorem mg_allB {r : Keyed → Int} {x : Keyed} {xs ys zs : List Keyed} (h : ∀ y ∈ ys, r y < r x) : mg r (x :: xs) (ys ++ zs) = ys ++ mg r (x :: xs) zs := by
  induction ys with
  | nil => rfl
  | cons y ys ih => rw [List.cons_append, mg_consB (h y List.mem_cons_self), ih fun z hz => h z (List.mem_cons_of_mem _ hz)]; rfl
theorem mg_allA {r : Keyed → Int} {y : Keyed} {xs ys zs : List Keyed} (h : ∀ x ∈ xs, ¬ r y < r x) : mg r (xs ++ zs) (y :: ys) = xs ++ mg r zs (y :: ys) := by
  induction xs with
  | nil => rfl
  | cons x xs ih => rw [List.cons_append, mg_consA (h x List.mem_cons_self), ih fun z hz => h z (List.mem_cons_of_mem _ hz)]; rfl

theorem KrG (r : Keyed → Int) {xs : Array Keyed} {i : Nat} (h : i < xs.size) : r xs[i] = Kr r xs i := by simp [Kr, h]
theorem drG {xs : Array Keyed} {i : Nat} (h : i < xs.size) : xs.toList.drop i = xs[i] :: xs.toList.drop (i + 1) := by rw [List.drop_eq_getElem_cons (by simpa using h)]; simp
theorem drT (xs : Array Keyed) (i k : Nat) (h : i + k ≤ xs.size) : xs.toList.drop i = (xs.extract i (i + k)).toList ++ xs.toList.drop (i + k) := by
  rw [Array.toList_extract, List.extract_eq_take_drop, show i + k - i = k by omega, ← List.drop_drop, List.take_append_drop]
theorem exM {xs : Array Keyed} {i k : Nat} (h : i + k ≤ xs.size) {P : Keyed → Prop} (hp : ∀ j, j < k → ∀ (hj : i + j < xs.size), P xs[i + j]) : ∀ x ∈ (xs.extract i (i + k)).toList, P x := by
  intro x hx
  obtain ⟨j, hj, rfl⟩ := List.mem_iff_getElem.mp hx
  have hj' : j < k := by simp at hj; omega
  have := hp j hj' (by omega)
  simpa using this

section
variable {r : Keyed → Int} {a b : Array Keyed} {out : Array Keyed} {ia ib : Nat}
noncomputable def ME (r : Keyed → Int) (a b out : Array Keyed) (ia ib : Nat) : Prop := out.toList ++ mg r (a.toList.drop ia) (b.toList.drop ib) = mg r a.toList b.toList
theorem ME.pushB (h : ME r a b out ia ib) (ha : ia < a.size) (hb : ib < b.size) (hl : Kr r b ib < Kr r a ia) : ME r a b (out.push b[ib]) ia (ib + 1) := by
  unfold ME at h ⊢
  rw [drG ha, drG hb, mg_consB (by rw [KrG r ha, KrG r hb]; exact hl), ← drG ha] at h
  rw [← h]; simp
theorem ME.pushA (h : ME r a b out ia ib) (ha : ia < a.size) (hb : ib < b.size) (hl : ¬ Kr r b ib < Kr r a ia) : ME r a b (out.push a[ia]) (ia + 1) ib := by
  unfold ME at h ⊢
  rw [drG ha, drG hb, mg_consA (by rw [KrG r ha, KrG r hb]; exact hl), ← drG hb] at h
  rw [← h]; simp
theorem ME.appA (h : ME r a b out ia ib) {k : Nat} (ha : ia + k ≤ a.size) (hb : ib < b.size) (hl : ∀ i, i < k → ¬ Kr r b ib < Kr r a (ia + i)) : ME r a b (out ++ a.extract ia (ia + k)) (ia + k) ib := by
  unfold ME at h ⊢
  rw [drT a ia k ha, drG hb, mg_allA (exM ha fun j hj hj' => by rw [KrG r hj', KrG r hb]; exact hl j hj), ← drG hb] at h
  rw [← h]; simp
theorem ME.appB (h : ME r a b out ia ib) {k : Nat} (ha : ia < a.size) (hb : ib + k ≤ b.size) (hl : ∀ i, i < k → Kr r b (ib + i) < Kr r a ia) : ME r a b (out ++ b.extract ib (ib + k)) ia (ib + k) := by
  unfold ME at h ⊢
  rw [drT b ib k hb, drG ha, mg_allB (exM hb fun j hj hj' => by rw [KrG r hj', KrG r ha]; exact hl j hj), ← drG ha] at h
  rw [← h]; simp
theorem exE (xs : Array Keyed) (i : Nat) : (xs.extract i xs.size).toList = xs.toList.drop i := by
  rw [Array.toList_extract, List.extract_eq_take_drop, List.take_of_length_le (by simp)]
theorem ME.doneB (h : ME r a b out ia ib) (hb : ib = b.size) : (doneLo a b out ia ib).toList = mg r a.toList b.toList := by
  unfold ME at h; rw [← h]
  unfold doneLo
  rw [Array.toList_append, Array.toList_append, exE, exE, List.drop_of_length_le (l := b.toList) (by simp [hb]), mg_nilR]; simp
theorem ME.doneA (h : ME r a b out ia ib) (ha : ia = a.size) : (doneLo a b out ia ib).toList = mg r a.toList b.toList := by
  unfold ME at h; rw [← h]
  unfold doneLo
  rw [Array.toList_append, Array.toList_append, exE, exE, List.drop_of_length_le (l := a.toList) (by simp [ha]), mg_nilL]; simp
theorem ME.last (h : ME r a b out ia ib) (ha : ia + 1 = a.size) (hl : ∀ j, j < b.size → Kr r b j < Kr r a (a.size - 1)) : (lastLo a b out ia ib).toList = mg r a.toList b.toList := by
  unfold ME at h; rw [← h]
  unfold lastLo
  have ha' : ia < a.size := by omega
  rw [Array.toList_append, Array.toList_append, exE, exE, drG ha', List.drop_of_length_le (l := a.toList) (i := ia + 1) (by simp [ha])]
  have e := mg_allB (r := r) (x := a[ia]) (xs := []) (ys := b.toList.drop ib) (zs := []) (fun y hy => by
    obtain ⟨j, hj, rfl⟩ := List.mem_iff_getElem.mp (List.mem_of_mem_drop hy)
    have := hl j (by simpa using hj)
    rw [KrG r ha']
    simp only [Array.getElem_toList]
    rw [KrG r (by simpa using hj)]
    rwa [show a.size - 1 = ia by omega] at this)
  rw [List.append_nil, mg_nilR] at e
  rw [e]; simp
end

section
variable {prog : Program} {w : World} {A : Around} {E : Value → Shared → Prop} {s : Shared} {κ : SortKind} {a₀ : Array Keyed} {r : Keyed → Int}
theorem gal_mono {left : Bool} {key : Keyed} {arr : Array Keyed} {base n : Nat} (hR : Rise r arr base (base + n)) : ∀ i j, i ≤ j → j < n → bd2 r left key arr base j = true → bd2 r left key arr base i = true := by
  intro i j h1 h2 h3
  by_cases e : i = j
  · subst e; exact h3
  have := hR (base + i) (base + j) (by omega) (by omega) (by omega)
  unfold bd2 at h3 ⊢
  cases left <;> simp at h3 ⊢ <;> omega


/-- what a merge leans on -/
structure MC (prog : Program) (w : World) (A : Around) (E : Value → Shared → Prop) (s : Shared) (κ : SortKind) (a₀ : Array Keyed) (r : Keyed → Int) (a b : Array Keyed) : Prop where
  hc : Cmp prog w A E s κ a₀ r
  ma : ∀ i (h : i < a.size), a[i] ∈ a₀
  mb : ∀ i (h : i < b.size), b[i] ∈ a₀
  ra : Rise r a 0 a.size
  rb : Rise r b 0 b.size
  first : Kr r b 0 < Kr r a 0
  last : ∀ j, j < b.size → Kr r b j < Kr r a (a.size - 1)

section
variable {a b : Array Keyed} {st : SortSt}
theorem MC.galA (M : MC prog w A E s κ a₀ r a b) (hk : kindOf st = κ) {base n hint j : Nat} (hh : hint < n) (hn : base + n ≤ a.size) (hj : j < b.size) {Q : Option Nat → SortSt → Prop}
    (h : ∀ k, k ≤ n → (∀ i, i < k → ¬ Kr r b j < Kr r a (base + i)) → (∀ i, k ≤ i → i < n → Kr r b j < Kr r a (base + i)) → Q (some k) st) : wpS (model prog w) A E s (gallop' false b[j] a base n hint) Q st := by
  refine gallop_ok M.hc hk (M.mb j hj) (fun i hi => ⟨_, Array.getElem?_eq_getElem (Nat.lt_of_lt_of_le (Nat.add_lt_add_left hi _) hn), M.ma _ _⟩) hh (gal_mono fun p q h1 h2 h3 => M.ra p q (Nat.zero_le _) h2 (Nat.lt_of_lt_of_le h3 hn)) fun k d1 d2 d3 => h k d1 (fun i hi => ?_) (fun i h1 h2 => ?_)
  · have := d2 i hi; simpa [bd2, KrG r hj] using this
  · have := d3 i h1 h2; simpa [bd2, KrG r hj] using this
theorem MC.galB (M : MC prog w A E s κ a₀ r a b) (hk : kindOf st = κ) {base n hint j : Nat} (hh : hint < n) (hn : base + n ≤ b.size) (hj : j < a.size) {Q : Option Nat → SortSt → Prop}
    (h : ∀ k, k ≤ n → (∀ i, i < k → Kr r b (base + i) < Kr r a j) → (∀ i, k ≤ i → i < n → ¬ Kr r b (base + i) < Kr r a j) → Q (some k) st) : wpS (model prog w) A E s (gallop' true a[j] b base n hint) Q st := by
  refine gallop_ok M.hc hk (M.ma j hj) (fun i hi => ⟨_, Array.getElem?_eq_getElem (Nat.lt_of_lt_of_le (Nat.add_lt_add_left hi _) hn), M.mb _ _⟩) hh (gal_mono fun p q h1 h2 h3 => M.rb p q (Nat.zero_le _) h2 (Nat.lt_of_lt_of_le h3 hn)) fun k d1 d2 d3 => h k d1 (fun i hi => ?_) (fun i h1 h2 => ?_)
  · have := d2 i hi; simpa [bd2, KrG r hj] using this
  · have := d3 i h1 h2; simpa [bd2, KrG r hj] using this
theorem MC.cmp (M : MC prog w A E s κ a₀ r a b) (hk : kindOf st = κ) {i j : Nat} (hi : i < b.size) (hj : j < a.size) {α : Type} {f : Option Bool → StateT SortSt Sem α} {Q : α → SortSt → Prop}
    (h1 : Kr r b i < Kr r a j → wpS (model prog w) A E s (f (some true)) Q st) (h2 : ¬ Kr r b i < Kr r a j → wpS (model prog w) A E s (f (some false)) Q st) : wpS (model prog w) A E s (elem' b i >>= fun x => elem' a j >>= fun y => lt' x y >>= f) Q st := by
  refine wS_at hi (wS_at hj (wpS_bind (M.hc _ _ _ _ hk (M.mb _ hi) (M.ma _ hj) ?_)))
  rw [KrG r hi, KrG r hj]
  by_cases hl : Kr r b i < Kr r a j
  · rw [decide_eq_true hl]; exact h1 hl
  · rw [decide_eq_false hl]; exact h2 hl
end

/-- where a merge stands -/
noncomputable def PL (r : Keyed → Int) (a b : Array Keyed) (n0 : Nat) (out : Array Keyed) (ia ib : Nat) : Prop := ia + 1 < a.size ∧ ib < b.size ∧ ME r a b out ia ib ∧ n0 ≤ ia + ib
/-- the merge is done -/
inductive Fin (r : Keyed → Int) (a b : Array Keyed) (st : SortSt) {β : Type} (c : Option (Array Keyed) × β) (st' : SortSt) : Prop
  | mk (xs : Array Keyed) (rest : β) (g : Nat) (e : c = (some xs, rest)) (h : xs.toList = mg r a.toList b.toList) (e' : st' = setMin st g)

section
variable {a b : Array Keyed} {st : SortSt}
abbrev GC := Option (Array Keyed) × Array Keyed × Nat × Nat × Nat × Nat × Nat
abbrev IC := Option (Array Keyed) × Array Keyed × Nat × Nat × Nat × Nat
inductive GI (r : Keyed → Int) (a b : Array Keyed) (st : SortSt) (n0 : Nat) (c : GC) (st' : SortSt) : Prop
  | mk (out : Array Keyed) (ia ib m ac bc g : Nat) (e : c = (none, out, ia, ib, m, ac, bc)) (e' : st' = setMin st g) (P : PL r a b n0 out ia ib)
noncomputable def GQ (r : Keyed → Int) (a b : Array Keyed) (st : SortSt) (n0 : Nat) (c : ForInStep GC) (st' : SortSt) : Prop := match c with
  | .done c' => GI r a b st n0 c' st' ∨ Fin r a b st c' st'
  | .yield c' => GI r a b st n0 c' st'
theorem GQ.fin {n0 g : Nat} {xs : Array Keyed} {rest : Array Keyed × Nat × Nat × Nat × Nat × Nat} (h : xs.toList = mg r a.toList b.toList) : GQ r a b st n0 (.done (some xs, rest)) (setMin st g) := .inr ⟨xs, rest, g, rfl, h, rfl⟩

noncomputable def dLo (a b out : Array Keyed) (ia ib m k k2 : Nat) : StateT SortSt Sem (ForInStep GC) := do
  let y ← elem' a ia
  if (ia + 1 + 1 == a.size) = true then pure (.done (some (lastLo a b (out.push y) (ia + 1) ib), out.push y, ia + 1, ib, m, k, k2))
  else if (decide (k < 7) && decide (k2 < 7)) = true then pure (.done (none, out.push y, ia + 1, ib, m, k, k2))
  else pure (.yield (none, out.push y, ia + 1, ib, m, k, k2))
noncomputable def cLo (a b out : Array Keyed) (ia ib m k bc : Nat) : StateT SortSt Sem (ForInStep GC) := do
  let x ← elem' b ib
  if (ib + 1 == b.size) = true then pure (.done (some (doneLo a b (out.push x) ia (ib + 1)), out.push x, ia, ib + 1, m, k, bc))
  else
    let y ← elem' a ia
    let t ← gallop' true y b (ib + 1) (b.size - (ib + 1)) 0
    match t with
    | some k2 =>
      if k2 > 0 then
        if (ib + 1 + k2 == b.size) = true then pure (.done (some (doneLo a b (out.push x ++ b.extract (ib + 1) (ib + 1 + k2)) ia (ib + 1 + k2)), out.push x ++ b.extract (ib + 1) (ib + 1 + k2), ia, ib + 1 + k2, m, k, k2))
        else dLo a b (out.push x ++ b.extract (ib + 1) (ib + 1 + k2)) ia (ib + 1 + k2) m k k2
      else dLo a b (out.push x) ia (ib + 1) m k k2
    | _ => pure (.done (some (doneLo a b (out.push x) ia (ib + 1)), out.push x, ia, ib + 1, m, k, bc))
noncomputable def bLo (a b out : Array Keyed) (ia ib m ac bc : Nat) : StateT SortSt Sem (ForInStep GC) := do
  setMin' m
  let x ← elem' b ib
  let t ← gallop' false x a ia (a.size - ia) 0
  match t with
  | some k =>
    if k > 0 then
      if (ia + k + 1 == a.size) = true then pure (.done (some (lastLo a b (out ++ a.extract ia (ia + k)) (ia + k) ib), out ++ a.extract ia (ia + k), ia + k, ib, m, k, bc))
      else if (ia + k == a.size) = true then pure (.done (some (doneLo a b (out ++ a.extract ia (ia + k)) (ia + k) ib), out ++ a.extract ia (ia + k), ia + k, ib, m, k, bc))
      else cLo a b (out ++ a.extract ia (ia + k)) (ia + k) ib m k bc
    else cLo a b out ia ib m k bc
  | _ => pure (.done (some (doneLo a b out ia ib), out, ia, ib, m, ac, bc))

theorem dLo_ok (M : MC prog w A E s κ a₀ r a b) {out : Array Keyed} {n0 ia ib m k k2 g : Nat} (h1 : ia + 1 < a.size) (h2 : ib < b.size) (hl : ¬ Kr r b ib < Kr r a ia) (e : ME r a b out ia ib) (hn : n0 ≤ ia + 1 + ib) :
    wpS (model prog w) A E s (dLo a b out ia ib m k k2) (GQ r a b st n0) (setMin st g) := by
  have h0 : ia < a.size := by omega
  have e4 := e.pushA h0 h2 hl
  refine wS_at h0 (wS_eq (fun h => wpS_pure (GQ.fin (e4.last h M.last))) fun h => ?_)
  have P : PL r a b n0 (out.push a[ia]) (ia + 1) ib := ⟨by omega, h2, e4, hn⟩
  exact wS_if (fun _ => wpS_pure (.inl ⟨_, _, _, _, _, _, _, rfl, rfl, P⟩)) fun _ => wpS_pure ⟨_, _, _, _, _, _, _, rfl, rfl, P⟩
theorem cLo_ok (M : MC prog w A E s κ a₀ r a b) (hk : kindOf st = κ) {out : Array Keyed} {n0 ia ib m k bc g : Nat} (h1 : ia + 1 < a.size) (h2 : ib < b.size) (hl : Kr r b ib < Kr r a ia) (e : ME r a b out ia ib) (hn : n0 ≤ ia + ib) :
    wpS (model prog w) A E s (cLo a b out ia ib m k bc) (GQ r a b st n0) (setMin st g) := by
  have h0 : ia < a.size := by omega
  have e2 := e.pushB h0 h2 hl
  refine wS_at h2 (wS_eq (fun h => wpS_pure (GQ.fin (e2.doneB h))) fun h => wS_at h0 (wpS_bind ?_))
  refine M.galB (st := setMin st g) hk (by omega) (by omega) h0 fun k2 d1 d2 d3 => ?_
  refine wS_if (fun hk2 => wS_eq (fun h3 => wpS_pure (GQ.fin ((e2.appB h0 (by omega) d2).doneB h3))) fun h3 => ?_) fun hk2 => ?_
  · exact dLo_ok M h1 (by omega) (d3 k2 (Nat.le_refl _) (by omega)) (e2.appB h0 (by omega) d2) (by omega)
  · exact dLo_ok M h1 (by omega) (d3 0 (by omega) (by omega)) e2 (by omega)
theorem bLo_ok (M : MC prog w A E s κ a₀ r a b) (hk : kindOf st = κ) {out : Array Keyed} {n0 ia ib m ac bc g : Nat} (P : PL r a b n0 out ia ib) :
    wpS (model prog w) A E s (bLo a b out ia ib m ac bc) (GQ r a b st n0) (setMin st g) := by
  obtain ⟨h1, h2, e, hn⟩ := P
  refine wpS_bind (wpS_modify (wS_at h2 (wpS_bind ?_)))
  refine M.galA (st := setMin (setMin st g) m) hk (by omega) (by omega) h2 fun k d1 d2 d3 => ?_
  refine wS_if (fun hk0 => wS_eq (fun h3 => wpS_pure (GQ.fin ((e.appA (by omega) h2 d2).last h3 M.last))) fun h3 => wS_eq (fun h4 => wpS_pure (GQ.fin ((e.appA (by omega) h2 d2).doneA h4))) fun h4 => ?_) fun hk' => ?_
  · exact cLo_ok M hk (by omega) h2 (d3 k (Nat.le_refl _) (by omega)) (e.appA (by omega) h2 d2) (by omega)
  · exact cLo_ok M hk h1 h2 (d3 0 (by omega) (by omega)) e hn

inductive II (r : Keyed → Int) (a b : Array Keyed) (st : SortSt) (g n0 : Nat) (c : IC) (st' : SortSt) : Prop
  | mk (out : Array Keyed) (ia ib ac bc : Nat) (e : c = (none, out, ia, ib, ac, bc)) (e' : st' = setMin st g) (P : PL r a b n0 out ia ib)
noncomputable def IQ (r : Keyed → Int) (a b : Array Keyed) (st : SortSt) (g n1 n2 : Nat) (c : ForInStep IC) (st' : SortSt) : Prop := match c with
  | .done c' => II r a b st g n1 c' st' ∨ Fin r a b st c' st'
  | .yield c' => II r a b st g n2 c' st'
noncomputable def iLo (a b out : Array Keyed) (ia ib m ac bc : Nat) : StateT SortSt Sem (ForInStep IC) :=
  elem' b ib >>= fun x => elem' a ia >>= fun y => lt' x y >>= fun t =>
  match t with
  | some bWins =>
    if bWins = true then do
      let y ← elem' b ib
      if (ib + 1 == b.size) = true then pure (.done (some (doneLo a b (out.push y) ia (ib + 1)), out.push y, ia, ib + 1, 0, bc + 1))
      else if bc + 1 ≥ m then pure (.done (none, out.push y, ia, ib + 1, 0, bc + 1))
      else pure (.yield (none, out.push y, ia, ib + 1, 0, bc + 1))
    else do
      let y ← elem' a ia
      if (ia + 1 + 1 == a.size) = true then pure (.done (some (lastLo a b (out.push y) (ia + 1) ib), out.push y, ia + 1, ib, ac + 1, 0))
      else if ac + 1 ≥ m then pure (.done (none, out.push y, ia + 1, ib, ac + 1, 0))
      else pure (.yield (none, out.push y, ia + 1, ib, ac + 1, 0))
  | _ => pure (.done (some (doneLo a b out ia ib), out, ia, ib, ac, bc))
theorem iLo_ok (M : MC prog w A E s κ a₀ r a b) (hk : kindOf st = κ) {out : Array Keyed} {n1 n0 ia ib m ac bc g : Nat} (P : PL r a b n0 out ia ib) (hn1 : n1 ≤ n0 + 1) :
    wpS (model prog w) A E s (iLo a b out ia ib m ac bc) (IQ r a b st g n1 (n0 + 1)) (setMin st g) := by
  obtain ⟨h1, h2, e, hn⟩ := P
  have h0 : ia < a.size := by omega
  have fin : ∀ {xs : Array Keyed} {rest : Array Keyed × Nat × Nat × Nat × Nat}, xs.toList = mg r a.toList b.toList → IQ r a b st g n1 (n0 + 1) (.done (some xs, rest)) (setMin st g) := fun h => .inr ⟨_, _, g, rfl, h, rfl⟩
  have go : ∀ {c : Prop} [Decidable c] {out : Array Keyed} {ia ib ac bc : Nat}, PL r a b (n0 + 1) out ia ib → wpS (model prog w) A E s (if c then pure (.done (none, out, ia, ib, ac, bc)) else pure (.yield (none, out, ia, ib, ac, bc))) (IQ r a b st g n1 (n0 + 1)) (setMin st g) := fun P =>
    wS_if (fun _ => wpS_pure (.inl ⟨_, _, _, _, _, rfl, rfl, P.1, P.2.1, P.2.2.1, Nat.le_trans hn1 P.2.2.2⟩)) fun _ => wpS_pure ⟨_, _, _, _, _, rfl, rfl, P⟩
  refine M.cmp (st := setMin st g) hk h2 h0 (fun hl => ?_) fun hl => ?_
  · have e1 := e.pushB h0 h2 hl
    refine wS_if (fun _ => ?_) fun h => absurd rfl h
    exact wS_at h2 (wS_eq (fun h => wpS_pure (fin (e1.doneB h))) fun h => go ⟨h1, by omega, e1, by omega⟩)
  · have e1 := e.pushA h0 h2 hl
    refine wS_if (fun h => by cases h) fun _ => ?_
    exact wS_at h0 (wS_eq (fun h => wpS_pure (fin (e1.last h M.last))) fun h => go ⟨by omega, h2, e1, by omega⟩)

abbrev OC := Option (Array Keyed) × Array Keyed × Nat × Nat × Nat
noncomputable def oLo (a b : Array Keyed) (c : OC) : StateT SortSt Sem (ForInStep OC) := do
  let d ← forIn [0:a.size + b.size] ((none, c.2.1, c.2.2.1, c.2.2.2.1, 0, 0) : IC) fun _ d => iLo a b d.2.1 d.2.2.1 d.2.2.2.1 c.2.2.2.2 d.2.2.2.2.1 d.2.2.2.2.2
  Break.runK.match_1 (fun _ => StateT SortSt Sem (ForInStep OC)) d.1 (fun r => pure (.done (some r, d.2.1, d.2.2.1, d.2.2.2.1, c.2.2.2.2))) (fun _ => do
    rule "list.sort.gallop"
    let e ← forIn [0:a.size + b.size] ((none, d.2.1, d.2.2.1, d.2.2.2.1, c.2.2.2.2 + 1, d.2.2.2.2.1, d.2.2.2.2.2) : GC) fun _ e =>
      if e.2.2.2.2.1 > 1 then bLo a b e.2.1 e.2.2.1 e.2.2.2.1 (e.2.2.2.2.1 - 1) e.2.2.2.2.2.1 e.2.2.2.2.2.2 else bLo a b e.2.1 e.2.2.1 e.2.2.2.1 e.2.2.2.2.1 e.2.2.2.2.2.1 e.2.2.2.2.2.2
    Break.runK.match_1 (fun _ => StateT SortSt Sem (ForInStep OC)) e.1 (fun r => pure (.done (some r, e.2.1, e.2.2.1, e.2.2.2.1, e.2.2.2.2.1))) (fun _ => do
      setMin' (e.2.2.2.2.1 + 1)
      pure (.yield (none, e.2.1, e.2.2.1, e.2.2.2.1, e.2.2.2.2.1 + 1))))
theorem mergeLo'_eq2 (a b : Array Keyed) : mergeLo' a b = (do
  rule "list.sort.merge-lo"
  let x ← elem' b 0
  if (1 == b.size) = true then pure (doneLo a b #[x] 0 1)
  else if (0 + 1 == a.size) = true then pure (lastLo a b #[x] 0 1)
  else
    let g ← get
    let c ← forIn [0:a.size + b.size] ((none, #[x], 0, 1, gallopOf g) : OC) fun _ c => oLo a b c
    Break.runK.match_1 (fun _ => StateT SortSt Sem (Array Keyed)) c.1 (fun r => pure r) (fun _ => unsupported "internal:list.sort.merge-bound")) := by kernel_rfl
inductive OI (r : Keyed → Int) (a b : Array Keyed) (st : SortSt) (n0 : Nat) (c : OC) (st' : SortSt) : Prop
  | mk (out : Array Keyed) (ia ib m g : Nat) (e : c = (none, out, ia, ib, m)) (e' : st' = setMin st g) (P : PL r a b n0 out ia ib)
theorem oLo_ok (M : MC prog w A E s κ a₀ r a b) (hk : kindOf st = κ) {out : Array Keyed} {x ia ib m g : Nat} (P : PL r a b (x + 1) out ia ib) :
    wpS (model prog w) A E s (oLo a b (none, out, ia, ib, m)) (fun c st' => match c with | .done c' => Fin r a b st c' st' | .yield c' => OI r a b st (x + 2) c' st') (setMin st g) := by
  refine wpS_bind (wpS_mono (wpS_forRange (I := fun x' => II r a b st g (x + 1 + x')) (Q := fun c st' => II r a b st g (x + 2) c st' ∨ Fin r a b st c st') ?istep ?ifin ⟨_, _, _, _, _, rfl, rfl, P⟩) ?ipost)
  case ifin =>
    rintro c st' ⟨out, ia, ib, ac, bc, rfl, rfl, P1, P2, P3, P4⟩
    exact .inl ⟨out, ia, ib, ac, bc, rfl, rfl, P1, P2, P3, by omega⟩
  case istep =>
    rintro x' c st' _ hx' ⟨out, ia, ib, ac, bc, rfl, rfl, P⟩
    refine wpS_mono (iLo_ok (n1 := x + 2) M hk P (by omega)) fun c st' h => ?_
    cases c <;> exact h
  case ipost =>
    rintro c st' (⟨out, ia, ib, ac, bc, rfl, rfl, PP⟩ | ⟨xs, rest, g, rfl, hxs, rfl⟩)
    · refine wpS_bind (wpS_lift (wpAny_rule ⟨rfl, ?_⟩))
      refine wpS_bind (wpS_mono (wpS_forRange (I := fun x' => GI r a b st (x + 2)) (Q := fun c st' => GI r a b st (x + 2) c st' ∨ Fin r a b st c st') ?gstep (fun c st' hh => .inl hh) ⟨_, _, _, _, _, _, g, rfl, rfl, PP⟩) ?gpost)
      case gpost =>
        rintro c st' (⟨out, ia, ib, m, ac, bc, g, rfl, rfl, PP⟩ | ⟨xs, rest, g, rfl, hxs, rfl⟩)
        · exact wpS_bind (wpS_modify (wpS_pure ⟨_, _, _, _, _, rfl, rfl, PP⟩))
        · exact wpS_pure ⟨_, _, _, rfl, hxs, rfl⟩
      case gstep =>
        rintro x' c st' _ hx' ⟨out, ia, ib, m, ac, bc, g, rfl, rfl, P⟩
        refine wpS_mono (wS_if (fun _ => bLo_ok M hk P) fun _ => bLo_ok M hk P) fun c st' h => ?_
        cases c <;> exact h
    · exact wpS_pure ⟨_, _, _, rfl, hxs, rfl⟩

theorem merge_lo (hc : Cmp prog w A E s κ a₀ r) {st : SortSt} (hk : kindOf st = κ) {a b : Array Keyed} {Q : Array Keyed → SortSt → Prop} (ma : ∀ i (h : i < a.size), a[i] ∈ a₀) (mb : ∀ i (h : i < b.size), b[i] ∈ a₀)
    (hRa : Rise r a 0 a.size) (hRb : Rise r b 0 b.size) (ha : 1 ≤ a.size) (hb : 1 ≤ b.size) (hfirst : Kr r b 0 < Kr r a 0) (hlast : ∀ j, j < b.size → Kr r b j < Kr r a (a.size - 1))
    (h : ∀ xs g, xs.toList = mg r a.toList b.toList → Q xs (setMin st g)) : wpS (model prog w) A E s (mergeLo' a b) Q st := by
  have M : MC prog w A E s κ a₀ r a b := ⟨hc, ma, mb, hRa, hRb, hfirst, hlast⟩
  have e0 : ME r a b #[b[0]] 0 1 := ME.pushB (out := #[]) (ia := 0) (ib := 0) (by unfold ME; simp) ha hb hfirst
  rw [mergeLo'_eq2]
  refine wpS_bind (wpS_lift (wpAny_rule ⟨rfl, ?_⟩))
  refine wS_at hb (wS_eq (fun h1 => wpS_pure (h _ (gallopOf st) (e0.doneB h1))) fun hb1 => wS_eq (fun h1 => wpS_pure (h _ (gallopOf st) (e0.last h1 hlast))) fun ha1 => ?_)
  refine wpS_bind (wpS_get ?_)
  refine wpS_bind (wpS_mono (wpS_forRange (I := fun x => OI r a b st (x + 1)) (Q := Fin r a b st) ?step ?fin ⟨_, _, _, _, gallopOf st, rfl, rfl, by omega, by omega, e0, by omega⟩) ?post)
  case fin =>
    rintro c st' ⟨out, ia, ib, m, g, rfl, rfl, P1, P2, P3, P4⟩
    omega
  case post =>
    rintro c st' ⟨xs, rest, g, rfl, hxs, rfl⟩
    exact wpS_pure (h xs g hxs)
  case step =>
    rintro x c st' _ _ ⟨out, ia, ib, m, g, rfl, rfl, PP⟩
    refine wpS_mono (oLo_ok M hk PP) fun c st' h => ?_
    cases c <;> exact h
end
end
end Mine.Ts

-- part S4
namespace Mine.Ts

noncomputable def doneHi (a b : Array Keyed) (out : Array Keyed) (na nb : Nat) : Array Keyed := a.extract 0 na ++ b.extract 0 nb ++ out.reverse
noncomputable def firstHi (a b : Array Keyed) (out : Array Keyed) (na nb : Nat) : Array Keyed := b.extract 0 nb ++ a.extract 0 na ++ out.reverse
theorem mg_snocA {r : Keyed → Int} {x : Keyed} : ∀ {xs ys : List Keyed}, (∀ y ∈ ys, r y < r x) → mg r (xs ++ [x]) ys = mg r xs ys ++ [x]
  | [], ys, h => by have := mg_allB (r := r) (x := x) (xs := []) (ys := ys) (zs := []) h; rw [List.append_nil, mg_nilR] at this; rw [List.nil_append, this, mg_nilL]
  | c :: xs, [], h => by rw [mg_nilR, mg_nilR]
  | c :: xs, d :: ys, h => by
    rw [List.cons_append]
    by_cases hl : r d < r c
    · rw [mg_consB hl, mg_consB hl, List.cons_append]
      rw [← List.cons_append, mg_snocA (xs := c :: xs) (ys := ys) fun y hy => h y (List.mem_cons_of_mem _ hy)]
    · rw [mg_consA hl, mg_consA hl, List.cons_append, mg_snocA h]
  termination_by xs ys => xs.length + ys.length
theorem mg_snocB {r : Keyed → Int} {y : Keyed} : ∀ {xs ys : List Keyed}, (∀ x ∈ xs, ¬ r y < r x) → mg r xs (ys ++ [y]) = mg r xs ys ++ [y]
  | [], ys, h => by rw [mg_nilL, mg_nilL]
  | c :: xs, [], h => by have := mg_allA (r := r) (y := y) (ys := []) (xs := c :: xs) (zs := []) h; rw [List.append_nil, mg_nilL] at this; rw [List.nil_append, this, mg_nilR]
  | c :: xs, d :: ys, h => by
    rw [List.cons_append]
    by_cases hl : r d < r c
    · rw [mg_consB hl, mg_consB hl, List.cons_append, mg_snocB h]
    · rw [mg_consA hl, mg_consA hl, List.cons_append]
      rw [← List.cons_append, mg_snocB (xs := xs) (ys := d :: ys) fun x hx => h x (List.mem_cons_of_mem _ hx)]
  termination_by xs ys => xs.length + ys.length
theorem mg_snocsA {r : Keyed → Int} {ys : List Keyed} : ∀ {zs xs : List Keyed}, (∀ z ∈ zs, ∀ y ∈ ys, r y < r z) → mg r (xs ++ zs) ys = mg r xs ys ++ zs
  | [], xs, h => by simp
  | z :: zs, xs, h => by
    rw [show xs ++ z :: zs = (xs ++ [z]) ++ zs by simp, mg_snocsA fun z' hz' => h z' (List.mem_cons_of_mem _ hz'), mg_snocA (h z List.mem_cons_self)]; simp
theorem mg_snocsB {r : Keyed → Int} {xs : List Keyed} : ∀ {zs ys : List Keyed}, (∀ z ∈ zs, ∀ x ∈ xs, ¬ r z < r x) → mg r xs (ys ++ zs) = mg r xs ys ++ zs
  | [], ys, h => by simp
  | z :: zs, ys, h => by
    rw [show ys ++ z :: zs = (ys ++ [z]) ++ zs by simp, mg_snocsB fun z' hz' => h z' (List.mem_cons_of_mem _ hz'), mg_snocB (h z List.mem_cons_self)]; simp

theorem tkG {xs : Array Keyed} {i : Nat} (h : i < xs.size) : xs.toList.take (i + 1) = xs.toList.take i ++ [xs[i]] := by rw [List.take_succ_eq_append_getElem (by simpa using h)]; simp
theorem tkT (xs : Array Keyed) (i k : Nat) (h : i ≤ k) (hk : k ≤ xs.size) : xs.toList.take k = xs.toList.take i ++ (xs.extract i k).toList := by
  rw [Array.toList_extract, List.extract_eq_take_drop]
  conv => lhs; rw [show k = i + (k - i) by omega, List.take_add]
theorem tkM {xs : Array Keyed} {k : Nat} (h : k ≤ xs.size) {P : Keyed → Prop} (hp : ∀ j, j < k → ∀ (hj : j < xs.size), P xs[j]) : ∀ x ∈ xs.toList.take k, P x := by
  intro x hx
  obtain ⟨j, hj, rfl⟩ := List.mem_iff_getElem.mp hx
  have hj' : j < k := by simp at hj; omega
  have := hp j hj' (by omega)
  simpa using this
theorem exM' {xs : Array Keyed} {i k : Nat} (h : i ≤ k) (hk : k ≤ xs.size) {P : Keyed → Prop} (hp : ∀ j, i ≤ j → j < k → ∀ (hj : j < xs.size), P xs[j]) : ∀ x ∈ (xs.extract i k).toList, P x := by
  have := exM (xs := xs) (i := i) (k := k - i) (by omega) (P := P) fun j hj hj' => hp (i + j) (by omega) (by omega) hj'
  rwa [show i + (k - i) = k by omega] at this

section
variable {r : Keyed → Int} {a b : Array Keyed} {out : Array Keyed} {na nb : Nat}
noncomputable def MH (r : Keyed → Int) (a b out : Array Keyed) (na nb : Nat) : Prop := mg r (a.toList.take na) (b.toList.take nb) ++ out.toList.reverse = mg r a.toList b.toList
theorem MH.pushA (h : MH r a b out (na + 1) nb) (ha : na < a.size) (hb : nb ≤ b.size) (hl : ∀ j, j < nb → Kr r b j < Kr r a na) : MH r a b (out.push a[na]) na nb := by
  unfold MH at h ⊢
  rw [tkG ha, mg_snocA (tkM hb fun j hj hj' => by rw [KrG r hj', KrG r ha]; exact hl j hj)] at h
  rw [← h]; simp
theorem MH.pushB (h : MH r a b out na (nb + 1)) (hb : nb < b.size) (ha : na ≤ a.size) (hl : ∀ j, j < na → ¬ Kr r b nb < Kr r a j) : MH r a b (out.push b[nb]) na nb := by
  unfold MH at h ⊢
  rw [tkG hb, mg_snocB (tkM ha fun j hj hj' => by rw [KrG r hj', KrG r hb]; exact hl j hj)] at h
  rw [← h]; simp
theorem MH.appA {k : Nat} (h : MH r a b out na nb) (hk : k ≤ na) (ha : na ≤ a.size) (hb : nb ≤ b.size) (hl : ∀ i, k ≤ i → i < na → ∀ j, j < nb → Kr r b j < Kr r a i) : MH r a b (out ++ (a.extract k na).reverse) k nb := by
  unfold MH at h ⊢
  rw [tkT a k na hk ha, mg_snocsA (exM' hk ha fun i h1 h2 h3 => tkM hb fun j hj hj' => by rw [KrG r hj', KrG r h3]; exact hl i h1 h2 j hj)] at h
  rw [← h]; simp
theorem MH.appB {k : Nat} (h : MH r a b out na nb) (hk : k ≤ nb) (hb : nb ≤ b.size) (ha : na ≤ a.size) (hl : ∀ i, k ≤ i → i < nb → ∀ j, j < na → ¬ Kr r b i < Kr r a j) : MH r a b (out ++ (b.extract k nb).reverse) na k := by
  unfold MH at h ⊢
  rw [tkT b k nb hk hb, mg_snocsB (exM' hk hb fun i h1 h2 h3 => tkM ha fun j hj hj' => by rw [KrG r hj', KrG r h3]; exact hl i h1 h2 j hj)] at h
  rw [← h]; simp
theorem ex0 (xs : Array Keyed) (k : Nat) : (xs.extract 0 k).toList = xs.toList.take k := by
  rw [Array.toList_extract, List.extract_eq_take_drop]; simp
theorem MH.doneA (h : MH r a b out na nb) (ha : na = 0) : (doneHi a b out na nb).toList = mg r a.toList b.toList := by
  unfold MH at h; rw [← h]; subst ha
  unfold doneHi
  rw [Array.toList_append, Array.toList_append, ex0, ex0, List.take_zero, mg_nilL]; simp
theorem MH.doneB (h : MH r a b out na nb) (hb : nb = 0) : (doneHi a b out na nb).toList = mg r a.toList b.toList := by
  unfold MH at h; rw [← h]; subst hb
  unfold doneHi
  rw [Array.toList_append, Array.toList_append, ex0, ex0, List.take_zero, mg_nilR]; simp
theorem MH.first (h : MH r a b out na nb) (hb : nb = 1) (hb' : 1 ≤ b.size) (hl : Kr r b 0 < Kr r a 0) (ha : na ≤ a.size) : (firstHi a b out na nb).toList = mg r a.toList b.toList := by
  unfold MH at h; rw [← h]; subst hb
  unfold firstHi
  rw [Array.toList_append, Array.toList_append, ex0, ex0]
  have e : b.toList.take 1 = [b[0]] := by have := tkG (xs := b) (i := 0) (by omega); simpa using this
  rw [e]
  cases na with
  | zero => rw [List.take_zero, mg_nilL]; simp
  | succ n =>
    have e2 : a.toList.take (n + 1) = a[0] :: (a.toList.drop 1).take n := by
      have := drG (xs := a) (i := 0) (by omega)
      rw [List.drop_zero] at this
      rw [this, List.take_succ_cons]; simp
    rw [e2, mg_consB (by rw [KrG r, KrG r]; exact hl), mg_nilR]; simp

theorem MH.pushA' (h : MH r a b out na nb) (hn : 1 ≤ na) (ha : na - 1 < a.size) (hb : nb ≤ b.size) (hl : ∀ j, j < nb → Kr r b j < Kr r a (na - 1)) : MH r a b (out.push a[na - 1]) (na - 1) nb :=
  MH.pushA (by rwa [show na - 1 + 1 = na by omega]) ha hb hl
theorem MH.pushB' (h : MH r a b out na nb) (hn : 1 ≤ nb) (hb : nb - 1 < b.size) (ha : na ≤ a.size) (hl : ∀ j, j < na → ¬ Kr r b (nb - 1) < Kr r a j) : MH r a b (out.push b[nb - 1]) na (nb - 1) :=
  MH.pushB (by rwa [show nb - 1 + 1 = nb by omega]) hb ha hl
end

section
variable {prog : Program} {w : World} {A : Around} {E : Value → Shared → Prop} {s : Shared} {κ : SortKind} {a₀ : Array Keyed} {r : Keyed → Int}
theorem Rise.le {xs : Array Keyed} {i j p q : Nat} (h : Rise r xs i j) (h1 : i ≤ p) (h2 : p ≤ q) (h3 : q < j) : Kr r xs p ≤ Kr r xs q := by
  by_cases e : p = q
  · subst e; exact Int.le_refl _
  · exact Int.le_of_lt (h p q h1 (by omega) h3)
noncomputable def PH (r : Keyed → Int) (a b : Array Keyed) (n0 : Nat) (na nb : Nat) (out : Array Keyed) : Prop := 1 ≤ na ∧ na ≤ a.size ∧ 2 ≤ nb ∧ nb ≤ b.size ∧ MH r a b out na nb ∧ n0 + na + nb ≤ a.size + b.size

section
variable {a b : Array Keyed} {st : SortSt}
abbrev GH := Option (Array Keyed) × Nat × Nat × Array Keyed × Nat × Nat × Nat
abbrev IH := Option (Array Keyed) × Nat × Nat × Array Keyed × Nat × Nat
inductive HI (r : Keyed → Int) (a b : Array Keyed) (st : SortSt) (n0 : Nat) (c : GH) (st' : SortSt) : Prop
  | mk (na nb : Nat) (out : Array Keyed) (m ac bc g : Nat) (e : c = (none, na, nb, out, m, ac, bc)) (e' : st' = setMin st g) (P : PH r a b n0 na nb out)
noncomputable def HQ (r : Keyed → Int) (a b : Array Keyed) (st : SortSt) (n0 : Nat) (c : ForInStep GH) (st' : SortSt) : Prop := match c with
  | .done c' => HI r a b st n0 c' st' ∨ Fin r a b st c' st'
  | .yield c' => HI r a b st n0 c' st'
theorem HQ.fin {n0 g : Nat} {xs : Array Keyed} {rest : Nat × Nat × Array Keyed × Nat × Nat × Nat} (h : xs.toList = mg r a.toList b.toList) : HQ r a b st n0 (.done (some xs, rest)) (setMin st g) := .inr ⟨xs, rest, g, rfl, h, rfl⟩

noncomputable def dHi (a b out : Array Keyed) (na nb m k k2 : Nat) : StateT SortSt Sem (ForInStep GH) := do
  let y ← elem' a (na - 1)
  if (na - 1 == 0) = true then pure (.done (some (doneHi a b (out.push y) (na - 1) nb), na - 1, nb, out.push y, m, k, k2))
  else if (decide (k < 7) && decide (k2 < 7)) = true then pure (.done (none, na - 1, nb, out.push y, m, k, k2))
  else pure (.yield (none, na - 1, nb, out.push y, m, k, k2))
noncomputable def cHi (a b out : Array Keyed) (na nb m k bc : Nat) : StateT SortSt Sem (ForInStep GH) := do
  let x ← elem' b (nb - 1)
  if (nb - 1 == 1) = true then pure (.done (some (firstHi a b (out.push x) na (nb - 1)), na, nb - 1, out.push x, m, k, bc))
  else
    let y ← elem' a (na - 1)
    let t ← gallop' true y b 0 (nb - 1) (nb - 1 - 1)
    match t with
    | some c =>
      if nb - 1 - c > 0 then
        if (c == 1) = true then pure (.done (some (firstHi a b (out.push x ++ (b.extract c (nb - 1)).reverse) na c), na, c, out.push x ++ (b.extract c (nb - 1)).reverse, m, k, nb - 1 - c))
        else if (c == 0) = true then pure (.done (some (doneHi a b (out.push x ++ (b.extract c (nb - 1)).reverse) na c), na, c, out.push x ++ (b.extract c (nb - 1)).reverse, m, k, nb - 1 - c))
        else dHi a b (out.push x ++ (b.extract c (nb - 1)).reverse) na c m k (nb - 1 - c)
      else dHi a b (out.push x) na (nb - 1) m k (nb - 1 - c)
    | _ => pure (.done (some (doneHi a b (out.push x) na (nb - 1)), na, nb - 1, out.push x, m, k, bc))
noncomputable def bHi (a b out : Array Keyed) (na nb m ac bc : Nat) : StateT SortSt Sem (ForInStep GH) := do
  setMin' m
  let x ← elem' b (nb - 1)
  let t ← gallop' false x a 0 na (na - 1)
  match t with
  | some c =>
    if na - c > 0 then
      if (c == 0) = true then pure (.done (some (doneHi a b (out ++ (a.extract c na).reverse) c nb), c, nb, out ++ (a.extract c na).reverse, m, na - c, bc))
      else cHi a b (out ++ (a.extract c na).reverse) c nb m (na - c) bc
    else cHi a b out na nb m (na - c) bc
  | _ => pure (.done (some (doneHi a b out na nb), na, nb, out, m, ac, bc))

theorem dHi_ok {out : Array Keyed} {n0 na nb m k k2 g : Nat} (h1 : 1 ≤ na) (h2 : na ≤ a.size) (h3 : 2 ≤ nb) (h4 : nb ≤ b.size) (hl : ∀ j, j < nb → Kr r b j < Kr r a (na - 1)) (e : MH r a b out na nb) (hn : n0 + na + nb ≤ a.size + b.size) :
    wpS (model prog w) A E s (dHi a b out na nb m k k2) (HQ r a b st n0) (setMin st g) := by
  have h0 : na - 1 < a.size := by omega
  have e4 := e.pushA' h1 h0 h4 hl
  refine wS_at h0 (wS_eq (fun h => wpS_pure (HQ.fin (e4.doneA h))) fun h => ?_)
  have P : PH r a b n0 (na - 1) nb (out.push a[na - 1]) := ⟨by omega, by omega, h3, h4, e4, by omega⟩
  exact wS_if (fun _ => wpS_pure (.inl ⟨_, _, _, _, _, _, _, rfl, rfl, P⟩)) fun _ => wpS_pure ⟨_, _, _, _, _, _, _, rfl, rfl, P⟩
theorem cHi_ok (M : MC prog w A E s κ a₀ r a b) (hk : kindOf st = κ) {out : Array Keyed} {n0 na nb m k bc g : Nat} (h1 : 1 ≤ na) (h2 : na ≤ a.size) (h3 : 2 ≤ nb) (h4 : nb ≤ b.size) (hl : ∀ j, j < na → ¬ Kr r b (nb - 1) < Kr r a j) (e : MH r a b out na nb) (hn : n0 + na + nb ≤ a.size + b.size) :
    wpS (model prog w) A E s (cHi a b out na nb m k bc) (HQ r a b st n0) (setMin st g) := by
  have h0 : na - 1 < a.size := by omega
  have h5 : nb - 1 < b.size := by omega
  have e2 := e.pushB' (by omega) h5 h2 hl
  refine wS_at h5 (wS_eq (fun h => wpS_pure (HQ.fin (e2.first h (by omega) M.first h2))) fun h => wS_at h0 (wpS_bind ?_))
  refine M.galB (st := setMin st g) hk (by omega) (by omega) h0 fun c d1 d2 d3 => ?_
  have d2' : ∀ i, i < c → Kr r b i < Kr r a (na - 1) := fun i hi => Nat.zero_add i ▸ d2 i hi
  have d5 : ∀ i, c ≤ i → i < nb - 1 → ∀ j, j < na → ¬ Kr r b i < Kr r a j := fun i h1 h2 j hj hlt =>
    d3 i h1 h2 (by rw [Nat.zero_add]; exact Int.lt_of_lt_of_le hlt (M.ra.le (Nat.zero_le _) (by omega) h0))
  have e3 := e2.appB (k := c) d1 (by omega) h2 d5
  refine wS_if (fun _ => wS_eq (fun h => wpS_pure (HQ.fin (e3.first h (by omega) M.first h2))) fun h6 => wS_eq (fun h => wpS_pure (HQ.fin (e3.doneB h))) fun h7 => ?_) fun h6 => ?_
  · exact dHi_ok h1 h2 (by omega) (by omega) d2' e3 (by omega)
  · exact dHi_ok h1 h2 (by omega) (by omega) (fun j hj => d2' j (by omega)) e2 (by omega)
theorem bHi_ok (M : MC prog w A E s κ a₀ r a b) (hk : kindOf st = κ) {out : Array Keyed} {n0 na nb m ac bc g : Nat} (P : PH r a b n0 na nb out) :
    wpS (model prog w) A E s (bHi a b out na nb m ac bc) (HQ r a b st n0) (setMin st g) := by
  obtain ⟨h1, h2, h3, h4, e, hn⟩ := P
  have h5 : nb - 1 < b.size := by omega
  refine wpS_bind (wpS_modify (wS_at h5 (wpS_bind ?_)))
  refine M.galA (st := setMin (setMin st g) m) hk (by omega) (by omega) h5 fun c d1 d2 d3 => ?_
  have d2' : ∀ i, i < c → ¬ Kr r b (nb - 1) < Kr r a i := fun i hi => Nat.zero_add i ▸ d2 i hi
  have d5 : ∀ i, c ≤ i → i < na → ∀ j, j < nb → Kr r b j < Kr r a i := fun i h1 h2 j hj =>
    Int.lt_of_le_of_lt (M.rb.le (Nat.zero_le _) (by omega) h5) (Nat.zero_add i ▸ d3 i h1 h2)
  have e1 := e.appA (k := c) d1 h2 h4 d5
  refine wS_if (fun _ => wS_eq (fun h => wpS_pure (HQ.fin (e1.doneA h))) fun h6 => ?_) fun h6 => ?_
  · exact cHi_ok M hk (by omega) (by omega) h3 h4 d2' e1 (by omega)
  · exact cHi_ok M hk h1 h2 h3 h4 (fun j hj => d2' j (by omega)) e hn

inductive JI (r : Keyed → Int) (a b : Array Keyed) (st : SortSt) (g n0 : Nat) (c : IH) (st' : SortSt) : Prop
  | mk (na nb : Nat) (out : Array Keyed) (ac bc : Nat) (e : c = (none, na, nb, out, ac, bc)) (e' : st' = setMin st g) (P : PH r a b n0 na nb out)
noncomputable def JQ (r : Keyed → Int) (a b : Array Keyed) (st : SortSt) (g n1 n2 : Nat) (c : ForInStep IH) (st' : SortSt) : Prop := match c with
  | .done c' => JI r a b st g n1 c' st' ∨ Fin r a b st c' st'
  | .yield c' => JI r a b st g n2 c' st'
noncomputable def iHi (a b out : Array Keyed) (na nb m ac bc : Nat) : StateT SortSt Sem (ForInStep IH) :=
  elem' b (nb - 1) >>= fun x => elem' a (na - 1) >>= fun y => lt' x y >>= fun t =>
  match t with
  | some aWins =>
    if aWins = true then do
      let y ← elem' a (na - 1)
      if (na - 1 == 0) = true then pure (.done (some (doneHi a b (out.push y) (na - 1) nb), na - 1, nb, out.push y, ac + 1, 0))
      else if ac + 1 ≥ m then pure (.done (none, na - 1, nb, out.push y, ac + 1, 0))
      else pure (.yield (none, na - 1, nb, out.push y, ac + 1, 0))
    else do
      let y ← elem' b (nb - 1)
      if (nb - 1 == 1) = true then pure (.done (some (firstHi a b (out.push y) na (nb - 1)), na, nb - 1, out.push y, 0, bc + 1))
      else if bc + 1 ≥ m then pure (.done (none, na, nb - 1, out.push y, 0, bc + 1))
      else pure (.yield (none, na, nb - 1, out.push y, 0, bc + 1))
  | _ => pure (.done (some (doneHi a b out na nb), na, nb, out, ac, bc))
theorem iHi_ok (M : MC prog w A E s κ a₀ r a b) (hk : kindOf st = κ) {out : Array Keyed} {n1 n0 na nb m ac bc g : Nat} (P : PH r a b n0 na nb out) (hn1 : n1 ≤ n0 + 1) :
    wpS (model prog w) A E s (iHi a b out na nb m ac bc) (JQ r a b st g n1 (n0 + 1)) (setMin st g) := by
  obtain ⟨h1, h2, h3, h4, e, hn⟩ := P
  have h0 : na - 1 < a.size := by omega
  have h5 : nb - 1 < b.size := by omega
  have fin : ∀ {xs : Array Keyed} {rest : Nat × Nat × Array Keyed × Nat × Nat}, xs.toList = mg r a.toList b.toList → JQ r a b st g n1 (n0 + 1) (.done (some xs, rest)) (setMin st g) := fun h => .inr ⟨_, _, g, rfl, h, rfl⟩
  have go : ∀ {c : Prop} [Decidable c] {out : Array Keyed} {na nb ac bc : Nat}, PH r a b (n0 + 1) na nb out → wpS (model prog w) A E s (if c then pure (.done (none, na, nb, out, ac, bc)) else pure (.yield (none, na, nb, out, ac, bc))) (JQ r a b st g n1 (n0 + 1)) (setMin st g) := fun P =>
    wS_if (fun _ => wpS_pure (.inl ⟨_, _, _, _, _, rfl, rfl, P.1, P.2.1, P.2.2.1, P.2.2.2.1, P.2.2.2.2.1, Nat.le_trans (Nat.add_le_add_right (Nat.add_le_add_right hn1 _) _) P.2.2.2.2.2⟩)) fun _ => wpS_pure ⟨_, _, _, _, _, rfl, rfl, P⟩
  refine M.cmp (st := setMin st g) hk h5 h0 (fun hl => ?_) fun hl => ?_
  · have e1 := e.pushA' h1 h0 h4 fun j hj => Int.lt_of_le_of_lt (M.rb.le (Nat.zero_le _) (by omega) h5) hl
    refine wS_if (fun _ => ?_) fun h => absurd rfl h
    exact wS_at h0 (wS_eq (fun h => wpS_pure (fin (e1.doneA h))) fun h => go ⟨by omega, by omega, h3, h4, e1, by omega⟩)
  · have e1 := e.pushB' (by omega) h5 h2 fun j hj hlt => hl (Int.lt_of_lt_of_le hlt (M.ra.le (Nat.zero_le _) (by omega) h0))
    refine wS_if (fun h => by cases h) fun _ => ?_
    exact wS_at h5 (wS_eq (fun h => wpS_pure (fin (e1.first h (by omega) M.first h2))) fun h => go ⟨h1, h2, by omega, by omega, e1, by omega⟩)

abbrev OH := Option (Array Keyed) × Nat × Nat × Array Keyed × Nat
noncomputable def oHi (a b : Array Keyed) (c : OH) : StateT SortSt Sem (ForInStep OH) := do
  let d ← forIn [0:a.size + b.size] ((none, c.2.1, c.2.2.1, c.2.2.2.1, 0, 0) : IH) fun _ d => iHi a b d.2.2.2.1 d.2.1 d.2.2.1 c.2.2.2.2 d.2.2.2.2.1 d.2.2.2.2.2
  Break.runK.match_1 (fun _ => StateT SortSt Sem (ForInStep OH)) d.1 (fun r => pure (.done (some r, d.2.1, d.2.2.1, d.2.2.2.1, c.2.2.2.2))) (fun _ => do
    rule "list.sort.gallop"
    let e ← forIn [0:a.size + b.size] ((none, d.2.1, d.2.2.1, d.2.2.2.1, c.2.2.2.2 + 1, d.2.2.2.2.1, d.2.2.2.2.2) : GH) fun _ e =>
      if e.2.2.2.2.1 > 1 then bHi a b e.2.2.2.1 e.2.1 e.2.2.1 (e.2.2.2.2.1 - 1) e.2.2.2.2.2.1 e.2.2.2.2.2.2 else bHi a b e.2.2.2.1 e.2.1 e.2.2.1 e.2.2.2.2.1 e.2.2.2.2.2.1 e.2.2.2.2.2.2
    Break.runK.match_1 (fun _ => StateT SortSt Sem (ForInStep OH)) e.1 (fun r => pure (.done (some r, e.2.1, e.2.2.1, e.2.2.2.1, e.2.2.2.2.1))) (fun _ => do
      setMin' (e.2.2.2.2.1 + 1)
      pure (.yield (none, e.2.1, e.2.2.1, e.2.2.2.1, e.2.2.2.2.1 + 1))))
theorem mergeHi'_eq2 (a b : Array Keyed) : mergeHi' a b = (do
  rule "list.sort.merge-hi"
  let x ← elem' a (a.size - 1)
  if (a.size - 1 == 0) = true then pure (doneHi a b #[x] (a.size - 1) b.size)
  else if (b.size == 1) = true then pure (firstHi a b #[x] (a.size - 1) b.size)
  else
    let g ← get
    let c ← forIn [0:a.size + b.size] ((none, a.size - 1, b.size, #[x], gallopOf g) : OH) fun _ c => oHi a b c
    Break.runK.match_1 (fun _ => StateT SortSt Sem (Array Keyed)) c.1 (fun r => pure r) (fun _ => unsupported "internal:list.sort.merge-bound")) := by kernel_rfl
inductive QI (r : Keyed → Int) (a b : Array Keyed) (st : SortSt) (n0 : Nat) (c : OH) (st' : SortSt) : Prop
  | mk (na nb : Nat) (out : Array Keyed) (m g : Nat) (e : c = (none, na, nb, out, m)) (e' : st' = setMin st g) (P : PH r a b n0 na nb out)
theorem oHi_ok (M : MC prog w A E s κ a₀ r a b) (hk : kindOf st = κ) {out : Array Keyed} {x na nb m g : Nat} (P : PH r a b (x + 1) na nb out) :
    wpS (model prog w) A E s (oHi a b (none, na, nb, out, m)) (fun c st' => match c with | .done c' => Fin r a b st c' st' | .yield c' => QI r a b st (x + 2) c' st') (setMin st g) := by
  refine wpS_bind (wpS_mono (wpS_forRange (I := fun x' => JI r a b st g (x + 1 + x')) (Q := fun c st' => JI r a b st g (x + 2) c st' ∨ Fin r a b st c st') ?istep ?ifin ⟨_, _, _, _, _, rfl, rfl, P⟩) ?ipost)
  case ifin =>
    rintro c st' ⟨na, nb, out, ac, bc, rfl, rfl, P1, P2, P3, P4, P5, P6⟩
    exact .inl ⟨na, nb, out, ac, bc, rfl, rfl, P1, P2, P3, P4, P5, by omega⟩
  case istep =>
    rintro x' c st' _ hx' ⟨na, nb, out, ac, bc, rfl, rfl, P⟩
    refine wpS_mono (iHi_ok (n1 := x + 2) M hk P (by omega)) fun c st' h => ?_
    cases c <;> exact h
  case ipost =>
    rintro c st' (⟨na, nb, out, ac, bc, rfl, rfl, PP⟩ | ⟨xs, rest, g, rfl, hxs, rfl⟩)
    · refine wpS_bind (wpS_lift (wpAny_rule ⟨rfl, ?_⟩))
      refine wpS_bind (wpS_mono (wpS_forRange (I := fun x' => HI r a b st (x + 2)) (Q := fun c st' => HI r a b st (x + 2) c st' ∨ Fin r a b st c st') ?gstep (fun c st' hh => .inl hh) ⟨_, _, _, _, _, _, g, rfl, rfl, PP⟩) ?gpost)
      case gpost =>
        rintro c st' (⟨na, nb, out, m, ac, bc, g, rfl, rfl, PP⟩ | ⟨xs, rest, g, rfl, hxs, rfl⟩)
        · exact wpS_bind (wpS_modify (wpS_pure ⟨_, _, _, _, _, rfl, rfl, PP⟩))
        · exact wpS_pure ⟨_, _, _, rfl, hxs, rfl⟩
      case gstep =>
        rintro x' c st' _ hx' ⟨na, nb, out, m, ac, bc, g, rfl, rfl, P⟩
        refine wpS_mono (wS_if (fun _ => bHi_ok M hk P) fun _ => bHi_ok M hk P) fun c st' h => ?_
        cases c <;> exact h
    · exact wpS_pure ⟨_, _, _, rfl, hxs, rfl⟩

theorem merge_hi (hc : Cmp prog w A E s κ a₀ r) {st : SortSt} (hk : kindOf st = κ) {a b : Array Keyed} {Q : Array Keyed → SortSt → Prop} (ma : ∀ i (h : i < a.size), a[i] ∈ a₀) (mb : ∀ i (h : i < b.size), b[i] ∈ a₀)
    (hRa : Rise r a 0 a.size) (hRb : Rise r b 0 b.size) (ha : 1 ≤ a.size) (hb : 1 ≤ b.size) (hfirst : Kr r b 0 < Kr r a 0) (hlast : ∀ j, j < b.size → Kr r b j < Kr r a (a.size - 1))
    (h : ∀ xs g, xs.toList = mg r a.toList b.toList → Q xs (setMin st g)) : wpS (model prog w) A E s (mergeHi' a b) Q st := by
  have M : MC prog w A E s κ a₀ r a b := ⟨hc, ma, mb, hRa, hRb, hfirst, hlast⟩
  have hal : a.size - 1 < a.size := by omega
  have e0 : MH r a b #[a[a.size - 1]] (a.size - 1) b.size := MH.pushA' (out := #[]) (na := a.size) (nb := b.size) (by unfold MH; rw [List.take_of_length_le (by simp), List.take_of_length_le (by simp)]; simp) ha hal (Nat.le_refl _) hlast
  rw [mergeHi'_eq2]
  refine wpS_bind (wpS_lift (wpAny_rule ⟨rfl, ?_⟩))
  refine wS_at hal (wS_eq (fun h1 => wpS_pure (h _ (gallopOf st) (e0.doneA h1))) fun ha1 => wS_eq (fun h1 => wpS_pure (h _ (gallopOf st) (e0.first h1 hb hfirst (Nat.sub_le _ _)))) fun hb1 => ?_)
  refine wpS_bind (wpS_get ?_)
  refine wpS_bind (wpS_mono (wpS_forRange (I := fun x => QI r a b st (x + 1)) (Q := Fin r a b st) ?step ?fin ⟨_, _, _, _, gallopOf st, rfl, rfl, by omega, by omega, by omega, by omega, e0, by omega⟩) ?post)
  case fin =>
    rintro c st' ⟨na, nb, out, m, g, rfl, rfl, P1, P2, P3, P4, P5, P6⟩
    omega
  case post =>
    rintro c st' ⟨xs, rest, g, rfl, hxs, rfl⟩
    exact wpS_pure (h xs g hxs)
  case step =>
    rintro x c st' _ _ ⟨na, nb, out, m, g, rfl, rfl, PP⟩
    refine wpS_mono (oHi_ok M hk PP) fun c st' h => ?_
    cases c <;> exact h
end
end
end Mine.Ts

-- part S5
namespace Mine.Ts

noncomputable def putAll (l : List Keyed) (i : Nat) (xs : Array Keyed) : Array Keyed := l.zipIdx.foldl (fun a (p, j) => a.setIfInBounds (i + j) p) xs
theorem mergeAt'_eq (i : Nat) : mergeAt' i = (do
  let s ← get
  let (some (sa, na, power), some (sb, nb, _)) := ((pendingOf s)[i]?, (pendingOf s)[i + 1]?) | unsupported "internal:list.sort.pending"
  set (setPending s (((pendingOf s).setIfInBounds i (sa, na + nb, power)).eraseIdxIfInBounds (i + 1)))
  let some k ← gallop' false (← elem' (arrOf s) sb) (arrOf s) sa na 0 | return false
  let (sa, na) := (sa + k, na - k)
  if na == 0 then return true
  let some nb ← gallop' true (← elem' (arrOf s) (sa + na - 1)) (arrOf s) sb nb (nb - 1) | return false
  if nb == 0 then return true
  let x := (arrOf s).extract sa sb
  let y := (arrOf s).extract sb (sb + nb)
  let merged ← if na ≤ nb then mergeLo' x y else mergeHi' x y
  modify fun s => setArr s (putAll merged.toList sa (arrOf s))
  return (failedOf (← get)).isNone) := rfl

theorem putAll_aux (i : Nat) : ∀ (l : List Keyed) (n : Nat) (xs : Array Keyed), i + n + l.length ≤ xs.size → ∀ p, ((l.zipIdx n).foldl (fun a (q : Keyed × Nat) => a.setIfInBounds (i + q.2) q.1) xs)[p]? = if i + n ≤ p ∧ p < i + n + l.length then l[p - (i + n)]? else xs[p]?
  | [], n, xs, h, p => by rw [if_neg (by simp only [List.length_nil]; omega)]; rfl
  | c :: l, n, xs, h, p => by
    rw [List.zipIdx_cons, List.foldl_cons, putAll_aux i l (n + 1) _ (by simp only [List.length_cons, Array.size_setIfInBounds] at h ⊢; omega)]
    simp only [List.length_cons] at h ⊢
    by_cases h1 : i + (n + 1) ≤ p ∧ p < i + (n + 1) + l.length
    · rw [if_pos h1, if_pos (by omega), show p - (i + n) = p - (i + (n + 1)) + 1 by omega]; simp
    · rw [if_neg h1]
      by_cases h2 : p = i + n
      · subst h2
        rw [if_pos (by omega), Nat.sub_self, Array.getElem?_setIfInBounds_self_of_lt (by omega)]; rfl
      · rw [if_neg (by omega), Array.getElem?_setIfInBounds_ne (by omega)]
theorem getElem?_putAll {l : List Keyed} {i : Nat} {xs : Array Keyed} (h : i + l.length ≤ xs.size) (p : Nat) : (putAll l i xs)[p]? = if i ≤ p ∧ p < i + l.length then l[p - i]? else xs[p]? := by
  have := putAll_aux i l 0 xs (by simpa using h) p
  simpa [putAll] using this
theorem putAll_toList {l : List Keyed} {i : Nat} {xs : Array Keyed} (h : i + l.length ≤ xs.size) : (putAll l i xs).toList = xs.toList.take i ++ (l ++ xs.toList.drop (i + l.length)) := by
  apply List.ext_getElem?
  intro p
  have hl : (xs.toList.take i).length = i := List.length_take_of_le (Nat.le_trans (Nat.le_add_right _ _) h)
  rw [Array.getElem?_toList, getElem?_putAll h]
  by_cases h1 : p < i
  · rw [if_neg fun h => Nat.not_le_of_lt h1 h.1, List.getElem?_append_left (by rw [hl]; exact h1), List.getElem?_take_of_lt h1, Array.getElem?_toList]
  · obtain ⟨q, rfl⟩ := Nat.exists_eq_add_of_le (Nat.le_of_not_lt h1)
    rw [List.getElem?_append_right (by rw [hl]; exact Nat.le_add_right _ _), hl, Nat.add_sub_cancel_left]
    by_cases h2 : q < l.length
    · rw [if_pos ⟨Nat.le_add_right _ _, Nat.add_lt_add_left h2 _⟩, List.getElem?_append_left h2]
    · rw [if_neg fun h => h2 (Nat.lt_of_add_lt_add_left h.2), List.getElem?_append_right (Nat.le_of_not_lt h2), List.getElem?_drop, Nat.add_assoc, Nat.add_sub_of_le (Nat.le_of_not_lt h2), Array.getElem?_toList]

theorem mg_pw {r : Keyed → Int} {xs ys : List Keyed} (hx : xs.Pairwise (fun a b => r a < r b)) (hy : ys.Pairwise (fun a b => r a < r b)) (hn : ((xs ++ ys).map r).Nodup) : (mg r xs ys).Pairwise (fun a b => r a < r b) := by
  have h1 : (mg r xs ys).Pairwise (fun a b => (!decide (r b < r a)) = true) := by
    refine List.pairwise_merge ?_ ?_ xs ys ?_ ?_
    · intro a b c; simp; omega
    · intro a b; simp; omega
    · exact hx.imp fun h => by simp; omega
    · exact hy.imp fun h => by simp; omega
  have h2 : ((mg r xs ys).map r).Nodup := ((mg_perm r xs ys).map r).nodup_iff.mpr hn
  have h3 : (mg r xs ys).Pairwise (fun a b => r a ≠ r b) := List.pairwise_map.mp h2
  exact (h1.and h3).imp fun ⟨a, b⟩ => by simp at a; omega

theorem Kr_ex {r : Keyed → Int} {xs : Array Keyed} {i j p : Nat} (hj : j ≤ xs.size) (h : p < j - i) : Kr r (xs.extract i j) p = Kr r xs (i + p) := Kr_congr (by
  have h' : i + p < j := Nat.add_comm p i ▸ Nat.add_lt_of_lt_sub h
  rw [Array.getElem?_extract_of_lt (by rw [Nat.min_eq_left hj]; exact h), Array.getElem?_eq_getElem (Nat.lt_of_lt_of_le h' hj)])
section
variable {r : Keyed → Int} {T : Array Keyed} {pre mid post : List Keyed}
theorem put_mid (h : T.toList = pre ++ (mid ++ post)) {l : List Keyed} (hl : l.length = mid.length) : (putAll l pre.length T).toList = pre ++ (l ++ post) := by
  have hs : T.size = pre.length + (mid.length + post.length) := by rw [← Array.length_toList, h, List.length_append, List.length_append]
  rw [putAll_toList (by rw [hs, hl, ← Nat.add_assoc]; exact Nat.le_add_right _ _), h, hl, List.take_left, ← List.drop_drop, List.drop_left, List.drop_left]
theorem merged_pw {P X Y Z M : List Keyed} (hA : (P ++ X).Pairwise (fun a b => r a < r b)) (hB : (Y ++ Z).Pairwise (fun a b => r a < r b)) (hd : ∀ p ∈ P, ∀ y ∈ Y ++ Z, r p < r y) (hc : ∀ x ∈ P ++ X, ∀ z ∈ Z, r x < r z) (hM : M.Perm (X ++ Y)) (hMp : M.Pairwise (fun a b => r a < r b)) : (P ++ (M ++ Z)).Pairwise (fun a b => r a < r b) := by
  obtain ⟨hP, hX, hPX⟩ := List.pairwise_append.mp hA
  obtain ⟨hY, hZ, hYZ⟩ := List.pairwise_append.mp hB
  refine List.pairwise_append.mpr ⟨hP, List.pairwise_append.mpr ⟨hMp, hZ, fun m hm z hz => ?_⟩, fun p hp q hq => ?_⟩
  · exact (List.mem_append.mp (hM.mem_iff.mp hm)).elim (fun h => hc m (List.mem_append_right _ h) z hz) fun h => hYZ m h z hz
  · exact (List.mem_append.mp hq).elim (fun h => (List.mem_append.mp (hM.mem_iff.mp h)).elim (fun h => hPX p hp q h) fun h => hd p hp q (List.mem_append_left _ h)) fun h => hd p hp q (List.mem_append_right _ h)
theorem Rise.pw {xs : Array Keyed} {i j : Nat} (hj : j ≤ xs.size) (h : Rise r xs i j) : (xs.extract i j).toList.Pairwise (fun a b => r a < r b) := by
  by_cases hij : i ≤ j
  · obtain ⟨u, v, e, rfl⟩ := cut2 (l := xs.toList) (a := i) (by rw [Array.length_toList]; exact Nat.le_trans hij hj)
    obtain ⟨d, rfl⟩ := Nat.exists_eq_add_of_le hij
    have hs : xs.size = u.length + v.length := by rw [← Array.length_toList, e, List.length_append]
    obtain ⟨v, z, rfl, rfl⟩ := cut2 (l := v) (a := d) (Nat.le_of_add_le_add_left (hs ▸ hj))
    rw [ex_mid e]
    exact (rise_mid e).mp h
  · have : xs.extract i j = #[] := Array.extract_empty_of_stop_le_start (Nat.le_of_not_le hij)
    rw [this]; exact .nil
theorem Rise.ex {xs : Array Keyed} {i j : Nat} (hj : j ≤ xs.size) (h : Rise r xs i j) : Rise r (xs.extract i j) 0 (xs.extract i j).size := by
  have hsz : (xs.extract i j).size = j - i := by rw [Array.size_extract, Nat.min_eq_left hj]
  intro p q h1 h2 h3
  rw [hsz] at h3
  rw [Kr_ex hj (Nat.lt_trans h2 h3), Kr_ex hj h3]
  exact h _ _ (Nat.le_add_right _ _) (Nat.add_lt_add_left h2 _) (Nat.add_comm q i ▸ Nat.add_lt_of_lt_sub h3)
end

section
variable {r : Keyed → Int} {T : Array Keyed}
theorem cut5 {l : List Keyed} {a b c d e : Nat} (h : a + (b + c) + (d + e) ≤ l.length) : ∃ u P X Y Z v, l = u ++ (P ++ (X ++ (Y ++ (Z ++ v)))) ∧ u.length = a ∧ P.length = b ∧ X.length = c ∧ Y.length = d ∧ Z.length = e := by
  obtain ⟨u, v, rfl, hu⟩ := cut2 (l := l) (a := a) (by omega)
  obtain ⟨P, v, rfl, hP⟩ := cut2 (l := v) (a := b) (by rw [List.length_append, hu] at h; omega)
  obtain ⟨X, v, rfl, hX⟩ := cut2 (l := v) (a := c) (by rw [List.length_append, List.length_append, hu, hP] at h; omega)
  obtain ⟨Y, v, rfl, hY⟩ := cut2 (l := v) (a := d) (by rw [List.length_append, List.length_append, List.length_append, hu, hP, hX] at h; omega)
  obtain ⟨Z, v, rfl, hZ⟩ := cut2 (l := v) (a := e) (by rw [List.length_append, List.length_append, List.length_append, List.length_append, hu, hP, hX, hY] at h; omega)
  exact ⟨u, P, X, Y, Z, v, rfl, hu, hP, hX, hY, hZ⟩
/-- the two parts in the middle merged -/
theorem merge_pure {sa k x k2 z : Nat} (hsz : sa + (k + x) + (k2 + z) ≤ T.size) (hRa : Rise r T sa (sa + (k + x))) (hRb : Rise r T (sa + (k + x)) (sa + (k + x) + (k2 + z)))
    (dB : ∀ p q, p < k → q < k2 + z → Kr r T (sa + p) < Kr r T (sa + (k + x) + q)) (cA : ∀ p q, p < k + x → q < z → Kr r T (sa + p) < Kr r T (sa + (k + x) + (k2 + q))) (hnd : (T.toList.map r).Nodup) :
    ∃ X Y : List Keyed, (T.extract (sa + k) (sa + (k + x))).toList = X ∧ (T.extract (sa + (k + x)) (sa + (k + x) + k2)).toList = Y ∧ X.length = x ∧ Y.length = k2 ∧ (mg r X Y).length = x + k2 ∧ (putAll (mg r X Y) (sa + k) T).toList.Perm T.toList ∧ Rise r (putAll (mg r X Y) (sa + k) T) sa (sa + (k + x) + (k2 + z)) := by
  obtain ⟨u, P, X, Y, Z, v, hT, rfl, rfl, rfl, rfl, rfl⟩ := cut5 (l := T.toList) (by rw [Array.length_toList]; exact hsz)
  have lA : P.length + X.length = (P ++ X).length := List.length_append.symm
  have lB : Y.length + Z.length = (Y ++ Z).length := List.length_append.symm
  have luA : u.length + (P ++ X).length = (u ++ (P ++ X)).length := List.length_append.symm
  have luP : u.length + P.length = (u ++ P).length := List.length_append.symm
  rw [lA, luA, lB] at hRb
  rw [lA] at hRa
  have tA : T.toList = u ++ ((P ++ X) ++ (Y ++ (Z ++ v))) := by rw [hT]; simp only [List.append_assoc]
  have tB : T.toList = (u ++ (P ++ X)) ++ ((Y ++ Z) ++ v) := by rw [hT]; simp only [List.append_assoc]
  have tX : T.toList = (u ++ P) ++ (X ++ (Y ++ (Z ++ v))) := by rw [hT]; simp only [List.append_assoc]
  have tY : T.toList = (u ++ (P ++ X)) ++ (Y ++ (Z ++ v)) := by rw [hT]; simp only [List.append_assoc]
  have tM : T.toList = (u ++ P) ++ ((X ++ Y) ++ (Z ++ v)) := by rw [hT]; simp only [List.append_assoc]
  have pA := (rise_mid tA).mp hRa
  have pB := (rise_mid tB).mp hRb
  have kA : ∀ {j : Nat} (hj : j < (P ++ X).length), r (P ++ X)[j] = Kr r T (u.length + j) := fun hj => (kr_mid (r := r) tA hj).symm
  have kB : ∀ {j : Nat} (hj : j < (Y ++ Z).length), r (Y ++ Z)[j] = Kr r T (u.length + (P.length + X.length) + j) := fun hj => by rw [lA, luA]; exact (kr_mid (r := r) tB hj).symm
  have hd : ∀ p ∈ P, ∀ y ∈ Y ++ Z, r p < r y := fun p hp y hy => by
    obtain ⟨j, hj, rfl⟩ := List.mem_iff_getElem.mp hp
    obtain ⟨l, hl, rfl⟩ := List.mem_iff_getElem.mp hy
    have e : P[j] = (P ++ X)[j]'(by rw [List.length_append]; exact Nat.lt_add_right _ hj) := (List.getElem_append_left hj).symm
    rw [e, kA, kB hl]
    exact dB j l hj (lB ▸ hl)
  have hcc : ∀ x ∈ P ++ X, ∀ z ∈ Z, r x < r z := fun x hx z hz => by
    obtain ⟨j, hj, rfl⟩ := List.mem_iff_getElem.mp hx
    obtain ⟨l, hl, rfl⟩ := List.mem_iff_getElem.mp hz
    have e : Z[l] = (Y ++ Z)[Y.length + l]'(by rw [List.length_append]; exact Nat.add_lt_add_left hl _) := by rw [List.getElem_append_right (Nat.le_add_right _ _)]; simp
    rw [e, kA hj, kB]
    exact cA j l (lA ▸ hj) hl
  have hnd' : ((X ++ Y).map r).Nodup := by
    rw [tM, List.map_append, List.map_append (l₁ := X ++ Y)] at hnd
    exact (List.nodup_append.mp (List.nodup_append.mp hnd).2.1).1
  have hpw := merged_pw pA pB hd hcc (mg_perm r X Y) (mg_pw (List.pairwise_append.mp pA).2.1 (List.pairwise_append.mp pB).1 hnd')
  have hlM : (mg r X Y).length = (X ++ Y).length := (mg_perm r X Y).length_eq
  have hnew : (putAll (mg r X Y) (u.length + P.length) T).toList = (u ++ P) ++ (mg r X Y ++ (Z ++ v)) := luP ▸ put_mid tM hlM
  refine ⟨X, Y, by rw [← Nat.add_assoc, luP]; exact ex_mid tX, by rw [lA, luA]; exact ex_mid tY, rfl, rfl, by rw [hlM, List.length_append], ?_, ?_⟩
  · rw [hnew, tM]
    exact ((mg_perm r X Y).append_right _).append_left _
  · have e : (putAll (mg r X Y) (u.length + P.length) T).toList = u ++ ((P ++ (mg r X Y ++ Z)) ++ v) := by rw [hnew]; simp only [List.append_assoc]
    have := (rise_mid (r := r) e).mpr hpw
    rw [List.length_append, List.length_append, hlM, List.length_append] at this
    simpa only [Nat.add_assoc] using this
end

section
variable {prog : Program} {w : World} {A : Around} {E : Value → Shared → Prop} {s : Shared} {κ : SortKind} {a₀ : Array Keyed} {r : Keyed → Int}
theorem wpS_set {σ : Type} {M : Model} {Q : PUnit → σ → Prop} {st st' : σ} (h : Q ⟨⟩ st') : wpS M A E s (set st' : StateT σ Sem PUnit) Q st := by
  unfold wpS; rw [StateT.run_set]; exact wpAny_pure ⟨rfl, h⟩

theorem merge_at (hc : Cmp prog w A E s κ a₀ r) (hi : Inj a₀ r) {st : SortSt} {i sa na pw nb pw' : Nat} {Q : Bool → SortSt → Prop} (S : SI κ a₀ st) (h1 : (pendingOf st)[i]? = some (sa, na, pw)) (h2 : (pendingOf st)[i + 1]? = some (sa + na, nb, pw'))
    (hna : 1 ≤ na) (hnb : 1 ≤ nb) (hsz : sa + na + nb ≤ a₀.size) (hRa : Rise r (arrOf st) sa (sa + na)) (hRb : Rise r (arrOf st) (sa + na) (sa + na + nb))
    (h : ∀ st', SI κ a₀ st' → pendingOf st' = ((pendingOf st).setIfInBounds i (sa, na + nb, pw)).eraseIdxIfInBounds (i + 1) → Rise r (arrOf st') sa (sa + na + nb) → Same (arrOf st) (arrOf st') sa (sa + na + nb) → Q true st') :
    wpS (model prog w) A E s (mergeAt' i) Q st := by
  rw [mergeAt'_eq]
  refine wpS_bind (wpS_get ?_)
  rw [h1, h2]
  refine wpS_bind (wpS_set ?_)
  generalize ((pendingOf st).setIfInBounds i (sa, na + nb, pw)).eraseIdxIfInBounds (i + 1) = p' at h
  clear h1 h2
  have S1 : SI κ a₀ (setPending st p') := ⟨S.kind, S.failed, S.perm⟩
  rw [← S.size] at hsz
  have hat : ∀ {i j : Nat}, i < (arrOf st).size → j < (arrOf st).size → Kr r (arrOf st) i = Kr r (arrOf st) j → i = j := fun a b e => hi.at S (S.size ▸ a) (S.size ▸ b) e
  have mem : ∀ j, j < (arrOf st).size → ∃ x, (arrOf st)[j]? = some x ∧ x ∈ a₀ := fun j hj => ⟨_, Array.getElem?_eq_getElem hj, S.mem (Array.getElem_mem hj)⟩
  have memE : ∀ i j l (hl : l < ((arrOf st).extract i j).size), ((arrOf st).extract i j)[l] ∈ a₀ := fun i j l hl => by
    rw [Array.getElem_extract]; exact S.mem (Array.getElem_mem _)
  have hsb : sa + na < (arrOf st).size := Nat.lt_of_lt_of_le (Nat.lt_add_of_pos_right hnb) hsz
  refine wpS_bind (wpS_elem (Array.getElem?_eq_getElem hsb) (wpS_bind (gallop_ok hc S1.kind (S.mem (Array.getElem_mem hsb)) (fun j hj => mem _ (Nat.lt_trans (Nat.add_lt_add_left hj _) hsb)) hna (gal_mono hRa) fun k d1 d2 d3 => ?_)))
  have d2' : ∀ j, j < k → Kr r (arrOf st) (sa + j) < Kr r (arrOf st) (sa + na) := fun j hj => by
    have hj' := Nat.lt_of_lt_of_le hj d1
    refine lt_of_le_ne (by have := d2 j hj; simpa [bd2, KrG r hsb] using this) fun e => Nat.ne_of_lt (Nat.add_lt_add_left hj' sa) (hat (Nat.lt_trans (Nat.add_lt_add_left hj' _) hsb) hsb e)
  have d3' : ∀ j, k ≤ j → j < na → Kr r (arrOf st) (sa + na) < Kr r (arrOf st) (sa + j) := fun j hj hj' => by have := d3 j hj hj'; simpa [bd2, KrG r hsb] using this
  have dB : ∀ p q, p < k → q < nb → Kr r (arrOf st) (sa + p) < Kr r (arrOf st) (sa + na + q) := fun p q a1 a2 => Int.lt_of_lt_of_le (d2' p a1) (hRb.le (Nat.le_refl _) (Nat.le_add_right _ _) (Nat.add_lt_add_left a2 _))
  clear d2 d3
  refine wS_eq (fun hk => wpS_pure (h _ S1 rfl (fun p q hp hpq hq => ?_) fun _ _ => rfl)) fun hk => ?_
  · by_cases hq1 : q < sa + na
    · exact hRa p q hp hpq hq1
    by_cases hp1 : sa + na ≤ p
    · exact hRb p q hp1 hpq hq
    obtain ⟨p, rfl⟩ := Nat.exists_eq_add_of_le hp
    obtain ⟨q, rfl⟩ := Nat.exists_eq_add_of_le (Nat.le_of_not_lt hq1)
    obtain rfl : k = na := Nat.le_antisymm d1 (Nat.le_of_sub_eq_zero hk)
    exact dB p q (Nat.lt_of_add_lt_add_left (Nat.lt_of_not_le hp1)) (Nat.lt_of_add_lt_add_left hq)
  obtain ⟨x, rfl⟩ : ∃ x, na = k + (x + 1) := ⟨na - k - 1, by omega⟩
  clear hk d1 hna
  rw [Nat.add_sub_cancel_left]
  have hal : sa + k + (x + 1) - 1 < (arrOf st).size := by omega
  have eal : sa + k + (x + 1) - 1 = sa + (k + x) := Nat.add_assoc sa k x
  refine wpS_bind (wpS_elem (Array.getElem?_eq_getElem hal) (wpS_bind (gallop_ok hc S1.kind (S.mem (Array.getElem_mem hal)) (fun j hj => mem _ (Nat.lt_of_lt_of_le (Nat.add_lt_add_left hj _) hsz)) (Nat.sub_lt hnb Nat.one_pos) (gal_mono hRb) fun k2 c1 c2 c3 => ?_)))
  have c2' : ∀ j, j < k2 → Kr r (arrOf st) (sa + (k + (x + 1)) + j) < Kr r (arrOf st) (sa + (k + x)) := fun j hj => by have := c2 j hj; unfold bd2 at this; rw [KrG r hal, eal] at this; simpa using this
  have c3' : ∀ j, k2 ≤ j → j < nb → Kr r (arrOf st) (sa + (k + x)) < Kr r (arrOf st) (sa + (k + (x + 1)) + j) := fun j hj hj' => by
    refine lt_of_le_ne (by have := c3 j hj hj'; unfold bd2 at this; rw [KrG r hal, eal] at this; simpa using this) fun e => ?_
    have := hat (eal ▸ hal) (Nat.lt_of_lt_of_le (Nat.add_lt_add_left hj' _) hsz) e
    exact Nat.ne_of_lt (Nat.lt_of_lt_of_le (Nat.add_lt_add_left (Nat.add_lt_add_left (Nat.lt_succ_self x) k) sa) (Nat.le_add_right _ _)) this
  clear c2 c3 hal eal
  refine wS_eq (fun hk2 => ?_) fun hk2 => ?_
  · have e1 := c3' 0 (Nat.le_of_eq hk2) hnb
    exact absurd (Int.lt_trans e1 (d3' (k + x) (Nat.le_add_right _ _) (Nat.lt_succ_self _))) (Int.lt_irrefl _)
  obtain ⟨z, rfl⟩ := Nat.exists_eq_add_of_le c1
  have cA : ∀ p q, p < k + (x + 1) → q < z → Kr r (arrOf st) (sa + p) < Kr r (arrOf st) (sa + (k + (x + 1)) + (k2 + q)) := fun p q a1 a2 => Int.lt_of_le_of_lt (hRa.le (Nat.le_add_right _ _) (Nat.add_le_add_left (Nat.le_of_lt_succ a1) _) (Nat.add_lt_add_left (Nat.lt_succ_self _) _)) (c3' (k2 + q) (Nat.le_add_right _ _) (Nat.add_lt_add_left a2 _))
  obtain ⟨X, Y, eX, eY, hX, hY, hlM, hpm, hrs⟩ := merge_pure hsz hRa hRb dB cA (((Array.perm_iff_toList_perm.mp S.perm).map r).nodup_iff.mpr hi)
  have z1 : sa + (k + (x + 1)) ≤ (arrOf st).size := Nat.le_of_lt hsb
  have z2 : sa + (k + (x + 1)) + k2 ≤ (arrOf st).size := Nat.le_trans (Nat.add_le_add_left c1 _) hsz
  have ek : sa + (k + (x + 1)) - (sa + k) = x + 1 := by rw [← Nat.add_assoc, Nat.add_sub_cancel_left]
  have szx : ((arrOf st).extract (sa + k) (sa + (k + (x + 1)))).size = x + 1 := by rw [← Array.length_toList, eX, hX]
  have szy : ((arrOf st).extract (sa + (k + (x + 1))) (sa + (k + (x + 1)) + k2)).size = k2 := by rw [← Array.length_toList, eY, hY]
  have exy : ∀ {p : Nat}, p < k2 → Kr r ((arrOf st).extract (sa + (k + (x + 1))) (sa + (k + (x + 1)) + k2)) p = Kr r (arrOf st) (sa + (k + (x + 1)) + p) := fun hp => Kr_ex z2 (by rw [Nat.add_sub_cancel_left]; exact hp)
  have exx : ∀ {p : Nat}, p < x + 1 → Kr r ((arrOf st).extract (sa + k) (sa + (k + (x + 1)))) p = Kr r (arrOf st) (sa + k + p) := fun hp => Kr_ex z1 (by rw [ek]; exact hp)
  have f1 : Kr r ((arrOf st).extract (sa + (k + (x + 1))) (sa + (k + (x + 1)) + k2)) 0 < Kr r ((arrOf st).extract (sa + k) (sa + (k + (x + 1)))) 0 := by
    rw [exy (Nat.pos_of_ne_zero hk2), exx (Nat.succ_pos _)]
    exact d3' k (Nat.le_refl _) (Nat.lt_add_of_pos_right (Nat.succ_pos _))
  have f2 : ∀ j, j < ((arrOf st).extract (sa + (k + (x + 1))) (sa + (k + (x + 1)) + k2)).size → Kr r ((arrOf st).extract (sa + (k + (x + 1))) (sa + (k + (x + 1)) + k2)) j < Kr r ((arrOf st).extract (sa + k) (sa + (k + (x + 1)))) (((arrOf st).extract (sa + k) (sa + (k + (x + 1)))).size - 1) := fun j hj => by
    rw [szy] at hj
    rw [szx, Nat.add_sub_cancel, exy hj, exx (Nat.lt_succ_self _), Nat.add_assoc sa k x]
    exact c2' j hj
  have rx : Rise r (arrOf st) (sa + k) (sa + (k + (x + 1))) := fun p q hp => hRa p q (Nat.le_trans (Nat.le_add_right _ _) hp)
  have ry : Rise r (arrOf st) (sa + (k + (x + 1))) (sa + (k + (x + 1)) + k2) := fun p q hp hpq hq => hRb p q hp hpq (Nat.lt_of_lt_of_le hq (Nat.add_le_add_left c1 _))
  have cont : ∀ (xs : Array Keyed) (g : Nat), xs.toList = mg r ((arrOf st).extract (sa + k) (sa + (k + (x + 1)))).toList ((arrOf st).extract (sa + (k + (x + 1))) (sa + (k + (x + 1)) + k2)).toList → wpS (model prog w) A E s (do
      modify fun s => setArr s (putAll xs.toList (sa + k) (arrOf s))
      let lift0 ← get
      pure (failedOf lift0).isNone) Q (setMin (setPending st p') g) := fun xs g hxs => by
    rw [eX, eY] at hxs
    rw [hxs]
    refine wpS_bind (wpS_modify (wpS_bind (wpS_get (wpS_pure ?_))))
    have hf : (failedOf (setArr (setMin (setPending st p') g) (putAll (mg r X Y) (sa + k) (arrOf (setMin (setPending st p') g))))).isNone = true := by
      show (failedOf st).isNone = true
      rw [S.failed]; rfl
    rw [hf]
    have S2 : SI κ a₀ (setMin (setPending st p') g) := ⟨S.kind, S.failed, S.perm⟩
    refine h _ (S2.setArr (xs := putAll (mg r X Y) (sa + k) (arrOf (setMin (setPending st p') g))) (Array.perm_iff_toList_perm.mpr hpm)) rfl hrs fun p hp => ?_
    show (putAll (mg r X Y) (sa + k) (arrOf st))[p]? = _
    clear z1 ek szx szy hX hY
    rw [getElem?_putAll (by rw [hlM]; omega), if_neg (by rw [hlM]; omega)]
  refine wS_if (fun _ => ?_) fun _ => ?_
  · exact wpS_bind (merge_lo hc S1.kind (fun l hl => memE _ _ l hl) (fun l hl => memE _ _ l hl) (rx.ex z1) (ry.ex z2) (by rw [szx]; exact Nat.succ_pos _) (by rw [szy]; exact Nat.pos_of_ne_zero hk2) f1 f2 cont)
  · exact wpS_bind (merge_hi hc S1.kind (fun l hl => memE _ _ l hl) (fun l hl => memE _ _ l hl) (rx.ex z1) (ry.ex z2) (by rw [szx]; exact Nat.succ_pos _) (by rw [szy]; exact Nat.pos_of_ne_zero hk2) f1 f2 cont)
end
end Mine.Ts

-- part S6
namespace Mine.Ts

/-- runs that lie one behind the other from place i up to j -/
noncomputable def Chain (r : Keyed → Int) (xs : Array Keyed) : Nat → List (Nat × Nat × Nat) → Nat → Prop
  | i, [], j => i = j
  | i, (s, n, _) :: l, j => s = i ∧ 1 ≤ n ∧ Rise r xs i (i + n) ∧ Chain r xs (i + n) l j
theorem Chain.le {r : Keyed → Int} {xs : Array Keyed} : ∀ {l : List (Nat × Nat × Nat)} {i j : Nat}, Chain r xs i l j → i + l.length ≤ j
  | [], i, j, h => by cases h; simp
  | (s, n, p) :: l, i, j, h => by have := Chain.le h.2.2.2; have := h.2.1; simp only [List.length_cons]; omega
theorem Rise.congr {r : Keyed → Int} {xs ys : Array Keyed} {i j : Nat} (h : Rise r xs i j) (e : ∀ p, i ≤ p → p < j → ys[p]? = xs[p]?) : Rise r ys i j := fun p q h1 h2 h3 => by
  rw [Kr_congr (e p h1 (by omega)), Kr_congr (e q (by omega) h3)]; exact h p q h1 h2 h3
theorem Chain.congr {r : Keyed → Int} {xs ys : Array Keyed} : ∀ {l : List (Nat × Nat × Nat)} {i j : Nat}, Chain r xs i l j → (∀ p, i ≤ p → p < j → ys[p]? = xs[p]?) → Chain r ys i l j
  | [], i, j, h, e => h
  | (s, n, p) :: l, i, j, h, e => ⟨h.1, h.2.1, h.2.2.1.congr fun p h1 h2 => e p h1 (by have := h.2.2.2.le; omega), h.2.2.2.congr fun p h1 h2 => e p (by omega) h2⟩
theorem Chain.app {r : Keyed → Int} {xs : Array Keyed} : ∀ {l l' : List (Nat × Nat × Nat)} {i j k : Nat}, Chain r xs i l j → Chain r xs j l' k → Chain r xs i (l ++ l') k
  | [], l', i, j, k, h, h' => by cases h; exact h'
  | (s, n, p) :: l, l', i, j, k, h, h' => ⟨h.1, h.2.1, h.2.2.1, h.2.2.2.app h'⟩
theorem Chain.split {r : Keyed → Int} {xs : Array Keyed} : ∀ {l l' : List (Nat × Nat × Nat)} {i k : Nat}, Chain r xs i (l ++ l') k → ∃ j, Chain r xs i l j ∧ Chain r xs j l' k
  | [], l', i, k, h => ⟨i, rfl, h⟩
  | (s, n, p) :: l, l', i, k, h => by
    obtain ⟨j, h1, h2⟩ := Chain.split (l := l) h.2.2.2
    exact ⟨j, ⟨h.1, h.2.1, h.2.2.1, h1⟩, h2⟩

theorem two_of {α : Type} {P : Array α} {i : Nat} (h : i + 1 < P.size) : ∃ l1 a b l2, P.toList = l1 ++ a :: b :: l2 ∧ l1.length = i := by
  refine ⟨P.toList.take i, P.toList[i]'(by simp; omega), P.toList[i + 1]'(by simpa using h), P.toList.drop (i + 2), ?_, by simp; omega⟩
  rw [← List.drop_eq_getElem_cons, ← List.drop_eq_getElem_cons, List.take_append_drop]

section
variable {prog : Program} {w : World} {A : Around} {E : Value → Shared → Prop} {s : Shared} {κ : SortKind} {a₀ : Array Keyed} {r : Keyed → Int}

/-- two neighbours among the runs become one -/
theorem merge_runs (hc : Cmp prog w A E s κ a₀ r) (hi : Inj a₀ r) {st : SortSt} {i lo : Nat} {Q : Bool → SortSt → Prop} (S : SI κ a₀ st) (hC : Chain r (arrOf st) 0 (pendingOf st).toList lo) (hlo : lo ≤ a₀.size) (hi1 : i + 1 < (pendingOf st).size)
    (h : ∀ st', SI κ a₀ st' → Chain r (arrOf st') 0 (pendingOf st').toList lo → (pendingOf st').size + 1 = (pendingOf st).size → Same (arrOf st) (arrOf st') 0 lo → Q true st') : wpS (model prog w) A E s (mergeAt' i) Q st := by
  obtain ⟨l1, ⟨sa, na, p⟩, ⟨sb, nb, p'⟩, l2, hP, hl⟩ := two_of hi1
  have g1 : (pendingOf st)[i]? = some (sa, na, p) := by rw [← Array.getElem?_toList, hP, List.getElem?_append_right (by omega), hl]; simp
  have g2 : (pendingOf st)[i + 1]? = some (sb, nb, p') := by rw [← Array.getElem?_toList, hP, List.getElem?_append_right (by omega), hl]; simp
  rw [hP] at hC
  obtain ⟨j, c1, c2, c3, c4, c5, c6, c7, c8⟩ := hC.split
  subst c2; subst c5
  have c9 := c8.le
  refine merge_at hc hi S g1 g2 c3 c6 (by omega) c4 c7 fun st' S' hp' hR hS => ?_
  have e : (pendingOf st').toList = l1 ++ (sa, na + nb, p) :: l2 := by
    rw [hp', Array.toList_eraseIdxIfInBounds, Array.toList_setIfInBounds, hP]
    rw [List.set_append_right _ _ (by omega), hl, Nat.sub_self, List.set_cons_zero, List.eraseIdx_append_of_length_le (by omega), hl, show i + 1 - i = 1 by omega]
    rfl
  refine h st' S' ?_ ?_ fun q hq => hS q (by omega)
  · rw [e]
    refine Chain.app (c1.congr fun q h1 h2 => hS q (.inl h2)) ⟨rfl, by omega, by rw [← Nat.add_assoc]; exact hR, ?_⟩
    rw [← Nat.add_assoc]
    exact c8.congr fun q h1 h2 => hS q (.inr h1)
  · have e1 := congrArg List.length e
    have e2 := congrArg List.length hP
    simp at e1 e2
    omega

theorem Chain.pow {xs : Array Keyed} : ∀ {l l' : List (Nat × Nat × Nat)} {i j : Nat}, l'.map (fun x => (x.1, x.2.1)) = l.map (fun x => (x.1, x.2.1)) → Chain r xs i l j → Chain r xs i l' j
  | [], [], i, j, e, h => h
  | [], _ :: _, i, j, e, h => by simp at e
  | _ :: _, [], i, j, e, h => by simp at e
  | (s, n, p) :: l, (s', n', p') :: l', i, j, e, h => by
    simp only [List.map_cons, List.cons.injEq, Prod.mk.injEq] at e
    obtain ⟨⟨e1, e2⟩, e3⟩ := e
    subst e1; subst e2
    exact ⟨h.1, h.2.1, h.2.2.1, h.2.2.2.pow e3⟩
theorem map_modify {l : List (Nat × Nat × Nat)} {k pw : Nat} : (l.modify k (fun x => (x.1, x.2.1, pw))).map (fun x => (x.1, x.2.1)) = l.map (fun x => (x.1, x.2.1)) := by
  apply List.ext_getElem?
  intro i
  simp only [List.getElem?_map, List.getElem?_modify]
  cases l[i]? with
  | none => rfl
  | some x => simp only [Option.map_map, Option.map_some]; split <;> rfl

noncomputable def rStep (pw : Nat) : StateT SortSt Sem (ForInStep (Option Unit × Unit)) := do
  let g ← get
  sortRuns'_eq.match_1 (fun _ => StateT SortSt Sem (ForInStep (Option Unit × Unit))) (if (pendingOf g).size > 1 then (pendingOf g)[(pendingOf g).size - 2]? else none)
    (fun _ _ older =>
      if older ≤ pw then pure (.done (none, ()))
      else do
        let t ← mergeAt' ((pendingOf g).size - 2)
        if (!t) = true then pure (.done (some (), ())) else pure (.yield (none, ())))
    (fun _ => pure (.done (none, ())))
noncomputable def rTail (size lo n : Nat) : StateT SortSt Sem (ForInStep (Option Unit × Nat)) := do
  let g ← get
  sortRuns'_eq.match_1 (fun _ => StateT SortSt Sem (ForInStep (Option Unit × Nat))) (pendingOf g).back?
    (fun s1 n1 _ => do
      let c ← forIn [0:size] ((none, ()) : Option Unit × Unit) fun _ _ => rStep (power' size (2 * s1 + n1) (2 * s1 + n1 + n1 + n) size)
      Break.runK.match_1 (fun _ => StateT SortSt Sem (ForInStep (Option Unit × Nat))) c.fst (fun r => pure (.done (some r, lo))) (fun _ => do
        modify fun s => setPending s ((pendingOf s).modify ((pendingOf s).size - 1) fun x => (x.fst, x.2.fst, power' size (2 * s1 + n1) (2 * s1 + n1 + n1 + n) size))
        modify fun s => setPending s ((pendingOf s).push (lo, n, 0))
        pure (.yield (none, lo + n))))
    (fun _ => do
      modify fun s => setPending s ((pendingOf s).push (lo, n, 0))
      pure (.yield (none, lo + n)))
noncomputable def RI (κ : SortKind) (a₀ : Array Keyed) (r : Keyed → Int) (lo n : Nat) (st : SortSt) : Prop := SI κ a₀ st ∧ Chain r (arrOf st) 0 (pendingOf st).toList lo ∧ Rise r (arrOf st) lo (lo + n)
theorem rStep_ok (hc : Cmp prog w A E s κ a₀ r) (hi : Inj a₀ r) {st : SortSt} {lo n pw : Nat} (hlo : lo ≤ a₀.size) (h : RI κ a₀ r lo n st) :
    wpS (model prog w) A E s (rStep pw) (fun c st' => (c = .done (none, ()) ∨ c = .yield (none, ())) ∧ RI κ a₀ r lo n st') st := by
  refine wpS_bind (wpS_get ?_)
  have stop : wpS (model prog w) A E s (pure (.done (none, ())) : StateT SortSt Sem (ForInStep (Option Unit × Unit))) (fun c st' => (c = .done (none, ()) ∨ c = .yield (none, ())) ∧ RI κ a₀ r lo n st') st := wpS_pure ⟨.inl rfl, h⟩
  by_cases hg : (pendingOf st).size > 1
  · have hlt : (pendingOf st).size - 2 < (pendingOf st).size := by omega
    rw [if_pos hg, Array.getElem?_eq_getElem hlt]
    refine wS_if (fun _ => stop) fun _ => ?_
    refine wpS_bind (merge_runs hc hi h.1 h.2.1 hlo (by omega) fun st4 S4 hC4 _ hS4 => ?_)
    exact wS_if (fun h => by cases h) fun _ => wpS_pure ⟨.inr rfl, S4, hC4, h.2.2.congr fun p h1 h2 => hS4 p (.inr h1)⟩
  · rw [if_neg hg]; exact stop
theorem rTail_ok (hc : Cmp prog w A E s κ a₀ r) (hi : Inj a₀ r) {st : SortSt} {lo n : Nat} (h1 : 1 ≤ n) (h2 : lo + n ≤ a₀.size) (h : RI κ a₀ r lo n st) :
    wpS (model prog w) A E s (rTail a₀.size lo n) (fun c st' => c = .yield (none, lo + n) ∧ SI κ a₀ st' ∧ Chain r (arrOf st') 0 (pendingOf st').toList (lo + n)) st := by
  refine wpS_bind (wpS_get ?_)
  have push : ∀ {st : SortSt} (p : Array (Nat × Nat × Nat)), Chain r (arrOf st) 0 p.toList lo → Rise r (arrOf st) lo (lo + n) → Chain r (arrOf st) 0 (p.push (lo, n, 0)).toList (lo + n) := fun p hC hR => by
    rw [Array.toList_push]; exact hC.app ⟨rfl, h1, hR, rfl⟩
  cases hb : (pendingOf st).back? with
  | none => exact wpS_bind (wpS_modify (wpS_pure ⟨rfl, ⟨h.1.kind, h.1.failed, h.1.perm⟩, push _ h.2.1 h.2.2⟩))
  | some c =>
    refine wpS_bind (wpS_mono (wpS_forRange (I := fun x' c st' => c = (none, ()) ∧ RI κ a₀ r lo n st') (Q := fun c st' => c = (none, ()) ∧ RI κ a₀ r lo n st') (fun x' c st' _ _ hh => ?_) (fun _ _ hh => hh) ⟨rfl, h⟩) ?_)
    · refine wpS_mono (rStep_ok hc hi (by omega) hh.2) fun c st' q => ?_
      rcases q with ⟨rfl | rfl, q⟩ <;> exact ⟨rfl, q⟩
    · rintro c st3 ⟨rfl, S3, hC3, hR3⟩
      refine wpS_bind (wpS_modify (wpS_bind (wpS_modify (wpS_pure ⟨rfl, ⟨S3.kind, S3.failed, S3.perm⟩, push (st := st3) _ ?_ hR3⟩))))
      rw [Array.toList_modify]
      exact hC3.pow map_modify

noncomputable def rRun (size mr : Nat) (c : Option Unit × Nat) : StateT SortSt Sem (ForInStep (Option Unit × Nat)) :=
  if c.2 ≥ size then pure (.done (none, c.2)) else do
    let t ← countRun' c.2 (size - c.2)
    match t with
    | some found =>
      if found < mr then do
        rule "list.sort.binary-insertion"
        let ok ← binarySort' c.2 (min (size - c.2) mr) found
        if (!ok) = true then pure (.done (some (), c.2)) else rTail size c.2 (min (size - c.2) mr)
      else rTail size c.2 found
    | _ => pure (.done (some (), c.2))
noncomputable def rEnd : StateT SortSt Sem (ForInStep (Option Unit × Unit)) := do
  let g ← get
  if (pendingOf g).size ≤ 1 then pure (.done (none, ()))
  else
    let i := if ((if (pendingOf g).size - 2 > 0 then (pendingOf g)[(pendingOf g).size - 2 - 1]?.map (·.2.1) else none).any (· < ((pendingOf g)[(pendingOf g).size - 2 + 1]?.elim 0 (·.2.1)))) = true then (pendingOf g).size - 2 - 1 else (pendingOf g).size - 2
    let t ← mergeAt' i
    if (!t) = true then pure (.done (some (), ())) else pure (.yield (none, ()))
theorem sortRuns'_eq2 : sortRuns' = (do
  let g ← get
  let c ← forIn [0:(arrOf g).size] ((none, 0) : Option Unit × Nat) fun _ c => rRun (arrOf g).size (minRun' (arrOf g).size (arrOf g).size 0) c
  Break.runK.match_1 (fun _ => StateT SortSt Sem Unit) c.1 (fun r => pure r) (fun _ => do
    let d ← forIn [0:(arrOf g).size] ((none, ()) : Option Unit × Unit) fun _ _ => rEnd
    Break.runK.match_1 (fun _ => StateT SortSt Sem Unit) d.1 (fun r => pure r) (fun _ => pure ()))) := by kernel_rfl
inductive RJ (κ : SortKind) (a₀ : Array Keyed) (r : Keyed → Int) (x : Nat) (c : Option Unit × Nat) (st : SortSt) : Prop
  | mk (lo : Nat) (e : c = (none, lo)) (h1 : x ≤ lo) (h2 : lo ≤ a₀.size) (S : SI κ a₀ st) (C : Chain r (arrOf st) 0 (pendingOf st).toList lo)
inductive RK (κ : SortKind) (a₀ : Array Keyed) (r : Keyed → Int) (x : Nat) (c : Option Unit × Unit) (st : SortSt) : Prop
  | mk (e : c = (none, ())) (S : SI κ a₀ st) (C : Chain r (arrOf st) 0 (pendingOf st).toList a₀.size) (h : (pendingOf st).size ≤ 1 ∨ (pendingOf st).size + x ≤ a₀.size)
theorem rRun_ok (hc : Cmp prog w A E s κ a₀ r) (hi : Inj a₀ r) {st : SortSt} {x mr : Nat} {c : Option Unit × Nat} (hx : x < a₀.size) (h : RJ κ a₀ r x c st) :
    wpS (model prog w) A E s (rRun a₀.size mr c) (fun c st' => match c with | .done c' => RJ κ a₀ r a₀.size c' st' | .yield c' => RJ κ a₀ r (x + 1) c' st') st := by
  obtain ⟨lo, rfl, h2, h3, S', hC⟩ := h
  refine wS_if (fun hge => wpS_pure ⟨lo, rfl, hge, h3, S', hC⟩) fun hge => ?_
  have hge : lo < a₀.size := Nat.lt_of_not_ge hge
  refine wpS_bind (count_run hc hi S' (Nat.le_of_eq (Nat.add_sub_of_le h3)) (Nat.sub_pos_of_lt hge) fun m xs S1 m1 m2 hR1 hS1 => ?_)
  have hC1 : Chain r (arrOf (setArr st xs)) 0 (pendingOf (setArr st xs)).toList lo := hC.congr fun p _ h => hS1 p (.inl h)
  have fin : ∀ {st : SortSt} {n : Nat}, 1 ≤ n → lo + n ≤ a₀.size → RI κ a₀ r lo n st → wpS (model prog w) A E s (rTail a₀.size lo n) (fun c st' => match c with | .done c' => RJ κ a₀ r a₀.size c' st' | .yield c' => RJ κ a₀ r (x + 1) c' st') st := fun {_ n} a1 a2 a3 => by
    refine wpS_mono (rTail_ok hc hi a1 a2 a3) fun c st' q => ?_
    obtain ⟨rfl, q1, q2⟩ := q
    exact ⟨lo + n, rfl, Nat.add_le_add h2 a1, a2, q1, q2⟩
  have hm : lo + m ≤ a₀.size := Nat.add_sub_of_le h3 ▸ Nat.add_le_add_left m2 lo
  refine wS_if (fun hm' => ?_) fun _ => fin m1 hm ⟨S1, hC1, hR1⟩
  refine wpS_bind (wpS_lift (wpAny_rule ⟨rfl, ?_⟩))
  have b1 : m ≤ min (a₀.size - lo) mr := Nat.le_min.mpr ⟨m2, Nat.le_of_lt hm'⟩
  have b2 : lo + min (a₀.size - lo) mr ≤ a₀.size := Nat.le_trans (Nat.add_le_add_left (Nat.min_le_left _ _) lo) (Nat.le_of_eq (Nat.add_sub_of_le h3))
  refine wpS_bind (bin_sort hc hi S1 b2 m1 b1 hR1 fun xs2 S2 hR2 hS2 => ?_)
  exact wS_if (fun h => by cases h) fun _ => fin (Nat.le_trans m1 b1) b2 ⟨S2, hC1.congr fun p _ h => hS2 p (.inl h), hR2⟩
theorem rEnd_ok (hc : Cmp prog w A E s κ a₀ r) (hi : Inj a₀ r) {st : SortSt} {x : Nat} {c : Option Unit × Unit} (hx : x < a₀.size) (h : RK κ a₀ r x c st) :
    wpS (model prog w) A E s rEnd (fun c st' => match c with | .done c' => RK κ a₀ r a₀.size c' st' | .yield c' => RK κ a₀ r (x + 1) c' st') st := by
  obtain ⟨rfl, S3, hC3, hsz⟩ := h
  refine wpS_bind (wpS_get (wS_if (fun h => wpS_pure ⟨rfl, S3, hC3, .inl h⟩) fun h => ?_))
  have key : ∀ i, i + 1 < (pendingOf st).size → wpS (model prog w) A E s (mergeAt' i) (fun t st4 => wpS (model prog w) A E s (if (!t) = true then pure (.done (some (), ())) else pure (.yield (none, ())) : StateT SortSt Sem (ForInStep (Option Unit × Unit))) (fun c st' => match c with | .done c' => RK κ a₀ r a₀.size c' st' | .yield c' => RK κ a₀ r (x + 1) c' st') st4) st := fun i hi' =>
    merge_runs hc hi S3 hC3 (Nat.le_refl _) hi' fun st4 S4 hC4 hs4 _ => wS_if (fun h => by cases h) fun _ => wpS_pure ⟨rfl, S4, hC4, .inr (by omega)⟩
  refine wpS_bind (key _ ?_)
  have : ∀ (b : Bool) (n : Nat), (if b = true then n - 1 else n) ≤ n := fun b n => by cases b; exact Nat.le_refl _; exact Nat.sub_le _ _
  exact Nat.lt_of_le_of_lt (Nat.succ_le_succ (this _ ((pendingOf st).size - 2))) (by omega)

theorem sort_runs (hc : Cmp prog w A E s κ a₀ r) (hi : Inj a₀ r) {st : SortSt} {Q : Unit → SortSt → Prop} (S : SI κ a₀ st) (hp : pendingOf st = #[]) (h1 : 1 ≤ a₀.size)
    (h : ∀ st', SI κ a₀ st' → Rise r (arrOf st') 0 a₀.size → Q () st') : wpS (model prog w) A E s sortRuns' Q st := by
  rw [sortRuns'_eq2]
  refine wpS_bind (wpS_get ?_)
  rw [S.size]
  refine wpS_bind (wpS_mono (wpS_forRange (I := RJ κ a₀ r) (Q := RJ κ a₀ r a₀.size) (fun x c st' _ hx hh => ?_) (fun c st' hh => by rw [Nat.max_eq_right (Nat.zero_le _)] at hh; exact hh) ⟨0, rfl, Nat.le_refl _, Nat.zero_le _, S, by rw [hp]; rfl⟩) ?_)
  · refine wpS_mono (rRun_ok hc hi hx hh) fun c st' q => ?_
    cases c <;> exact q
  rintro c st' ⟨lo, rfl, a1, a2, S', hC⟩
  obtain rfl : a₀.size = lo := Nat.le_antisymm a1 a2
  have hle := hC.le
  rw [Array.length_toList, Nat.zero_add] at hle
  refine wpS_bind (wpS_mono (wpS_forRange (I := RK κ a₀ r) (Q := RK κ a₀ r a₀.size) (fun x c st' _ hx hh => ?_) (fun c st' hh => by rw [Nat.max_eq_right (Nat.zero_le _)] at hh; exact hh) ⟨rfl, S', hC, .inr hle⟩) ?_)
  · refine wpS_mono (rEnd_ok hc hi hx hh) fun c st' q => ?_
    cases c <;> exact q
  rintro c st3 ⟨rfl, S3, hC3, hsz⟩
  refine wpS_pure (h st3 S3 ?_)
  have hs1 : (pendingOf st3).toList.length ≤ 1 := by rw [Array.length_toList]; omega
  generalize (pendingOf st3).toList = l at hC3 hs1
  match l, hC3, hs1 with
  | [], hC3, _ => exact absurd (hC3 : 0 = a₀.size) (Nat.ne_of_lt h1)
  | [(s1, n1, p1)], hC3, _ => have e : 0 + n1 = a₀.size := hC3.2.2.2; exact e ▸ hC3.2.2.1
  | _ :: _ :: _, _, hs1 => exact absurd hs1 (by simp)
end
end Mine.Ts

-- part K1
namespace Mine.Ts

noncomputable def byT (w : World) : Bool := w.params.followText "set-order"

theorem layNew_led (t : SetTable) (es : Array (Int × Value)) (h : Int) (x : Value) : (layNew t es h x).2.1.led = t.led := by
  unfold layNew
  split
  · simp only [SetTable.orStandIn]
    split <;> rfl
  · rfl
theorem relaid_led {t t' : SetTable} {hs : Array Int} {wn : Nat} {o : Array Nat} (h : t.relaid hs wn = some (t', o)) : t'.led = t.led ∧ t'.plain = t.plain := by
  unfold SetTable.relaid SetTable.laid at h
  simp only [Option.bind_eq_bind, Option.bind_eq_some_iff, Option.pure_def, Option.some.injEq, Prod.mk.injEq] at h
  obtain ⟨ow, _, e, _⟩ := h
  subst e
  exact ⟨rfl, rfl⟩
theorem relayAll_led (t : SetTable) (es : Array (Int × Value)) (wn : Nat) : (relayAll t es wn).2.1.led = t.led := by
  unfold relayAll
  split
  · rename_i t' o e
    dsimp only
    split
    · exact (relaid_led e).1
    · rfl
  · rfl
theorem relayAll_plain {t : SetTable} (es : Array (Int × Value)) (wn : Nat) (h : t.plain = false) : (relayAll t es wn).2.1.plain = false := by
  unfold relayAll
  split
  · rename_i t' o e
    dsimp only
    split
    · rw [(relaid_led e).2, h]
    · rfl
  · rfl

section
variable {prog : Program} {w : World} {A : Around} {E : Value → Shared → Prop} {s : Shared}

/-- a set of strs -/
noncomputable def SetS (prog : Program) (w : World) (h : Heap) (a : Addr) (xs : List Str) : Prop :=
  ∃ es ep t, h.get? a = some { cls := .type "set", dict := none, data := .set es ep t } ∧ ElemsOf (PySem.strKind prog w) es.toList ∧ (∃ ss, StrsAre (es.toList.map (·.2)) ss ∧ ss.Perm xs) ∧ t.fits es.size = true ∧ t.led = (!byT w) ∧ (xs ≠ [] → t.plain = false)

theorem strIs {k x : Str} {t : Tok} : (PySem.strKind prog w).is k (.str x t) = decide (k = x) := by
  have h1 : (PySem.strKind prog w).is x (.str x t) = true := by
    have := (PySem.strKind prog w).strs x x t (.str x t)
    first
      | exact beq_self_eq_true x
      | simp [PySem.strKind, Value.isStr]
  exact KeyKind.is_eq_decide h1 k
theorem strsAre_app : ∀ {vs ws : List Value} {ss ts : List Str}, StrsAre vs ss → StrsAre ws ts → StrsAre (vs ++ ws) (ss ++ ts)
  | _, _, _, _, .nil, h => h
  | _, _, _, _, .cons x t h, h' => .cons x t (strsAre_app h h')
theorem strsAre_perm {vs ws : List Value} {ss : List Str} (h : StrsAre vs ss) (p : ws.Perm vs) : ∃ ts, StrsAre ws ts ∧ ts.Perm ss := by
  refine ⟨ws.map strOf, strsAre_map ws fun v hv => h.all v (p.mem_iff.mp hv), ?_⟩
  rw [← h.strs]; exact p.map strOf
theorem strsAre_mem {x : Str} : ∀ {vs : List Value} {ss : List Str}, StrsAre vs ss → (x ∈ ss ↔ ∃ v ∈ vs, (PySem.strKind prog w).is x v = true)
  | _, _, .nil => by simp
  | _, _, .cons y t h => by
    simp only [List.mem_cons, exists_eq_or_imp, strIs, decide_eq_true_eq]
    rw [strsAre_mem h]
theorem strsAre_len : ∀ {vs : List Value} {ss : List Str}, StrsAre vs ss → vs.length = ss.length
  | _, _, .nil => rfl
  | _, _, .cons y t h => by simp [strsAre_len h]

/-- one more -/
noncomputable def dd (xs : List Str) (x : Str) : List Str := if x ∈ xs then xs else xs ++ [x]

theorem SetS.mem {h : Heap} {a : Addr} {xs : List Str} {es : Array (Int × Value)} (q : ∃ ss, StrsAre (es.toList.map (·.2)) ss ∧ ss.Perm xs) (x : Str) : x ∈ xs ↔ ∃ e ∈ es.toList, (PySem.strKind prog w).is x e.2 = true := by
  obtain ⟨ss, h1, h2⟩ := q
  rw [← h2.mem_iff, strsAre_mem (prog := prog) (w := w) h1]
  constructor
  · rintro ⟨v, hv, hp⟩
    obtain ⟨e, he, rfl⟩ := List.mem_map.mp hv
    exact ⟨e, he, hp⟩
  · rintro ⟨e, he, hp⟩
    exact ⟨e.2, List.mem_map.mpr ⟨e, he, rfl⟩, hp⟩

theorem put_set {h : Heap} {a : Addr} {es es' : Array (Int × Value)} {ep : Nat} {t t' : SetTable} (ho : h.get? a = some { cls := .type "set", dict := none, data := .set es ep t }) : (h.update a (Obj.putSet es' t')).get? a = some { cls := .type "set", dict := none, data := .set es' (ep + 1) t' } := by
  have := Heap.get?_update_self (Obj.putSet es' t') ho (by rw [putSet_of es' t' rfl]; rfl)
  rw [putSet_of es' t' rfl] at this; exact this

theorem set_add {a : Addr} {xs : List Str} {x : Str} {tk : Tok} {Q : Bool → Shared → Prop} (hS : SetS prog w s.heap a xs) (hroom : xs.length + 1 < scanBound)
    (h : ∀ (b : Bool) h', Heap.SameBut a s.heap h' → SetS prog w h' a (dd xs x) → Q b { s with heap := h' }) :
    wpAny (model prog w) A (setAddHashed a (.str x tk) ((PySem.strKind prog w).hash x)) Q E s := by
  obtain ⟨es, ep, t, ho, hel, hss, hf, hled, hpl⟩ := hS
  have hkey : (PySem.strKind prog w).is x (.str x tk) = true := by rw [strIs]; simp
  have hlen : es.size = xs.length := by
    obtain ⟨ss, h1, h2⟩ := hss
    have := strsAre_len h1
    rw [← h2.length_eq, ← this]; simp
  have hb : es.size < scanBound := by omega
  unfold setAddHashed setAddHashedIn
  refine wpAny_holding (wpAny_bind (wpAny_setState_of ho rfl hf ?_))
  dsimp only
  rw [byScan_of (x := .str x tk) rfl hb hel]
  simp only [↓reduceIte]
  unfold setAddByScan
  refine wpAny_bind ?_
  refine wpAny_bind (wpAny_rule ?_)
  refine wpAny_bind (wpAny_setScan_of hkey ho rfl hf hel ?_)
  have hm := SetS.mem (prog := prog) (w := w) (h := s.heap) (a := a) hss x
  cases hr : List.findIdx? (fun e => (PySem.strKind prog w).is x e.2) es.toList with
  | some j =>
    dsimp only
    obtain ⟨hj, hpj, _⟩ := List.findIdx?_eq_some_iff_getElem.mp hr
    have hx : x ∈ xs := hm.mpr ⟨es.toList[j], List.getElem_mem hj, hpj⟩
    refine wpAny_pure (wpAny_pure ?_)
    have e : s = { s with heap := s.heap } := by cases s; rfl
    rw [e]
    refine h _ s.heap (Heap.SameBut.refl a s.heap) ?_
    unfold dd
    rw [if_pos hx]
    exact ⟨es, ep, t, ho, hel, hss, hf, hled, hpl⟩
  | none =>
    dsimp only
    have hx : x ∉ xs := fun hx => by
      obtain ⟨e, he, hp⟩ := hm.mp hx
      have := List.findIdx?_eq_none_iff.mp hr e he
      rw [hp] at this; exact Bool.noConfusion this
    have hgw : ∀ (b : Bool) {s₁ : Shared} {Q' : Unit → Shared → Prop}, Q' () s₁ → wpAny (model prog w) A (match b with | true => rule "set.scan.the-table-gave-way" | false => pure ()) Q' E s₁ :=
      fun b s₁ Q' hq => by cases b <;> first | exact wpAny_pure hq | exact wpAny_rule hq
    have hperm := layNew_perm t es ((PySem.strKind prog w).hash x) (.str x tk)
    have hfits := layNew_fits t es ((PySem.strKind prog w).hash x) (.str x tk)
    have hl1 := layNew_led t es ((PySem.strKind prog w).hash x) (.str x tk)
    generalize hL : layNew t es ((PySem.strKind prog w).hash x) (.str x tk) = L at hperm hfits hl1 ⊢
    obtain ⟨es1, t1, wasDummy, gave⟩ := L
    dsimp only at hperm hfits hl1 ⊢
    rw [Array.toList_push] at hperm
    have hel1 : ElemsOf (PySem.strKind prog w) es1.toList := (hel.push hkey rfl).perm hperm
    have hss1 : ∃ ss, StrsAre (es1.toList.map (·.2)) ss ∧ ss.Perm (dd xs x) := by
      obtain ⟨ss, h1, h2⟩ := hss
      have h3 : StrsAre ((es.toList ++ [((PySem.strKind prog w).hash x, Value.str x tk)]).map (·.2)) (ss ++ [x]) := by rw [List.map_append]; exact strsAre_app h1 (.cons x tk .nil)
      obtain ⟨ts, h4, h5⟩ := strsAre_perm h3 (hperm.map (·.2))
      refine ⟨ts, h4, h5.trans ?_⟩
      unfold dd; rw [if_neg hx]; exact h2.append_right _
    have hsz1 : es1.size = xs.length + 1 := by rw [← Array.length_toList, hperm.length_eq, List.length_append, Array.length_toList, hlen]; rfl
    refine wpAny_bind (hgw _ ?_)
    have tail : ∀ t2 : SetTable, t2.fits es1.size = true → t2.led = (!byT w) → t2.plain = false → wpAny (model prog w) A (do
        storeSet a es1 t2
        if (!wasDummy && t2.tooFull) = true then do
            (fun b => match b with | true => rule "set.scan.the-table-gave-way" | false => pure ()) (relayAll t2 es1 (SetTable.grown es1.size)).2.2
            storeSet a (relayAll t2 es1 (SetTable.grown es1.size)).1 (relayAll t2 es1 (SetTable.grown es1.size)).2.1
            pure (some true)
          else pure (some true)) (fun b s' => b = some true ∧ ∃ h', s' = { s with heap := h' } ∧ Heap.SameBut a s.heap h' ∧ SetS prog w h' a (dd xs x)) E s := by
      intro t2 hf2 hl2 hp2
      refine wpAny_bind (wpAny_storeSet_of ho rfl ?_ (fits_of_scanBound (by omega)))
      have ho1 := put_set (es' := es1) (t' := t2) ho
      have hsb1 := Heap.SameBut.update s.heap a (Obj.putSet es1 t2)
      split
      · have hp := relayAll_perm t2 es1 (SetTable.grown es1.size)
        have hfr := relayAll_fits t2 es1 (SetTable.grown es1.size)
        have hlr := relayAll_led t2 es1 (SetTable.grown es1.size)
        have hpr := relayAll_plain es1 (SetTable.grown es1.size) hp2
        generalize relayAll t2 es1 (SetTable.grown es1.size) = Rl at hp hfr hlr hpr ⊢
        obtain ⟨es2, t3, gave2⟩ := Rl
        dsimp only at hp hfr hlr hpr ⊢
        have hsz : es2.size = es1.size := by rw [← Array.length_toList, hp.length_eq, Array.length_toList]
        refine wpAny_bind (hgw _ ?_)
        refine wpAny_bind (wpAny_storeSet_of ho1 rfl ?_ (fits_of_scanBound (by omega)))
        refine wpAny_pure ⟨rfl, _, rfl, hsb1.trans (Heap.SameBut.update _ a _), es2, _, t3, put_set ho1, hel1.perm hp, ?_, hfr, hlr.trans hl2, fun _ => hpr⟩
        obtain ⟨ss, h1, h2⟩ := hss1
        obtain ⟨ts, h4, h5⟩ := strsAre_perm h1 (hp.map (·.2))
        exact ⟨ts, h4, h5.trans h2⟩
      · exact wpAny_pure ⟨rfl, _, rfl, hsb1, es1, _, t2, ho1, hel1, hss1, hf2, hl2, fun _ => hp2⟩
    have fin : ∀ (b : Option Bool) (s' : Shared), (b = some true ∧ ∃ h', s' = { s with heap := h' } ∧ Heap.SameBut a s.heap h' ∧ SetS prog w h' a (dd xs x)) → wpAny (model prog w) A (match b with | some added => pure added | none => setAddHashedIn a (.str x tk) ((PySem.strKind prog w).hash x) 99999) Q E s' := by
      rintro b s' ⟨rfl, h', rfl, q1, q2⟩
      exact wpAny_pure (h true h' q1 q2)
    split
    · refine wpAny_bind ?_
      rw [hashByValue_scannable 8 (x := .str x tk) rfl]
      refine wpAny_pure ?_
      exact wpAny_mono (tail { t1 with plain := false } (SetTable.fits_plain_off hfits) (hl1.trans hled) rfl) fin fun _ _ e => e
    · rename_i hpf
      refine wpAny_bind (wpAny_pure ?_)
      simp only [↓reduceIte]
      exact wpAny_mono (tail t1 hfits (hl1.trans hled) (by simpa using hpf)) fin fun _ _ e => e
end
end Mine.Ts

-- part K2
namespace Mine.Ts

noncomputable def fm (val : Nat → Str) (i : Nat) : List Str := ((List.range i).map val).foldl dd []
theorem fm_succ (val : Nat → Str) (i : Nat) : fm val (i + 1) = dd (fm val i) (val i) := by unfold fm; rw [List.range_succ, List.map_append, List.foldl_append]; rfl
theorem dd_len (xs : List Str) (x : Str) : (dd xs x).length ≤ xs.length + 1 := by unfold dd; split <;> simp
theorem fm_len (val : Nat → Str) : ∀ i, (fm val i).length ≤ i
  | 0 => Nat.le_refl _
  | i + 1 => by rw [fm_succ]; have := dd_len (fm val i) (val i); have := fm_len val i; omega
theorem dd_mem {xs : List Str} {x y : Str} : y ∈ dd xs x ↔ y ∈ xs ∨ y = x := by
  unfold dd; split
  · rename_i h; exact ⟨.inl, fun q => q.elim id fun e => e ▸ h⟩
  · simp
theorem dd_nodup {xs : List Str} {x : Str} (h : xs.Nodup) : (dd xs x).Nodup := by
  unfold dd; split
  · exact h
  · rename_i hx; rw [List.nodup_append]; exact ⟨h, by simp, fun a ha b hb => by simp at hb; subst hb; exact fun e => hx (e ▸ ha)⟩
theorem fm_mem {val : Nat → Str} {y : Str} : ∀ {i : Nat}, y ∈ fm val i ↔ ∃ j, j < i ∧ val j = y
  | 0 => by simp [fm]
  | i + 1 => by
    rw [fm_succ, dd_mem, fm_mem]
    constructor
    · rintro (⟨j, h1, h2⟩ | h)
      · exact ⟨j, by omega, h2⟩
      · exact ⟨i, by omega, h.symm⟩
    · rintro ⟨j, h1, h2⟩
      by_cases e : j = i
      · subst e; exact .inr h2.symm
      · exact .inl ⟨j, by omega, h2⟩
theorem fm_nodup (val : Nat → Str) : ∀ i, (fm val i).Nodup
  | 0 => by simp [fm]
  | i + 1 => by rw [fm_succ]; exact dd_nodup (fm_nodup val i)

theorem SetS.at {prog : Program} {w : World} {h h' : Heap} {a : Addr} {xs : List Str} (x : SetS prog w h a xs) (k : ∀ o, h.get? a = some o → h'.get? a = some o) : SetS prog w h' a xs :=
  let ⟨es, ep, t, ho, r⟩ := x; ⟨es, ep, t, k _ ho, r⟩
theorem str_at : ∀ {vs : List Value} {ss : List Str}, StrsAre vs ss → ∀ (i : Nat) (v : Value), vs[i]? = some v → ∃ t, v = .str (ss.getD i ⟨#[]⟩) t
  | _, _, .nil, i, v, h => by simp at h
  | _, _, .cons n t hr, 0, v, h => by simp at h; exact ⟨t, by rw [← h]; rfl⟩
  | _, _, .cons n t hr, i + 1, v, h => by
    simp only [List.getElem?_cons_succ] at h
    obtain ⟨t', e⟩ := str_at hr i v h
    exact ⟨t', by rw [e]; rfl⟩

section
variable {prog : Program} {w : World} {A : Around} {R : Result → Shared → Prop} {I : Addr} {fp wr : List Addr} {G : Array GenState → Array GenState → Prop} {n : Nat} {P : Nat → Value → Prop} {St : Nat → Shared → Prop}

theorem set_update (W : WalksS prog w A.in1 I fp wr G n P St) (S : Addr) (hSf : S ∉ fp) (val : Nat → Str) (hval : ∀ i v, P i v → ∃ t, v = .str (val i) t) (hb : n + 1 < scanBound) :
    ∀ (k i : Nat) (s : Shared), n - i = k → i ≤ n → St i s → SetS prog w s.heap S (fm val i) →
      (∀ s', Moved (S :: wr) G s s' → SetS prog w s'.heap S (fm val n) → R (.ok (.ret .none)) s') →
      codeAny (model prog w) A (.builtin "set.update.loop" ⟨[.ref S, .ref I], []⟩) R s := by
  have hSw : S ∉ wr := fun h => hSf (W.sub _ h)
  have hsub : ∀ b ∈ wr, b ∈ S :: wr := fun b hb => List.mem_cons_of_mem _ hb
  intro k
  induction k with
  | zero =>
    intro i s hk hi hst hS hR
    have hin : i = n := by omega
    subst hin
    refine codeAny_builtin PyProof.Rows.F.entry_set_update_loop ?_
    rw [Around.under_plainId PyProof.Rows.F.plain_set_update_loop _]
    show wpAny _ A.in1 (pyNext (.ref I) >>= _) _ _ s
    refine wpAny_bind (W.done s _ _ hst fun s' hm => ?_)
    exact wpAny_pure (hR s' (hm.mono hsub) (hS.at fun o e => hm.heap S _ hSw e))
  | succ k ih =>
    intro i s hk hi hst hS hR
    have hlt : i < n := by omega
    refine codeAny_builtin PyProof.Rows.F.entry_set_update_loop ?_
    rw [Around.under_plainId PyProof.Rows.F.plain_set_update_loop _]
    show wpAny _ A.in1 (pyNext (.ref I) >>= _) _ _ s
    refine wpAny_bind (W.item i s _ _ hlt hst fun v s' hP hst' hm => ?_)
    obtain ⟨t, rfl⟩ := hval i v hP
    have hS' : SetS prog w s'.heap S (fm val i) := hS.at fun o e => hm.heap S _ hSw e
    show wpAny _ A.in1 (holding [Value.str (val i) t] (setAdd S (.str (val i) t)) >>= _) _ _ s'
    refine wpAny_bind (wpAny_holding ?_)
    unfold setAdd
    refine wpAny_holding ?_
    refine wpAny_bind ((PySem.strKind prog w).pyHash (k := val i) (by rw [strIs]; simp) ?_)
    have hroom : (fm val i).length + 1 < scanBound := by have := fm_len val i; omega
    refine set_add (s := { s' with toks := s'.toks + 1 }) hS' hroom fun b h' hsb hS2 => ?_
    rw [← fm_succ] at hS2
    refine wpAny_pure ⟨plainId_quiet PyProof.Rows.F.plain_set_update_loop _, ih (i + 1) _ (by omega) hlt (W.frame _ s' _ _ hst' (Nat.le_succ _) fun b hb o e => ?_) hS2 fun s'' hm'' hS'' => ?_⟩
    · rw [hsb.2 b (fun h : b = S => hSf (by rw [← h]; exact hb))]; exact e
    · refine hR s'' (Moved.trans W.gtrans ((hm.mono hsub).then_heap (Nat.le_succ _) fun b o hb e => ?_) hm'') hS''
      rw [hsb.2 b (fun h : b = S => hb (by rw [h]; exact List.mem_cons_self))]; exact e
end
section
variable {prog : Program} {w : World} {A : Around} {E : Value → Shared → Prop} {s : Shared}
noncomputable def setO (w : World) : Obj := { cls := .type "set", dict := none, data := .set #[] 0 (.fresh 0 0 (!byT w)) }
theorem set_new (a : Value) {Q₁ : Value → Shared → Prop} (h : Q₁ (.ref s.heap.objs.size) { s with heap := s.heap.push (setO w) }) :
    codeAny (model prog w) A (.call (.builtin "set.__new__") ⟨[.type "set", a], []⟩) (wants Q₁ E) s := by
  refine codeAny_of_tree ?_
  show wpAny _ A.in1 (do checkBuiltinCall "set.__new__" ⟨[.type "set", a], []⟩; again (.builtin "set.__new__" ⟨[.type "set", a], []⟩)) _ _ s
  refine wpAny_bind (wpAny_of_eq (F.newCall_set_1 a) (wpAny_pure ⟨plainId_quiet F.plain_set_new _, codeAny_builtin F.entry_set_new ?_⟩))
  rw [Around.under_plainId F.plain_set_new _]
  unfold Builtin.«set.__new__» Builtin.Frozenset.newClass
  have hsub := sub_set_self
  obtain ⟨hp, g, d, tk, os⟩ := s
  dsimp only
  wp_walk
  refine wpAny_askSetting (wpAny_pure ?_)
  dsimp only
  simp only [newObj]
  refine wpAny_bind (wpAny_alloc (wpAny_pure ?_))
  exact wpAny_pure h

set_option maxHeartbeats 3200000 in
/-- set(..) of a list of strs -/
theorem call_set_strs {l : Addr} {items : Array Value} {ss : List Str} {Q : Value → Shared → Prop} (hh : A.handled = none) (hl : s.heap.IsList l items) (hi : StrsAre items.toList ss) (hb : items.size + 1 < scanBound)
    (h : ∀ (h' : Heap) (tk : Nat), SetS prog w h' s.heap.objs.size (fm (fun i => ss.getD i ⟨#[]⟩) items.size) → (∀ b o, s.heap.get? b = some o → h'.get? b = some o) → Q (.ref s.heap.objs.size) { s with heap := h', toks := tk }) :
    wpAny (model prog w) A (call (.type "set") [.ref l]) Q E s := by
  obtain ⟨c, tl, hmro⟩ := F.called_set.mro
  have hmade := F.called_set.made
  have hsub := F.called_set.sub
  refine wpAny_call (codeAny_of_tree ?_)
  show wpAny _ _ (callAny (.type "set") _) _ _ _
  refine wpAny_pure ⟨Code.quiet_builtin _ (by decide +kernel), codeAny_builtin F.entry_type_call ?_⟩
  rw [Around.under_plain (weight_type_call_type "set" [.ref l] []) rfl]
  have h1 := F.called_set.notType
  have h2 := F.called_set.canCreate
  have hct := F.typeCall_set_1 (.ref l)
  repeat (any_goals (first | assumption | wp_step))
  obtain ⟨led, hled⟩ : ∃ led, led = (!byT w) := ⟨_, rfl⟩
  refine codeAny_mono (set_new (.ref l) (E := E) (Q₁ := fun obj s₁ => obj = .ref s.heap.objs.size ∧ s₁ = { s with heap := s.heap.push { cls := .type "set", dict := none, data := .set #[] 0 (.fresh 0 0 led) } }) ⟨rfl, by rw [hled]; rfl⟩) fun r s₁ hr => ?_
  cases r with
  | error e => exact hr
  | ok fl =>
    cases fl with
    | ret obj =>
      obtain ⟨rfl, rfl⟩ := hr
      have hS : (s.heap.push { cls := .type "set", dict := none, data := .set #[] 0 (.fresh 0 0 led) }).get? s.heap.objs.size = some { cls := .type "set", dict := none, data := .set #[] 0 (.fresh 0 0 led) } := Heap.get?_push_size _ rfl
      have hT : Shared.TypeIs { s with heap := s.heap.push { cls := .type "set", dict := none, data := .set #[] 0 (.fresh 0 0 led) } } (.ref s.heap.objs.size) "set" := ⟨_, hS, rfl⟩
      have hli := F.called_set.init.lookup
      have hbi := F.called_set.init.bind (.ref s.heap.objs.size)
      repeat (any_goals (first | assumption | wp_step))
      refine codeAny_mono (codeAny_call_builtin (R := wants (fun r s₂ => r = .none ∧ ∃ h' tk, s₂ = { s with heap := h', toks := tk } ∧
          SetS prog w h' s.heap.objs.size (fm (fun i => ss.getD i ⟨#[]⟩) items.size) ∧ (∀ b o, s.heap.get? b = some o → h'.get? b = some o)) E) F.called_set.init.plain F.entry_set_init (check_set_init_1 hT ?_)) fun r₂ s₂ hr₂ => ?_
      · obtain ⟨ol, hol, hcl, nl, hdl⟩ := hl
        obtain ⟨ocls, odict, odata, oslots⟩ := ol
        simp only at hcl hdl
        subst hcl; subst hdl
        have hol' : (s.heap.push { cls := .type "set", dict := none, data := .set #[] 0 (.fresh 0 0 led) }).get? l = some { cls := .type "list", dict := odict, data := .seq items nl, slots := oslots } := Heap.get?_push_of_some _ hol
        have hsls := F.sub_list_set
        have hslf := F.sub_list_frozenset
        have hne : (Value.type "list" == Value.type "dict") = false := by decide
        have hl1 : (s.heap.push { cls := .type "set", dict := none, data := .set #[] 0 (.fresh 0 0 led) }).IsList l items := ⟨_, hol', rfl, nl, rfl⟩
        unfold Builtin.«set.__init__» noKeywords Builtin.Frozenset.updateFrom
        generalize hPI : pyIter = PI
        wp_walk
        subst hPI
        refine wpAny_pyIter_list hl1 ?_
        refine wpAny_bind (wpAny_runValue ?_)
        have hlS : l < s.heap.objs.size := Heap.lt_size hol
        have hh3 : A.in1.in1.in1.handled = none := by simp [hh]
        have hneI : l ≠ (s.heap.push { cls := .type "set", dict := none, data := .set #[] 0 (.fresh 0 0 led) }).objs.size := by rw [Heap.size_push]; exact Nat.ne_of_lt (Nat.lt_succ_of_lt hlS)
        have hSf : s.heap.objs.size ∉ [(s.heap.push { cls := .type "set", dict := none, data := .set #[] 0 (.fresh 0 0 led) }).objs.size, l] := by
          rw [Heap.size_push]; simp only [List.mem_cons, List.mem_singleton, List.not_mem_nil, or_false, not_or]
          exact ⟨Nat.ne_of_lt (Nat.lt_succ_self _), Nat.ne_of_gt hlS⟩
        have hval : ∀ (i : Nat) (v : Value), items[i]? = some v → ∃ t, v = .str ((fun i => ss.getD i ⟨#[]⟩) i) t := fun i v hv => str_at hi i v (by rw [Array.getElem?_toList]; exact hv)
        refine set_update ((Walks.list hh3 _ l hneI items).toS) s.heap.objs.size hSf (fun i => ss.getD i ⟨#[]⟩) hval hb (items.size - 0) 0 _ (by omega) (Nat.zero_le _)
          ⟨⟨_, Heap.get?_push_size _ rfl, rfl, rfl⟩, (hl1.push _)⟩ ?hS0 ?hR
        case hS0 =>
          have hget := Heap.get?_push_of_some { cls := .type "list_iterator", data := .fields #[.ref l, .int 0 0] } hS
          subst hled
          exact ⟨#[], 0, _, hget, fun e he => by simp at he, ⟨[], .nil, .refl _⟩, rfl, rfl, fun h => absurd rfl h⟩
        case hR =>
          intro s' hm hS'
          obtain ⟨h', g', d', tk', os'⟩ := s'
          have eg : g' = s.gens := hm.gens
          have ed : d' = s.drawn := hm.drawn
          have eo : os' = s.os := hm.os
          subst eg; subst ed; subst eo
          show wpAny _ _ _ _ _ _
          refine wpAny_pure ?_
          show wpAny _ _ (ret Value.none) _ _ _
          refine wpAny_pure ⟨rfl, h', tk', rfl, hS', fun b o e => ?_⟩
          have hb := Heap.lt_size e
          have hb1 : b ≠ s.heap.objs.size := Nat.ne_of_lt hb
          have hb2 : b ≠ (s.heap.push { cls := .type "set", dict := none, data := .set #[] 0 (.fresh 0 0 led) }).objs.size := by rw [Heap.size_push]; exact Nat.ne_of_lt (Nat.lt_succ_of_lt hb)
          exact hm.heap b o (by simp only [List.mem_cons, List.mem_singleton, List.not_mem_nil, or_false, not_or]; exact ⟨hb1, hb2⟩) (Heap.get?_push_of_some _ (Heap.get?_push_of_some _ e))
      · cases r₂ with
        | error e => exact hr₂
        | ok fl₂ =>
          cases fl₂ with
          | ret r =>
            obtain ⟨rfl, h', tk, rfl, hS', hk'⟩ := hr₂
            repeat (any_goals (first | assumption | wp_step))
            exact h _ _ hS' hk'
          | _ => exact hr₂.elim
    | _ => exact hr.elim
end
end Mine.Ts

-- part K3
namespace Mine.Ts

theorem slot_sit_next : Slot "set_iterator" "__next__" "set_iterator.__next__" :=
  .of (owner := "set_iterator") (n := "__next__") (by rw [typeLookup_type, builtinLookup_eq_fast]; kernel_rfl) (by decide +kernel) (by decide +kernel) (by decide +kernel)
    (by first | exact .inl (by decide +kernel) | exact .inr (by decide +kernel)) (by rw [isSubtype_type]; kernel_rfl)
theorem slot_sit_iter : Slot "set_iterator" "__iter__" "set_iterator.__iter__" :=
  .of (owner := "set_iterator") (n := "__iter__") (by rw [typeLookup_type, builtinLookup_eq_fast]; kernel_rfl) (by decide +kernel) (by decide +kernel) (by decide +kernel)
    (by first | exact .inl (by decide +kernel) | exact .inr (by decide +kernel)) (by rw [isSubtype_type]; kernel_rfl)
theorem entry_sit_next : entryFor table "set_iterator.__next__" = some Builtin.«set_iterator.__next__» := entryFor_of_tree (by kernel_rfl)
theorem owner_sit : Manifest.owners.lookup (String.ofList ['r', 'o', 't', 'a', 'r', 'e', 't', 'i', '_', 't', 'e', 's'].reverse) = some Manifest.sig_set_iterator := by kernel_rfl
theorem entry_set_iter : entryFor table "set.__iter__" = some Builtin.«frozenset.__iter__» := entryFor_alias (id' := "frozenset.__iter__") (by kernel_rfl) rfl (by decide +kernel) (by kernel_rfl)
theorem entry_sit_iter : entryFor table "set_iterator.__iter__" = some Builtin.«dict_keyiterator.__iter__» := entryFor_alias (id' := "dict_keyiterator.__iter__") (by kernel_rfl) rfl (by decide +kernel) (by kernel_rfl)
theorem args_sit_iter (a : Value) : argsOk "set_iterator.__iter__" ⟨[a], []⟩ := by
  unfold argsOk; rw [signature?_of (id := "set_iterator.__iter__") (n := ['_', '_', 'r', 'e', 't', 'i', '_', '_']) (o := ['r', 'o', 't', 'a', 'r', 'e', 't', 'i', '_', 't', 'e', 's']) (by kernel_rfl) owner_sit]; kernel_rfl
theorem args_sit_next (a : Value) : argsOk "set_iterator.__next__" ⟨[a], []⟩ := by
  unfold argsOk; rw [signature?_of (id := "set_iterator.__next__") (n := ['_', '_', 't', 'x', 'e', 'n', '_', '_']) (o := ['r', 'o', 't', 'a', 'r', 'e', 't', 'i', '_', 't', 'e', 's']) (by kernel_rfl) owner_sit]; kernel_rfl

theorem setDrawn_eq (a : Addr) : setDrawn a = (do
  let (es, _, t) ← setState a
  let byText ← setsByText
  return !byText && (!t.plain && es.size > 1)) := rfl
theorem setNext_eq (a : Addr) (slot given epochThen : Nat) : setNext a slot given epochThen = (do
  let (es, epoch, t) ← setState a
  if ← setsByText then
    if epoch != epochThen then unsupported "set_iterator.__next__:elements-changed"
    return ((← setWalk a)[given]?).map fun e => (e.2, slot)
  if !t.plain && es.size > 1 then unsupported "set_iterator.__next__:the-table-is-plain-no-more"
  let _ ← (if !t.led && !es.isEmpty then unsupported "set:maker-not-led" else pure () : Sem Unit)
  let i := SetTable.below t.place slot
  return match es[i]?, t.place[i]? with
    | some (_, x), some j => some (x, j + 1)
    | _, _ => none) := rfl

section
variable {prog : Program} {w : World} {A : Around} {E : Value → Shared → Prop} {s : Shared}

theorem wp_choose' {src : Source} {n : Nat} {Q : Nat → Shared → Prop} (hn : n ≠ 0) (h : ∀ i d, i < n → Q i { s with drawn := d }) : wpAny (model prog w) A (choose src n) Q E s := fun Γ p hΓ => by
  unfold choose
  rw [Sem.wp_choose]
  exact ⟨hn, h _ _ (Nat.mod_lt _ (Nat.pos_of_ne_zero hn))⟩

theorem wp_drawOrder {α : Type} : ∀ {n : Nat} {xs : List α} {s : Shared} {Q : List α → Shared → Prop}, xs.length = n → (∀ ys d, ys.Perm xs → Q ys { s with drawn := d }) → wpAny (model prog w) A (drawOrder n xs) Q E s
  | 0, xs, s, Q, hn, h => by
    have : xs = [] := List.eq_nil_of_length_eq_zero hn
    subst this
    exact wpAny_pure (by have := h [] s.drawn (.refl _); exact this)
  | n + 1, [], s, Q, hn, h => by simp at hn
  | n + 1, x :: xs, s, Q, hn, h => by
    unfold drawOrder
    refine wpAny_bind (wp_choose' (by simp) fun i d hi => ?_)
    rw [List.getElem?_eq_getElem hi]
    dsimp only
    refine wpAny_bind (wp_drawOrder (by rw [List.length_eraseIdx_of_lt hi]; simp at hn ⊢; omega) fun ys d' hp => ?_)
    refine wpAny_pure (h _ _ ?_)
    refine (hp.cons _).trans ?_
    rw [List.eraseIdx_eq_take_drop_succ]
    refine List.perm_middle.symm.trans (.of_eq ?_)
    rw [← List.drop_eq_getElem_cons hi, List.take_append_drop]

noncomputable def tupO (vs : List Value) : Obj := { cls := .type "tuple", data := .seq vs.toArray }
/-- an iterator over a set -/
noncomputable def SIt (h : Heap) (I : Addr) (f0 : Value) (i : Nat) (a : Addr) (n ep : Nat) : Prop :=
  h.get? I = some { cls := .type "set_iterator", dict := none, data := .fields #[f0, rawInt i, .ref a, rawInt n, rawInt ep], slots := #[] }
theorem SIt.at {h h' : Heap} {I a : Addr} {f0 : Value} {i n ep : Nat} (x : SIt h I f0 i a n ep) (k : ∀ o, h.get? I = some o → h'.get? I = some o) : SIt h' I f0 i a n ep := k _ x


/-- the end of an iterator -/
theorem sit_stop {h₁ : Heap} {I : Addr} {Q : Option Value → Shared → Prop} (hh : A.handled = none) (h : ∀ h', (∀ b o, h₁.get? b = some o → h'.get? b = some o) → Q none { s with heap := h' }) :
    wpAny (model prog w) A.in1 (newExc (.type "StopIteration") [] >>= raiseNew (α := PySem.Fin)) (fun fin s' => ∃ v, fin = .done (.ret v) ∧ wpAny (model prog w) A (pure (some v)) Q E s')
      (fun e s' => wpAny (model prog w) A (do if ← isInstance e (.type "StopIteration") then pure none else throw e) Q E s') { s with heap := h₁ } := by
  refine wpAny_bind ?_
  simp only [newExc, newTuple]
  refine wpAny_bind (wpAny_newObj_type ?_ (by size_fits))
  refine wpAny_bind (m := firstArgMember _ _) (wpAny_of_eq (a := Value.none) (by first | rfl | (simp only [firstArgMember]; rfl)) ?_)
  refine wpAny_newObj_type ?_ (by size_fits)
  simp only [raiseNew]
  refine wpAny_bind (wpAny_handled ?_)
  rw [show A.in1.handled = none from hh]
  refine wpAny_bind (wpAny_pure (wpAny_throw ?_))
  refine wpAny_bind (wpAny_isInstance (T := "StopIteration") (b := true) ⟨_, Heap.get?_push_size _ rfl, rfl⟩ isSubtype_stop ?_)
  exact wpAny_pure (h _ fun b o e => Heap.get?_push_of_some _ (Heap.get?_push_of_some _ e))

theorem sit_nextD {I a T : Addr} {i n ep : Nat} {es : Array (Int × Value)} {t : SetTable} {ps : List Nat} {p : Nat} {e : Int × Value} {Q : Option Value → Shared → Prop} (hit : SIt s.heap I (.ref T) i a n ep) (ho : s.heap.get? a = some { cls := .type "set", dict := none, data := .set es ep t }) (hf : t.fits es.size = true) (hn : es.size = n)
    (hT' : s.heap.get? T = some (tupO (ps.map fun (j : Nat) => rawInt j))) (hp : ps[i]? = some p) (he : es[p]? = some e) (h : ∀ h', SIt h' I (.ref T) (i + 1) a n ep → Heap.SameBut I s.heap h' → Q (some e.2) { s with heap := h' }) :
    wpAny (model prog w) A (pyNext (.ref I)) Q E s := by
  have hT : s.TypeIs (.ref I) "set_iterator" := ⟨_, hit, rfl⟩
  unfold pyNext
  refine wpAny_bind (wpAny_attempt (wpAny_callSpecial?_slot (name := Str.ofString "__next__") hT slot_sit_next
    (wpAny_call_entry slot_sit_next hT entry_sit_next ?_ (args_sit_next _))))
  unfold Builtin.«set_iterator.__next__»
  refine wpAny_bind (m := slotArgs "__next__" 0 _) (wpAny_pure ?_)
  dsimp only
  refine wpAny_bind (wpAny_fieldsOf hit rfl ?_)
  show wpAny _ _ (setEntries a >>= _) _ _ _
  refine wpAny_bind (wpAny_setEntries_of ho rfl hf ?_)
  have hne : ((es.size : Int) != (n : Int)) = false := by rw [hn]; simp
  rw [hne]
  simp only [Bool.false_eq_true, if_false, Int.toNat_natCast]
  refine wpAny_bind (wpAny_seqItems hT' rfl ?_)
  have e1 : (ps.map fun (j : Nat) => rawInt j).toArray[i]? = some (rawInt p) := by simp [hp]
  dsimp only
  rw [e1]
  show wpAny _ _ (setNextDrawn a (p : Int).toNat ep >>= _) _ _ _
  rw [Int.toNat_natCast]
  unfold setNextDrawn
  refine wpAny_bind (wpAny_bind (wpAny_setState_of ho rfl hf ?_))
  dsimp only
  rw [bne_self_eq_false]
  simp only [Bool.false_eq_true, if_false]
  rw [he]
  refine wpAny_pure ?_
  refine wpAny_bind (wpAny_setField_rec hit (by simp) fun h' hi' hs' => ?_)
  exact wpAny_pure ⟨_, rfl, wpAny_pure (h h' hi' hs')⟩

theorem sit_endD {I a T : Addr} {i n ep : Nat} {es : Array (Int × Value)} {t : SetTable} {ps : List Nat} {Q : Option Value → Shared → Prop} (hh : A.handled = none) (hit : SIt s.heap I (.ref T) i a n ep) (ho : s.heap.get? a = some { cls := .type "set", dict := none, data := .set es ep t }) (hf : t.fits es.size = true) (hn : es.size = n)
    (hT' : s.heap.get? T = some (tupO (ps.map fun (j : Nat) => rawInt j))) (hp : ps[i]? = none) (h : ∀ h', (∀ b o, b ≠ I → s.heap.get? b = some o → h'.get? b = some o) → Q none { s with heap := h' }) :
    wpAny (model prog w) A (pyNext (.ref I)) Q E s := by
  have hT : s.TypeIs (.ref I) "set_iterator" := ⟨_, hit, rfl⟩
  unfold pyNext
  refine wpAny_bind (wpAny_attempt (wpAny_callSpecial?_slot (name := Str.ofString "__next__") hT slot_sit_next
    (wpAny_call_entry slot_sit_next hT entry_sit_next ?_ (args_sit_next _))))
  unfold Builtin.«set_iterator.__next__»
  refine wpAny_bind (m := slotArgs "__next__" 0 _) (wpAny_pure ?_)
  dsimp only
  refine wpAny_bind (wpAny_fieldsOf hit rfl ?_)
  show wpAny _ _ (setEntries a >>= _) _ _ _
  refine wpAny_bind (wpAny_setEntries_of ho rfl hf ?_)
  have hne : ((es.size : Int) != (n : Int)) = false := by rw [hn]; simp
  rw [hne]
  simp only [Bool.false_eq_true, if_false, Int.toNat_natCast]
  refine wpAny_bind (wpAny_seqItems hT' rfl ?_)
  have e1 : (ps.map fun (j : Nat) => rawInt j).toArray[i]? = none := by simpa using hp
  dsimp only
  rw [e1]
  dsimp only
  refine wpAny_bind (wpAny_setField_rec hit (by simp) fun h' hi' hs' => ?_)
  refine wpAny_bind (wpAny_setField_rec hi' (by simp) fun h'' hi'' hs'' => ?_)
  exact sit_stop (I := I) hh fun h3 hk => h h3 fun b o hb e => hk b o (hs''.extBut b o hb (hs'.extBut b o hb e))

/-- by text: the order is the text's -/
theorem wp_setWalkB {a : Addr} {ep : Nat} {es : Array (Int × Value)} {t : SetTable} {Q : Array (Int × Value) → Shared → Prop} (hB : byT w = true) (ho : s.heap.get? a = some { cls := .type "set", dict := none, data := .set es ep t }) (hf : t.fits es.size = true)
    (h : Q (pickOrder (w.params.setOrder a ep) es) s) : wpAny (model prog w) A (setWalk a) Q E s := by
  unfold setWalk
  refine wpAny_bind (wpAny_setState_of ho rfl hf ?_)
  dsimp only
  unfold setsByText
  refine wpAny_bind (wpAny_bind (wpAny_askSetting (wpAny_pure ?_)))
  rw [show ((model prog w).w.params.followText "set-order") = true from hB]
  simp only [if_true]
  exact wpAny_bind (wpAny_askSetting (wpAny_pure h))

theorem sit_nextB {I a : Addr} {i n ep : Nat} {es : Array (Int × Value)} {t : SetTable} {e : Int × Value} {Q : Option Value → Shared → Prop} (hB : byT w = true) (hit : SIt s.heap I (rawInt 0) i a n ep) (ho : s.heap.get? a = some { cls := .type "set", dict := none, data := .set es ep t }) (hf : t.fits es.size = true) (hn : es.size = n)
    (he : (pickOrder (w.params.setOrder a ep) es)[i]? = some e) (h : ∀ h', SIt h' I (rawInt 0) (i + 1) a n ep → Heap.SameBut I s.heap h' → Q (some e.2) { s with heap := h' }) :
    wpAny (model prog w) A (pyNext (.ref I)) Q E s := by
  have hT : s.TypeIs (.ref I) "set_iterator" := ⟨_, hit, rfl⟩
  unfold pyNext
  refine wpAny_bind (wpAny_attempt (wpAny_callSpecial?_slot (name := Str.ofString "__next__") hT slot_sit_next
    (wpAny_call_entry slot_sit_next hT entry_sit_next ?_ (args_sit_next _))))
  unfold Builtin.«set_iterator.__next__»
  refine wpAny_bind (m := slotArgs "__next__" 0 _) (wpAny_pure ?_)
  dsimp only
  refine wpAny_bind (wpAny_fieldsOf hit rfl ?_)
  show wpAny _ _ (setEntries a >>= _) _ _ _
  refine wpAny_bind (wpAny_setEntries_of ho rfl hf ?_)
  have hne : ((es.size : Int) != (n : Int)) = false := by rw [hn]; simp
  rw [hne]
  simp only [Bool.false_eq_true, if_false, Int.toNat_natCast]
  show wpAny _ _ (setNext a ((0 : Int)).toNat i ep >>= _) _ _ _
  refine wpAny_bind ?_
  rw [setNext_eq]
  refine wpAny_bind (wpAny_setState_of ho rfl hf ?_)
  dsimp only
  refine wpAny_bind (m := setsByText) ?_
  unfold setsByText
  refine wpAny_bind (wpAny_askSetting (wpAny_pure ?_))
  rw [show ((model prog w).w.params.followText "set-order") = true from hB, bne_self_eq_false]
  simp only [if_true, Bool.false_eq_true, if_false]
  refine wpAny_bind (wp_setWalkB hB ho hf (wpAny_pure ?_))
  rw [he]
  show wpAny _ _ _ _ _ _
  refine wpAny_bind (wpAny_setField_rec hit (by simp) fun h' hi' hs' => ?_)
  refine wpAny_bind (wpAny_setField_rec hi' (by simp) fun h'' hi'' hs'' => ?_)
  exact wpAny_pure ⟨_, rfl, wpAny_pure (h h'' hi'' (hs'.trans hs''))⟩

theorem sit_endB {I a : Addr} {i n ep : Nat} {es : Array (Int × Value)} {t : SetTable} {Q : Option Value → Shared → Prop} (hh : A.handled = none) (hB : byT w = true) (hit : SIt s.heap I (rawInt 0) i a n ep) (ho : s.heap.get? a = some { cls := .type "set", dict := none, data := .set es ep t }) (hf : t.fits es.size = true) (hn : es.size = n)
    (he : (pickOrder (w.params.setOrder a ep) es)[i]? = none) (h : ∀ h', (∀ b o, b ≠ I → s.heap.get? b = some o → h'.get? b = some o) → Q none { s with heap := h' }) :
    wpAny (model prog w) A (pyNext (.ref I)) Q E s := by
  have hT : s.TypeIs (.ref I) "set_iterator" := ⟨_, hit, rfl⟩
  unfold pyNext
  refine wpAny_bind (wpAny_attempt (wpAny_callSpecial?_slot (name := Str.ofString "__next__") hT slot_sit_next
    (wpAny_call_entry slot_sit_next hT entry_sit_next ?_ (args_sit_next _))))
  unfold Builtin.«set_iterator.__next__»
  refine wpAny_bind (m := slotArgs "__next__" 0 _) (wpAny_pure ?_)
  dsimp only
  refine wpAny_bind (wpAny_fieldsOf hit rfl ?_)
  show wpAny _ _ (setEntries a >>= _) _ _ _
  refine wpAny_bind (wpAny_setEntries_of ho rfl hf ?_)
  have hne : ((es.size : Int) != (n : Int)) = false := by rw [hn]; simp
  rw [hne]
  simp only [Bool.false_eq_true, if_false, Int.toNat_natCast]
  show wpAny _ _ (setNext a ((0 : Int)).toNat i ep >>= _) _ _ _
  refine wpAny_bind ?_
  rw [setNext_eq]
  refine wpAny_bind (wpAny_setState_of ho rfl hf ?_)
  dsimp only
  refine wpAny_bind (m := setsByText) ?_
  unfold setsByText
  refine wpAny_bind (wpAny_askSetting (wpAny_pure ?_))
  rw [show ((model prog w).w.params.followText "set-order") = true from hB, bne_self_eq_false]
  simp only [if_true, Bool.false_eq_true, if_false]
  refine wpAny_bind (wp_setWalkB hB ho hf (wpAny_pure ?_))
  rw [he]
  show wpAny _ _ _ _ _ _
  refine wpAny_bind (wpAny_setField_rec hit (by simp) fun h' hi' hs' => ?_)
  exact sit_stop (I := I) hh fun h3 hk => h h3 fun b o hb e => hk b o (hs'.extBut b o hb e)

/-- a set of one -/
theorem sit_next1 {I a : Addr} {ep : Nat} {es : Array (Int × Value)} {t : SetTable} {e : Int × Value} {Q : Option Value → Shared → Prop} (hB : byT w = false) (hled : t.led = true) (hit : SIt s.heap I (rawInt 0) 0 a 1 ep) (ho : s.heap.get? a = some { cls := .type "set", dict := none, data := .set es ep t }) (hf : t.fits es.size = true) (hn : es.size = 1)
    (he : es[0]? = some e) (h : ∀ h' j, t.place[0]? = some j → SIt h' I (rawInt (j + 1 : Nat)) 1 a 1 ep → Heap.SameBut I s.heap h' → Q (some e.2) { s with heap := h' }) :
    wpAny (model prog w) A (pyNext (.ref I)) Q E s := by
  generalize hn1 : 1 = n at hit hn
  have hT : s.TypeIs (.ref I) "set_iterator" := ⟨_, hit, rfl⟩
  unfold pyNext
  refine wpAny_bind (wpAny_attempt (wpAny_callSpecial?_slot (name := Str.ofString "__next__") hT slot_sit_next
    (wpAny_call_entry slot_sit_next hT entry_sit_next ?_ (args_sit_next _))))
  unfold Builtin.«set_iterator.__next__»
  refine wpAny_bind (m := slotArgs "__next__" 0 _) (wpAny_pure ?_)
  dsimp only
  refine wpAny_bind (wpAny_fieldsOf hit rfl ?_)
  show wpAny _ _ (setEntries a >>= _) _ _ _
  refine wpAny_bind (wpAny_setEntries_of ho rfl hf ?_)
  have hne : ((es.size : Int) != (n : Int)) = false := by rw [hn]; simp
  rw [hne]
  simp only [Bool.false_eq_true, if_false, Int.toNat_natCast]
  subst hn1
  show wpAny _ _ (setNext a ((0 : Int)).toNat 0 ep >>= _) _ _ _
  refine wpAny_bind ?_
  rw [setNext_eq]
  refine wpAny_bind (wpAny_setState_of ho rfl hf ?_)
  dsimp only
  refine wpAny_bind (m := setsByText) ?_
  unfold setsByText
  refine wpAny_bind (wpAny_askSetting (wpAny_pure ?_))
  rw [show ((model prog w).w.params.followText "set-order") = false from hB]
  have c1 : (!t.plain && decide (es.size > 1)) = false := by rw [hn]; simp
  have c2 : (!t.led && !es.isEmpty) = false := by rw [hled]; rfl
  rw [c1, c2]
  simp only [Bool.false_eq_true, if_false]
  refine wpAny_bind (wpAny_pure (wpAny_pure ?_))
  have hps : t.place.size = 1 := by
    simp only [SetTable.fits, Bool.and_eq_true, beq_iff_eq, decide_eq_true_eq] at hf
    rw [hf.1, hn]
  have hpl : ∃ j, t.place = #[j] := Array.size_eq_one_iff.mp hps
  obtain ⟨j, hj⟩ := hpl
  have hbl : SetTable.below t.place ((0 : Int)).toNat = 0 := by rw [hj]; simp [SetTable.below, SetTable.below.go]
  rw [hbl, he, hj]
  show wpAny _ _ _ _ _ _
  refine wpAny_bind (wpAny_setField_rec hit (by simp) fun h' hi' hs' => ?_)
  refine wpAny_bind (wpAny_setField_rec hi' (by simp) fun h'' hi'' hs'' => ?_)
  exact wpAny_pure ⟨_, rfl, wpAny_pure (h h'' j (by rw [hj]; rfl) hi'' (hs'.trans hs''))⟩

theorem sit_end1 {I a : Addr} {ep j : Nat} {es : Array (Int × Value)} {t : SetTable} {Q : Option Value → Shared → Prop} (hh : A.handled = none) (hB : byT w = false) (hled : t.led = true) (hj : t.place = #[j]) (hit : SIt s.heap I (rawInt (j + 1 : Nat)) 1 a 1 ep) (ho : s.heap.get? a = some { cls := .type "set", dict := none, data := .set es ep t }) (hf : t.fits es.size = true) (hn : es.size = 1)
    (h : ∀ h', (∀ b o, b ≠ I → s.heap.get? b = some o → h'.get? b = some o) → Q none { s with heap := h' }) :
    wpAny (model prog w) A (pyNext (.ref I)) Q E s := by
  generalize hn1 : 1 = n at hit hn
  have hT : s.TypeIs (.ref I) "set_iterator" := ⟨_, hit, rfl⟩
  unfold pyNext
  refine wpAny_bind (wpAny_attempt (wpAny_callSpecial?_slot (name := Str.ofString "__next__") hT slot_sit_next
    (wpAny_call_entry slot_sit_next hT entry_sit_next ?_ (args_sit_next _))))
  unfold Builtin.«set_iterator.__next__»
  refine wpAny_bind (m := slotArgs "__next__" 0 _) (wpAny_pure ?_)
  dsimp only
  refine wpAny_bind (wpAny_fieldsOf hit rfl ?_)
  show wpAny _ _ (setEntries a >>= _) _ _ _
  refine wpAny_bind (wpAny_setEntries_of ho rfl hf ?_)
  have hne : ((es.size : Int) != (n : Int)) = false := by rw [hn]; simp
  rw [hne]
  simp only [Bool.false_eq_true, if_false, Int.toNat_natCast]
  subst hn1
  show wpAny _ _ (setNext a (((j + 1 : Nat) : Int)).toNat 1 ep >>= _) _ _ _
  refine wpAny_bind ?_
  rw [setNext_eq, Int.toNat_natCast]
  refine wpAny_bind (wpAny_setState_of ho rfl hf ?_)
  dsimp only
  refine wpAny_bind (m := setsByText) ?_
  unfold setsByText
  refine wpAny_bind (wpAny_askSetting (wpAny_pure ?_))
  rw [show ((model prog w).w.params.followText "set-order") = false from hB]
  have c1 : (!t.plain && decide (es.size > 1)) = false := by rw [hn]; simp
  have c2 : (!t.led && !es.isEmpty) = false := by rw [hled]; rfl
  rw [c1, c2]
  simp only [Bool.false_eq_true, if_false]
  refine wpAny_bind (wpAny_pure (wpAny_pure ?_))
  have hbl : SetTable.below t.place (j + 1) = 1 := by rw [hj]; simp [SetTable.below, SetTable.below.go]
  have he : es[1]? = none := by simp [hn]
  rw [hbl, he]
  show wpAny _ _ _ _ _ _
  refine wpAny_bind (wpAny_setField_rec hit (by simp) fun h' hi' hs' => ?_)
  exact sit_stop (I := I) hh fun h3 hk => h h3 fun b o hb e => hk b o (hs'.extBut b o hb e)
end
end Mine.Ts

-- part K4
namespace Mine.Ts

theorem pick_go {α : Type} (next : Nat → Nat) : ∀ (n k : Nat) (left : List α) (out : Array α), left.length = n → (pickOrder.go next n k left out).toList.Perm (out.toList ++ left)
  | 0, k, left, out, h => by
    have : left = [] := List.eq_nil_of_length_eq_zero h
    subst this; unfold pickOrder.go; simp
  | n + 1, k, left, out, h => by
    unfold pickOrder.go
    have hi : next k % left.length < left.length := Nat.mod_lt _ (by omega)
    rw [List.getElem?_eq_getElem hi]
    dsimp only
    refine (pick_go next n (k + 1) _ _ (by rw [List.length_eraseIdx_of_lt hi]; omega)).trans ?_
    rw [Array.toList_push, List.append_assoc]
    refine List.Perm.append_left _ ?_
    rw [List.eraseIdx_eq_take_drop_succ]
    refine (List.perm_middle (l₁ := List.take (next k % left.length) left)).symm.trans (.of_eq ?_)
    rw [← List.drop_eq_getElem_cons hi, List.take_append_drop]
theorem pick_perm {α : Type} (next : Nat → Nat) (xs : Array α) : (pickOrder next xs).toList.Perm xs.toList := by
  have := pick_go next xs.size 0 xs.toList #[] (by simp)
  simpa [pickOrder] using this

section
variable {prog : Program} {w : World} {A : Around} {E : Value → Shared → Prop} {s : Shared}

/-- the order in which a set is walked -/
noncomputable def OrdW (prog : Program) (w : World) (I : Addr) (fp : List Addr) (St : Nat → Heap → Prop) (vs : List Value) : Prop :=
  ∀ A' : Around, A'.handled = none → Walks prog w A' I fp [I] vs.length (fun i v => vs[i]? = some v) St

theorem sit_self {I a : Addr} {f0 : Value} {i n ep : Nat} {Q : Value → Shared → Prop} (hit : SIt s.heap I f0 i a n ep) (h : Q (.ref I) s) : wpAny (model prog w) A (pyIter (.ref I)) Q E s := by
  have hT : s.TypeIs (.ref I) "set_iterator" := ⟨_, hit, rfl⟩
  refine wpAny_pyIter_slot hT slot_sit_iter (wpAny_call_entry slot_sit_iter hT entry_sit_iter ?_ (args_sit_iter _))
  show wpAny _ _ (ret (.ref I)) _ _ s
  exact wpAny_pure ⟨_, rfl, "set_iterator", _, hT, slot_sit_next.lookup, h⟩

theorem ordD {I a T : Addr} {ep : Nat} {es : Array (Int × Value)} {t : SetTable} {ps : List Nat} (hf : t.fits es.size = true) (hp : ps.Perm (List.range es.size)) (n1 : a ≠ I) (n2 : T ≠ I) :
    OrdW prog w I [I, a, T] (fun i h => SIt h I (.ref T) i a es.size ep ∧ h.get? a = some { cls := .type "set", dict := none, data := .set es ep t } ∧ h.get? T = some (tupO (ps.map fun (j : Nat) => rawInt j))) (ps.map fun p => (es.getD p (0, .none)).2) := fun A' hh => by
  have hlen : ps.length = es.size := by rw [hp.length_eq]; simp
  rw [List.length_map]
  refine ⟨fun b hb => by simp at hb; simp [hb], fun i h h' ⟨s1, s2, s3⟩ hk => ⟨s1.at fun o e => hk I (by simp) o e, hk a (by simp) _ s2, hk T (by simp) _ s3⟩, ?_, ?_, fun i s Q E st hQ => sit_self st.1 hQ⟩
  · rintro i s Q E hi ⟨s1, s2, s3⟩ hQ
    have hpi : ps[i]? = some ps[i] := List.getElem?_eq_getElem hi
    have hlt : ps[i] < es.size := by have := hp.mem_iff.mp (List.getElem_mem hi); simpa using this
    refine sit_nextD s1 s2 hf rfl s3 hpi (Array.getElem?_eq_getElem hlt) fun h' hi' hs' => ?_
    refine hQ _ h' s.toks ?_ ⟨hi', hs'.extBut a _ n1 s2, hs'.extBut T _ n2 s3⟩ fun b o hb e => hs'.extBut b o (fun h => hb (by simp [h])) e
    simp [hpi, hlt]
  · rintro s Q E ⟨s1, s2, s3⟩ hQ
    exact sit_endD hh s1 s2 hf rfl s3 (by simp) fun h' hk => hQ h' s.toks fun b o hb e => hk b o (fun h => hb (by simp [h])) e

theorem ordB {I a : Addr} {ep : Nat} {es : Array (Int × Value)} {t : SetTable} (hB : byT w = true) (hf : t.fits es.size = true) (n1 : a ≠ I) :
    OrdW prog w I [I, a] (fun i h => SIt h I (rawInt 0) i a es.size ep ∧ h.get? a = some { cls := .type "set", dict := none, data := .set es ep t }) ((pickOrder (w.params.setOrder a ep) es).toList.map (·.2)) := fun A' hh => by
  rw [List.length_map]
  refine ⟨fun b hb => by simp at hb; simp [hb], fun i h h' ⟨s1, s2⟩ hk => ⟨s1.at fun o e => hk I (by simp) o e, hk a (by simp) _ s2⟩, ?_, ?_, fun i s Q E st hQ => sit_self st.1 hQ⟩
  · rintro i s Q E hi ⟨s1, s2⟩ hQ
    simp only [Array.length_toList] at hi
    refine sit_nextB hB s1 s2 hf rfl (Array.getElem?_eq_getElem hi) fun h' hi' hs' => ?_
    refine hQ _ h' s.toks ?_ ⟨hi', hs'.extBut a _ n1 s2⟩ fun b o hb e => hs'.extBut b o (fun h => hb (by simp [h])) e
    simp [hi]
  · rintro s Q E ⟨s1, s2⟩ hQ
    exact sit_endB hh hB s1 s2 hf rfl (by simp) fun h' hk => hQ h' s.toks fun b o hb e => hk b o (fun h => hb (by simp [h])) e

theorem ord1 {I a : Addr} {ep : Nat} {es : Array (Int × Value)} {t : SetTable} (hB : byT w = false) (hled : t.led = true) (hf : t.fits es.size = true) (h1 : es.size = 1) (n1 : a ≠ I) :
    OrdW prog w I [I, a] (fun i h => ((i = 0 ∧ SIt h I (rawInt 0) 0 a 1 ep) ∨ (i = 1 ∧ ∃ j, t.place = #[j] ∧ SIt h I (rawInt (j + 1 : Nat)) 1 a 1 ep)) ∧ h.get? a = some { cls := .type "set", dict := none, data := .set es ep t }) (es.toList.map (·.2)) := fun A' hh => by
  rw [List.length_map, Array.length_toList, h1]
  refine ⟨fun b hb => by simp at hb; simp [hb], fun i h h' ⟨s1, s2⟩ hk => ⟨?_, hk a (by simp) _ s2⟩, ?_, ?_, fun i s Q E st hQ => ?_⟩
  · rcases s1 with ⟨e, s1⟩ | ⟨e, j, hj, s1⟩
    · exact .inl ⟨e, s1.at fun o e => hk I (by simp) o e⟩
    · exact .inr ⟨e, j, hj, s1.at fun o e => hk I (by simp) o e⟩
  · rintro i s Q E hi ⟨s1, s2⟩ hQ
    have hi0 : i = 0 := by omega
    subst hi0
    have s1 : SIt s.heap I (rawInt 0) 0 a 1 ep := by rcases s1 with ⟨_, s1⟩ | ⟨e, _⟩; exact s1; cases e
    refine sit_next1 hB hled s1 s2 hf h1 (Array.getElem?_eq_getElem (by omega)) fun h' j hj hi' hs' => ?_
    have hps : t.place.size = 1 := by
      simp only [SetTable.fits, Bool.and_eq_true, beq_iff_eq, decide_eq_true_eq] at hf
      rw [hf.1, h1]
    obtain ⟨j', hj'⟩ := Array.size_eq_one_iff.mp hps
    rw [hj'] at hj
    simp at hj
    subst hj
    refine hQ _ h' s.toks ?_ ⟨.inr ⟨rfl, _, hj', hi'⟩, hs'.extBut a _ n1 s2⟩ fun b o hb e => hs'.extBut b o (fun h => hb (by simp [h])) e
    simp [h1]
  · rintro s Q E ⟨s1, s2⟩ hQ
    rcases s1 with ⟨e, _⟩ | ⟨_, j, hj, s1⟩
    · cases e
    · exact sit_end1 hh hB hled hj s1 s2 hf h1 fun h' hk => hQ h' s.toks fun b o hb e => hk b o (fun h => hb (by simp [h])) e
  · rcases st.1 with ⟨_, s1⟩ | ⟨_, j, hj, s1⟩
    · exact sit_self s1 hQ
    · exact sit_self s1 hQ

theorem getD_range (es : Array (Int × Value)) : ((List.range es.size).map fun p => (es.getD p (0, .none)).2) = es.toList.map (·.2) := by
  apply List.ext_getElem?
  intro i
  by_cases hi : i < es.size
  · simp [hi]
  · simp [hi]

/-- iter of a set of strs -/
theorem set_iter {a : Addr} {xs : List Str} {Q : Value → Shared → Prop} (hS : SetS prog w s.heap a xs) (hne : xs ≠ []) (hb : xs.length < 4096)
    (h : ∀ (I : Addr) (h' : Heap) (d : Drawn) (vs : List Value) (ss : List Str) (fp : List Addr) (St : Nat → Heap → Prop), StrsAre vs ss → ss.Perm xs → (∀ b o, s.heap.get? b = some o → h'.get? b = some o) → s.heap.get? I = none → (∀ b ∈ fp, b = a ∨ s.heap.objs.size ≤ b) → (∀ b ∈ fp, b < h'.objs.size) → OrdW prog w I fp St vs → St 0 h' → Q (.ref I) { s with heap := h', drawn := d }) :
    wpAny (model prog w) A (pyIter (.ref a)) Q E s := by
  obtain ⟨es, ep, t, ho, hel, ⟨ss, hss, hpp⟩, hf, hled, hpl⟩ := hS
  have hT : s.TypeIs (.ref a) "set" := ⟨_, ho, rfl⟩
  have hlt : a < s.heap.objs.size := Heap.lt_size ho
  have hlen : es.size = xs.length := by
    have := strsAre_len hss
    rw [← hpp.length_eq, ← this]; simp
  have hn0 : 0 < es.size := by rw [hlen]; exact List.length_pos_iff.mpr hne
  have nsz : s.heap.get? s.heap.objs.size = none := by
    cases e : s.heap.get? s.heap.objs.size with
    | none => rfl
    | some o => exact absurd (Heap.lt_size e) (Nat.lt_irrefl _)
  refine wpAny_pyIter_slot hT F.slot_set_iter (wpAny_call_entry F.slot_set_iter hT entry_set_iter ?_ (F.args_set_iter_1 _))
  unfold Builtin.«frozenset.__iter__»
  refine wpAny_bind (m := Builtin.Frozenset.slot0 "__iter__" _) (wpAny_pure ?_)
  unfold Builtin.Frozenset.sizeOf
  refine wpAny_bind (wpAny_bind (wpAny_setEntries_of ho rfl hf (wpAny_pure ?_)))
  refine wpAny_bind (m := setDrawn a) ?_
  rw [setDrawn_eq]
  refine wpAny_bind (wpAny_setState_of ho rfl hf ?_)
  dsimp only
  unfold setsByText
  refine wpAny_bind (wpAny_bind (wpAny_askSetting (wpAny_pure (wpAny_pure ?_))))
  change wpAny _ _ (if (!byT w && (!t.plain && decide (es.size > 1))) = true then _ else _) _ _ _
  rw [hpl hne]
  -- not drawn
  have und : ∀ (fp : List Addr) (vs : List Value) (ss : List Str) (St : Nat → Heap → Prop), StrsAre vs ss → ss.Perm xs → (∀ b ∈ fp, b = s.heap.objs.size ∨ b = a) → OrdW prog w s.heap.objs.size fp St vs → St 0 (s.heap.push { cls := .type "set_iterator", data := .fields #[rawInt 0, rawInt 0, .ref a, rawInt es.size, rawInt ep] }) →
      wpAny (model prog w) A.in1 (do
        let lift0 ← setEpoch a
        let lift0 ← newFields "set_iterator" [rawInt 0, rawInt 0, .ref a, rawInt es.size, rawInt lift0]
        ret lift0) (fun fin s' => ∃ v, fin = .done (.ret v) ∧ ∃ T' r, s'.TypeIs v T' ∧ typeLookup (.type T') "__next__" = pure (some r) ∧ Q v s') E s := by
    intro fp vs ss St q1 q2 q3 q4 q5
    refine wpAny_bind (wpAny_setEpoch_of ho rfl hf ?_)
    refine wpAny_bind (wpAny_newObj_type (wpAny_pure ⟨_, rfl, "set_iterator", _, ⟨_, Heap.get?_push_size _ rfl, rfl⟩, slot_sit_next.lookup, ?_⟩))
    refine h s.heap.objs.size _ s.drawn vs ss fp St q1 q2 (fun b o e => Heap.get?_push_of_some _ e) nsz (fun b hb => ?_) (fun b hb => ?_) q4 q5
    · rcases q3 b hb with e | e
      · exact .inr (Nat.le_of_eq e.symm)
      · exact .inl e
    · rw [Heap.size_push]
      rcases q3 b hb with e | e
      · exact e ▸ Nat.lt_succ_self _
      · exact e ▸ Nat.lt_succ_of_lt hlt
  cases hB : byT w with
  | true =>
    simp only [Bool.not_true, Bool.false_and, Bool.false_eq_true, if_false]
    obtain ⟨ts, h4, h5⟩ := strsAre_perm hss ((pick_perm (w.params.setOrder a ep) es).map (·.2))
    refine und [s.heap.objs.size, a] _ ts _ h4 (h5.trans hpp) (by simp) (ordB hB hf (Nat.ne_of_lt hlt)) ⟨Heap.get?_push_size _ rfl, Heap.get?_push_of_some _ ho⟩
  | false =>
    by_cases h1 : es.size > 1
    · simp only [h1, Bool.not_false, decide_true, Bool.and_self, if_true]
      refine wpAny_bind (wp_drawOrder (by simp) fun ps d hp => ?_)
      refine wpAny_bind (wpAny_newTuple ?_ (by
        have := hp.length_eq
        simp at this ⊢
        rw [sizeLine_eq]; omega))
      have hT' : (s.heap.push (seqObj "tuple" (ps.map fun (i : Nat) => rawInt i).toArray 0)).get? s.heap.objs.size = some (tupO (ps.map fun (i : Nat) => rawInt i)) := Heap.get?_push_size _ rfl
      refine wpAny_bind (wpAny_setEpoch_of (Heap.get?_push_of_some _ ho) rfl hf ?_)
      refine wpAny_bind (wpAny_newObj_type (wpAny_pure ⟨_, rfl, "set_iterator", _, ⟨_, Heap.get?_push_size _ rfl, rfl⟩, slot_sit_next.lookup, ?_⟩))
      have hv : (ps.map fun p => (es.getD p (0, .none)).2).Perm (es.toList.map (·.2)) := by rw [← getD_range]; exact hp.map _
      obtain ⟨ts, h4, h5⟩ := strsAre_perm hss hv
      refine h _ _ d _ ts _ _ h4 (h5.trans hpp) (fun b o e => Heap.get?_push_of_some _ (Heap.get?_push_of_some _ e)) ?_ ?_ ?_ (ordD (T := s.heap.objs.size) (a := a) (ep := ep) (t := t) hf hp ?_ ?_) ⟨Heap.get?_push_size _ rfl, Heap.get?_push_of_some _ (Heap.get?_push_of_some _ ho), Heap.get?_push_of_some _ hT'⟩
      · cases e : s.heap.get? (s.heap.push (seqObj "tuple" (ps.map fun (i : Nat) => rawInt i).toArray 0)).objs.size with
        | none => rfl
        | some o => have := Heap.lt_size e; rw [Heap.size_push] at this; exact absurd this (Nat.not_lt.mpr (Nat.le_succ _))
      · intro b hb
        simp only [List.mem_cons, List.not_mem_nil, or_false] at hb
        rcases hb with rfl | rfl | rfl
        · right; rw [Heap.size_push]; exact Nat.le_succ _
        · left; rfl
        · right; exact Nat.le_refl _
      · intro b hb
        simp only [List.mem_cons, List.not_mem_nil, or_false] at hb
        rw [Heap.size_push, Heap.size_push]
        rcases hb with rfl | rfl | rfl
        · rw [Heap.size_push]; exact Nat.lt_succ_self _
        · exact Nat.lt_succ_of_lt (Nat.lt_succ_of_lt hlt)
        · exact Nat.lt_succ_of_lt (Nat.lt_succ_self _)
      · rw [Heap.size_push]; exact Nat.ne_of_lt (Nat.lt_succ_of_lt hlt)
      · rw [Heap.size_push]; exact Nat.ne_of_lt (Nat.lt_succ_self _)
    · have h1' : es.size = 1 := by omega
      have c : decide (es.size > 1) = false := by simp; omega
      simp only [c, Bool.and_false, Bool.false_eq_true, if_false]
      rw [hB] at hled
      exact und [s.heap.objs.size, a] _ ss _ hss hpp (by simp) (ord1 hB hled hf h1' (Nat.ne_of_lt hlt)) ⟨.inl ⟨rfl, by rw [h1']; exact Heap.get?_push_size _ rfl⟩, Heap.get?_push_of_some _ ho⟩
end
end Mine.Ts

-- part K5
namespace Mine
open Mine.Ts

/-- the order of strs -/
noncomputable def slt (x y : Str) : Prop := x.cps.toList < y.cps.toList
instance (x y : Str) : Decidable (slt x y) := by unfold slt; infer_instance
theorem slt_irrefl (x : Str) : ¬ slt x x := List.lt_irrefl _
theorem slt_trans {x y z : Str} (h1 : slt x y) (h2 : slt y z) : slt x z := List.lt_trans h1 h2
theorem slt_total {x y : Str} (h1 : ¬ slt x y) (h2 : ¬ slt y x) : x = y := by
  have := List.le_antisymm (List.not_lt.mp h2) (List.not_lt.mp h1)
  cases x; cases y; simp at this; exact congrArg _ this
noncomputable def rst (xs : List Str) (x : Str) : Int := ((xs.filter fun y => decide (slt y x)).length : Nat)
theorem rst_lt {xs : List Str} {x y : Str} (hx : x ∈ xs) : decide (rst xs x < rst xs y) = decide (slt x y) := by
  by_cases h : slt x y
  · have := filter_lt (p := fun k => decide (slt k x)) (q := fun k => decide (slt k y)) (fun k hk => by simp only [decide_eq_true_eq] at hk ⊢; exact slt_trans hk h) (a := x) (by simp [slt_irrefl]) (by simpa using h) xs hx
    simp only [rst, h, decide_true]
    exact decide_eq_true (by omega)
  · have := filter_le (p := fun k => decide (slt k y)) (q := fun k => decide (slt k x)) (fun k hk => by
      simp only [decide_eq_true_eq] at hk ⊢
      by_cases e : slt y x
      · exact slt_trans hk e
      · rw [slt_total h e]; exact hk) xs
    simp only [rst, h, decide_false]
    exact decide_eq_false (by omega)
theorem rst_inj {xs : List Str} {x y : Str} (hx : x ∈ xs) (hy : y ∈ xs) (e : rst xs x = rst xs y) : x = y := by
  refine slt_total (fun h => ?_) fun h => ?_
  · have := rst_lt (y := y) hx; simp [h, e] at this
  · have := rst_lt (y := x) hy; simp [h, e] at this
noncomputable def rk (xs : List Str) (k : Keyed) : Int := rst xs (strOf k.1)

section
variable {prog : Program} {w : World} {A : Around} {E : Value → Shared → Prop} {s : Shared}

theorem cmp_strs {vs : List Value} {ss : List Str} (hS : StrsAre vs ss) : Cmp prog w A E s oneType' (pairsOf vs) (rk ss) := by
  intro st x y Q hk hx hy h
  have mm : ∀ k ∈ pairsOf vs, ∃ z t, k.1 = .str z t ∧ z ∈ ss := fun k hk => by
    have hk' : k ∈ vs.zip vs := by rw [← pairsOf_toList]; simpa using hk
    have hm := mem_zip_self hk'
    obtain ⟨z, t, e⟩ := hS.all _ hm.2
    refine ⟨z, t, e, ?_⟩
    rw [← hS.strs, List.mem_map]
    exact ⟨k.1, hm.2, by rw [e]; rfl⟩
  obtain ⟨a, t, ea, ma⟩ := mm x hx
  obtain ⟨b, u, eb, mb⟩ := mm y hy
  rw [lt'_eq]
  refine wpS_bind (wpS_get ?_)
  rw [hk, keyLt'_oneType, ea, eb]
  refine wpS_bind (wpS_lift (wpAny_attempt (oneLt_str ⟨rfl, ?_⟩)))
  have e : decide (rk ss x < rk ss y) = decide (a.cps.toList < b.cps.toList) := by
    unfold rk
    rw [ea, eb]
    exact rst_lt ma
  rw [e] at h
  exact wpS_pure h

theorem inj_strs {vs : List Value} {ss : List Str} (hS : StrsAre vs ss) (hn : ss.Nodup) : Inj (pairsOf vs) (rk ss) := by
  unfold Inj
  rw [pairsOf_toList]
  have e : (vs.zip vs).map (rk ss) = ss.map (rst ss) := by
    have : (vs.zip vs).map (rk ss) = ((vs.zip vs).map Prod.fst).map (fun v => rst ss (strOf v)) := by rw [List.map_map]; rfl
    rw [this, List.map_fst_zip (Nat.le_refl _)]
    conv => rhs; rw [← hS.strs]
    rw [List.map_map, hS.strs]; rfl
  rw [e]
  refine List.pairwise_map.mpr (List.Pairwise.imp_of_mem (fun {a b} ha hb hne e => hne (rst_inj ha hb e)) hn)

theorem list_sort_strs {a : Addr} {vs : List Value} {ss : List Str} {n : Nat} {P : PySem.Fin → Shared → Prop} (ho : s.heap.get? a = some (seqObj "list" vs.toArray n)) (hS : StrsAre vs ss) (hnd : ss.Nodup) (hlen : vs.length < 4096)
    (h : ∀ (out : Array Value) (ss' : List Str), StrsAre out.toList ss' → ss'.Perm ss → ss'.Pairwise slt → P (.done (.ret .none)) { s with heap := sortedHeap s.heap a vs out }) :
    wpAny (model prog w) A (Builtin.«list.sort» ⟨[.ref a], []⟩) P E s := by
  rw [list_sort_plain]
  have ha : a < s.heap.objs.size := Heap.lt_size ho
  refine wpAny_bind (listItems_at ho rfl ?_)
  refine wpAny_bind (listUpdate_at ho rfl ?_)
  obtain ⟨e1, ho1⟩ : ∃ e1, (s.heap.update a (Obj.mapSeq fun _ => #[])).get? a = some (seqObj "list" #[] e1) := ⟨_, get?_update_seq ho (fun _ => #[])⟩
  refine wpAny_bind (seqEpoch_at ho1 rfl ?_)
  have hsl : vs.length ≤ sizeLine := by rw [sizeLine_eq]; omega
  refine wpAny_bind (wpAny_newTuple ?_ (by simpa using hsl))
  refine wpAny_bind (wpAny_newList ?_)
  refine wpAny_holding ?_
  have ho6 : (((s.heap.update a (Obj.mapSeq fun _ => #[])).push (seqObj "tuple" vs.toArray 0)).push (seqObj "list" #[] 0)).get? a = some (seqObj "list" #[] e1) := by
    rw [Heap.get?_push_ne _ _ _ (by rw [size_push', Heap.size_update]; exact Nat.ne_of_lt (Nat.lt_succ_of_lt ha)), Heap.get?_push_ne _ _ _ (by rw [Heap.size_update]; exact Nat.ne_of_lt ha)]
    exact ho1
  show wpAny (model prog w) A _ P E { s with heap := ((s.heap.update a (Obj.mapSeq fun _ => #[])).push (seqObj "tuple" vs.toArray 0)).push (seqObj "list" #[] 0) }
  dsimp only
  have hsz : vs.toArray.size = vs.length := by simp
  have fin : ∀ st' : SortSt, (arrOf st').Perm (pairsOf vs) → Rise (rk ss) (arrOf st') 0 (pairsOf vs).size → P (.done (.ret .none)) { s with heap := sortedHeap s.heap a vs ((arrOf st').map (·.2)) } := by
    intro st' hp hr
    have hl : (arrOf st').toList.Perm (vs.zip vs) := by rw [← pairsOf_toList]; exact Array.perm_iff_toList_perm.mp hp
    have hmem : ∀ p, p ∈ (arrOf st').toList → p.1 = p.2 ∧ p.1 ∈ vs := fun p hp' => mem_zip_self (hl.mem_iff.mp hp')
    have hperm : ((arrOf st').map (·.2)).toList.Perm vs := by
      rw [Array.toList_map]
      have := hl.map Prod.snd
      rwa [List.map_snd_zip (Nat.le_refl _)] at this
    obtain ⟨ts, h1, h2⟩ := strsAre_perm hS hperm
    refine h _ ts h1 h2 ?_
    have hsz' := hp.size_eq
    have pw := Rise.pw (r := rk ss) (xs := arrOf st') (i := 0) (j := (pairsOf vs).size) (by omega) hr
    have e : ((arrOf st').extract 0 (pairsOf vs).size).toList = (arrOf st').toList := by rw [← hsz']; simp
    rw [e] at pw
    have e2 : ts = (arrOf st').toList.map (fun p => strOf p.1) := by
      rw [← h1.strs, Array.toList_map, List.map_map]
      exact List.map_congr_left fun p hp' => by rw [(hmem p hp').1]; rfl
    rw [e2]
    refine List.pairwise_map.mpr (List.Pairwise.imp_of_mem (fun {p q} hp' hq' hlt => ?_) pw)
    have : strOf p.1 ∈ ss := by rw [← hS.strs]; exact List.mem_map.mpr ⟨p.1, (hmem p hp').2, rfl⟩
    have := rst_lt (y := strOf q.1) this
    rw [decide_eq_true (show rst ss (strOf p.1) < rst ss (strOf q.1) from hlt)] at this
    exact of_decide_eq_true this.symm
  by_cases h2 : vs.toArray.size < 2
  · rw [if_pos h2, if_pos h2]
    refine wpAny_bind (wpAny_pure ?_)
    rw [StateT.run_pure]
    refine wpAny_bind (wpAny_pure ?_)
    dsimp only
    refine wpAny_bind (seqEpoch_at ho6 rfl ?_)
    refine wpAny_bind (listUpdate_at ho6 rfl ?_ (hsz2 := by rw [Array.size_map]; show (pairsOf vs).size ≤ _; rw [pairsOf_size, sizeLine_eq]; omega))
    simp only [bne_self_eq_false, Bool.false_eq_true, if_false]
    refine wpAny_pure (fin (SortSt.mk' general' (vs.toArray.zip vs.toArray) #[] 7 none) (Array.Perm.refl _) fun p q _ hpq hq => ?_)
    rw [pairsOf_size] at hq; omega
  · rw [if_neg h2, if_neg h2]
    obtain ⟨v₁, v₂, rest, rfl⟩ : ∃ v₁ v₂ rest, vs = v₁ :: v₂ :: rest := by
      match vs, hsz, h2 with
      | [], _, h2 => simp at h2
      | [_], _, h2 => simp at h2
      | v₁ :: v₂ :: rest, _, _ => exact ⟨v₁, v₂, rest, rfl⟩
    rw [keyKind_strs hS]
    refine wpAny_bind (wpAny_pure ?_)
    refine wpAny_bind (wpAny_mono (sort_runs (κ := oneType') (a₀ := pairsOf (v₁ :: v₂ :: rest)) (st := SortSt.mk' oneType' ((v₁ :: v₂ :: rest).toArray.zip (v₁ :: v₂ :: rest).toArray) #[] 7 none) (r := rk ss)
      (Q := fun _ st' => SI oneType' (pairsOf (v₁ :: v₂ :: rest)) st' ∧ Rise (rk ss) (arrOf st') 0 (pairsOf (v₁ :: v₂ :: rest)).size)
      (cmp_strs hS) (inj_strs hS hnd) ⟨rfl, rfl, Array.Perm.refl _⟩ rfl (by rw [pairsOf_size]; simp) fun st' a1 a2 => ⟨a1, a2⟩) ?_ fun _ _ e => e)
    rintro ⟨⟨⟩, st'⟩ s' ⟨rfl, hsi, hr⟩
    dsimp only
    refine wpAny_bind (seqEpoch_at ho6 rfl ?_)
    refine wpAny_bind (listUpdate_at ho6 rfl ?_ (hsz2 := by refine Nat.le_trans (Nat.le_of_eq ((Array.size_map ..).trans (hsi.perm.size_eq.trans (pairsOf_size _)))) ?_; rw [sizeLine_eq]; omega))
    rw [hsi.failed]
    simp only [bne_self_eq_false, Bool.false_eq_true, if_false]
    exact wpAny_pure (fin st' hsi.perm hr)

theorem hint_set {a : Addr} {Q : Bool → Shared → Prop} (hT : s.TypeIs (.ref a) "set") (h : Q false s) : wpAny (model prog w) A (Builtin.List.listLengthHint (.ref a)) Q E s := by
  unfold Builtin.List.listLengthHint
  refine wpAny_bind (wpAny_specialOf hT F.slot_set_len.lookup ?_)
  generalize hid : ("set.__len__" : String) = id0
  wp_delta
  rw [show splitId id0 = some ("set", "__len__") from by subst hid; decide +kernel]
  subst hid
  refine wpAny_bind (wpAny_isInstance (T := "set") (b := true) hT (by rw [isSubtype_type]; kernel_rfl) ?_)
  refine wpAny_ite_split (fun hab => absurd hab (by decide)) (fun _ => ?_)
  refine wpAny_ite_split (fun _ => ?_) (fun hab => absurd (by decide +kernel) hab)
  refine wpAny_bind (wpAny_typeOf hT ?_)
  exact wpAny_pure h

/-- the items of a set of strs -/
theorem collect_set {a : Addr} {xs : List Str} {Q : List Value → Shared → Prop} (hh : A.handled = none) (hS : SetS prog w s.heap a xs) (hne : xs ≠ []) (hb : xs.length < 4096)
    (h : ∀ (h' : Heap) (tk : Nat) (d : Drawn) (vs : List Value) (ss : List Str), StrsAre vs ss → ss.Perm xs → (∀ b o, s.heap.get? b = some o → h'.get? b = some o) → Q vs { s with heap := h', toks := tk, drawn := d }) :
    wpAny (model prog w) A (collect (.ref a)) Q E s := by
  obtain ⟨es, ep, t, ho, hrest⟩ := id hS
  have hlt : a < s.heap.objs.size := Heap.lt_size ho
  unfold collect
  refine wpAny_bind (wpAny_runValue (codeAny_builtin F.entry_proto_collect ?_))
  rw [Around.under_plainId F.plain_proto_collect _]
  show wpAny _ A.in1 (newList [] >>= fun l => again (.builtin "list.__iadd__" ⟨[l, .ref a], []⟩)) _ _ s
  refine wpAny_bind (wpAny_newObj_type ?_)
  refine wpAny_pure ⟨plainId_quiet F.plain_list_iadd _, codeAny_builtin F.entry_list_iadd ?_⟩
  rw [Around.under_plainId F.plain_list_iadd _]
  show wpAny _ A.in1 (Builtin.List.listExtendWith (.ref s.heap.objs.size) (.ref a) (.ref s.heap.objs.size)) _ _ { s with heap := s.heap.push (seqObj "list" #[] 0) }
  have hL : (s.heap.push (seqObj "list" #[] 0)).get? s.heap.objs.size = some (seqObj "list" #[] 0) := Heap.get?_push_size _ rfl
  have hS1 : SetS prog w (s.heap.push (seqObj "list" #[] 0)) a xs := hS.at fun o e => Heap.get?_push_of_some _ e
  have kp0 : ∀ b o, s.heap.get? b = some o → (s.heap.push (seqObj "list" #[] 0)).get? b = some o := fun b o e => Heap.get?_push_of_some _ e
  have hsz0 : (s.heap.push (seqObj "list" #[] 0)).objs.size = s.heap.objs.size + 1 := Heap.size_push ..
  generalize s.heap.push (seqObj "list" #[] 0) = h1 at hL hS1 kp0 hsz0 ⊢
  have hT : Shared.TypeIs { s with heap := h1 } (.ref a) "set" := ⟨_, kp0 _ _ ho, rfl⟩
  unfold Builtin.List.listExtendWith
  refine wpAny_bind (wpAny_typeOf hT ?_)
  have e1 : Builtin.List.listSameRef (.ref s.heap.objs.size) (.ref a) = false := by simp [Builtin.List.listSameRef]; exact fun e => Nat.ne_of_lt hlt e.symm
  have e2 : (Value.type "set" == Value.type "list") = false := by decide
  have e3 : (Value.type "set" == Value.type "tuple") = false := by decide
  simp only [e1, e2, e3, Bool.or_false, Bool.false_eq_true, if_false]
  refine wpAny_bind (set_iter (s := { s with heap := h1 }) hS1 hne hb fun I h2 d vs ss fp St q1 q2 q3 q4 q5 q6 q7 q8 => ?_)
  have hT2 : Shared.TypeIs { s with heap := h2, drawn := d } (.ref a) "set" := ⟨_, q3 _ _ (kp0 _ _ ho), rfl⟩
  refine wpAny_bind (wpAny_holding (hint_set hT2 ?_))
  have hL2 := q3 _ _ hL
  have hSf : s.heap.objs.size ∉ fp := fun hm => by
    rcases q5 _ hm with e | e
    · exact Nat.ne_of_lt hlt e.symm
    · have e' : h1.objs.size ≤ s.heap.objs.size := e
      rw [hsz0] at e'
      exact absurd e' (Nat.not_le.mpr (Nat.lt_succ_self _))
  have W := (q7 A.in1 (by simp [hh])).toS
  have hvn : vs.length ≤ sizeLine := by
    have := strsAre_len q1
    rw [this, q2.length_eq, sizeLine_eq]; omega
  have hIs : ∀ {b o}, s.heap.get? b = some o → b ≠ I := fun e e' => by have := kp0 _ _ e; rw [e', show h1.get? I = none from q4] at this; cases this
  have loop : ∀ (R : Result → Shared → Prop), (∀ s' acc' c', Moved [s.heap.objs.size, I] (fun a b => b = a) { s with heap := h2, drawn := d } s' → s'.heap.get? s.heap.objs.size = some { cls := .type "list", dict := none, data := .seq acc' c', slots := #[] } → acc'.toList = vs → R (.ok (.ret (.ref s.heap.objs.size))) s') → ∀ (h3 : Heap) (c : Nat), (∀ b o, b ≠ s.heap.objs.size → h2.get? b = some o → h3.get? b = some o) → h3.get? s.heap.objs.size = some (seqObj "list" #[] c) →
      codeAny (model prog w) A (.builtin "list.extend.loop" ⟨[.ref s.heap.objs.size, .ref I, .ref s.heap.objs.size], []⟩) R { s with heap := h3, drawn := d } := by
    intro R hR h3 c k3 hL3
    refine codeAny_extend_loopS W hvn _ hSf _ vs.length 0 { s with heap := h3, drawn := d } #[] c rfl (Nat.zero_le _) ((q7 A.in1 (by simp [hh])).frame 0 _ _ q8 fun b hb o e => k3 b o (fun e' => hSf (e' ▸ hb)) e) hL3 (ItemsOf.nil _) fun s' acc' c' hm hS' hacc => ?_
    refine hR s' acc' c' ⟨fun b o hb e => hm.heap b o hb (k3 b o (fun e' => hb (by simp [e'])) e), hm.gens, hm.drawn, hm.os, hm.toks⟩ hS' ?_
    apply List.ext_getElem?
    intro i
    rw [Array.getElem?_toList]
    by_cases hi : i < acc'.size
    · have := hacc.2 i _ (Array.getElem?_eq_getElem hi)
      rw [Array.getElem?_eq_getElem hi, this]
    · rw [Array.getElem?_eq_none (by omega), List.getElem?_eq_none (by rw [← hacc.1]; omega)]
  refine wpAny_ite_split (fun _ => ?_) (fun hab => absurd (by decide +kernel) hab)
  refine wpAny_bind (wpAny_rule ?_)
  refine wpAny_bind ?_
  show wpAny _ _ (updateSeq s.heap.objs.size (·.push .none) >>= fun _ => updateSeq s.heap.objs.size (·.pop)) _ _ _
  refine wpAny_bind (wpAny_updateSeq hL2 rfl ?_)
  have hL3 := Heap.get?_update_self (Obj.mapSeq (·.push Value.none)) hL2 rfl
  refine wpAny_updateSeq (hz := by seq_fits) hL3 rfl ?_
  have hL4 := Heap.get?_update_self (Obj.mapSeq (·.pop)) hL3 rfl
  refine wpAny_pure ⟨plainId_quiet F.plain_extend_loop _, loop _ (fun s' acc' c' hm hS' hacc => ?_) _ _ (fun b o hb e => (Heap.get?_update_other _ _ (Ne.symm hb)).trans ((Heap.get?_update_other _ _ (Ne.symm hb)).trans e)) hL4⟩
  show wpAny _ A (load s.heap.objs.size >>= _) _ _ s'
  refine wpAny_bind (wpAny_load hS' (wpAny_pure ?_))
  rw [Moved.eq_with hm, hacc]
  refine h s'.heap s'.toks d vs ss q1 q2 fun b o e => hm.heap b o ?_ (q3 b o (kp0 b o e))
  simp only [List.mem_cons, List.not_mem_nil, or_false, not_or]
  exact ⟨Nat.ne_of_lt (Heap.lt_size e), hIs e⟩

/-- sorted(set) -/
theorem sorted_set {a : Addr} {xs : List Str} {Q : Value → Shared → Prop} (hh : A.handled = none) (hS : SetS prog w s.heap a xs) (hne : xs ≠ []) (hnd : xs.Nodup) (hb : xs.length < 4096)
    (h : ∀ (D : Addr) (h' : Heap) (tk : Nat) (d : Drawn) (vs : List Value) (ss : List Str) (c : Nat), StrsAre vs ss → ss.Perm xs → ss.Pairwise slt → (∀ b o, s.heap.get? b = some o → h'.get? b = some o) → s.heap.get? D = none → h'.get? D = some (lisObj vs.toArray c) → Q (.ref D) { s with heap := h', toks := tk, drawn := d }) :
    wpAny (model prog w) A (call (.builtin "sorted") [.ref a]) Q E s := by
  refine Calls.call_function_entry kind_sorted plain_sorted entry_sorted (args_sorted1 _) ?_
  unfold Builtin.«sorted»
  refine wpAny_bind (m := checkCount "sorted" 1 1 _) (wpAny_pure ?_)
  refine wpAny_bind (collect_set (by simp [hh]) hS hne hb fun h1 tk d vs ss q1 q2 q3 => ?_)
  have hvl : vs.length < 4096 := by rw [strsAre_len q1, q2.length_eq]; exact hb
  refine wpAny_bind (wpAny_newList ?_ (by first | (simp; rw [sizeLine_eq]; omega) | (rw [sizeLine_eq]; omega)))
  have hoL : (h1.push (seqObj "list" vs.toArray 0)).get? h1.objs.size = some (seqObj "list" vs.toArray 0) := Heap.get?_push_size _ rfl
  refine wpAny_bind (wpAny_holding (wpAny_call_entry slot_list_sort ⟨_, hoL, rfl⟩ entry_list_sort (list_sort_strs hoL q1 (q2.nodup_iff.mpr hnd) hvl fun out ss' a1 a2 a3 => ⟨_, rfl, ?_⟩) (args_list_sort _)))
  refine wpAny_pure ⟨_, rfl, ?_⟩
  obtain ⟨c, hc⟩ := sortedHeap_at (out := out) hoL
  have hnone : s.heap.get? h1.objs.size = none := by
    cases e : s.heap.get? h1.objs.size with
    | none => rfl
    | some o => exact absurd (Heap.lt_size (q3 _ _ e)) (Nat.lt_irrefl _)
  refine h h1.objs.size _ tk d out.toList ss' c a1 (a2.trans q2) a3 (fun b o e => ?_) hnone hc
  have e1 := q3 b o e
  have hlt := Heap.lt_size e1
  rw [sortedHeap_old (Nat.ne_of_lt hlt) (by rw [size_push']; exact Nat.lt_succ_of_lt hlt)]
  exact Heap.get?_push_of_some _ e1
end
end Mine

-- part Gw40
namespace Mine

/-- the frame of a call with a closure -/
noncomputable def callEnvF (fd : FuncData) (L a : Addr) : Env := newEnv fd.scope L fd.globals fd.closure (fd.qualname ++ ".<locals>.") (some a) fd.code none fd.builtins

/-- a lambda's function with one free name -/
structure LamOkC (B : Bs) (a : Addr) (fd : FuncData) (body : Expr) (x : Str) (v : V) : Prop where
  at_ : ∃ o, B.h₀.get? a = some o ∧ o.data = .func fd
  body : fd.body = .expr body
  clo : ∃ c y, fd.closure = [(x, c)] ∧ B.h₀.IsCell c (some y) ∧ ∀ H h, Base B H h → Rep H h y v
  gl : fd.globals = mainGlobals
  bi : fd.builtins = builtinsNs
  cd : B.h₀.CodeRec fd.code fd.qualname
  co : fd.scope.isCoroutine = false
  gen : fd.scope.isGenerator = false
  kind : fd.scope.kind = .function
  nms : (fd.scope.names.all fun p => p.2 != .cell && (p.2 != .free || p.1 == x)) = true

noncomputable def lamScopeC (sc : Scope) (x : Str) : Bool := !sc.isCoroutine && !sc.isGenerator && sc.kind == .function && (sc.names.all fun p => p.2 != .cell && (p.2 != .free || p.1 == x))

section
variable {B : Bs} {n m : Nat} {st : Store}

theorem lam_plC {a : Addr} {fd : FuncData} {body : Expr} {p x : Str} {u v c : V} (F : LamOkC B a fd body x v) (hp : fd.scope.names.lookup p = some .local) (hxl : fd.scope.names.lookup x = some .free)
    (hb : ∀ y : Value, bindArgs fd ⟨[y], []⟩ = pure [(p, y)])
    (hx : ∀ L, PE B n (callEnvF fd L a) (fun y => if y = x then some v else if y = p then some u else none) st body c) : PL B (n + 1) st (fun xs => call (.ref a) xs) [u] c := fun A hA E s H ys S hr => by
  cases hr with
  | @cons y ys _ _ ry hr =>
  cases hr
  obtain ⟨o, ho, hdat⟩ := F.at_
  obtain ⟨cl, z, hclo, hcell, hrep⟩ := F.clo
  refine wpAny_call (kla_callFunE (by have := hA.dp; simp only [recursionLimit]; omega) (S.base.keep _ _ ho) hdat F.co F.gen F.body (F.cd.keeps S.base.keep) ?_)
  rw [hb y]
  refine wpAny_pure ?_
  have hnm := List.all_eq_true.mp F.nms
  refine wpAny_newFunctionEnv (fun q hq => by have := hnm q hq; simp at this; exact this.1) (fun q hq => by simp only [List.mem_cons, List.not_mem_nil, or_false] at hq; subst hq; exact hp) (fun h' hns hsb => ?_) F.kind
  have kp : ∀ b o, s.heap.get? b = some o → h'.get? b = some o := fun b o e => hsb.extBut b o (Nat.ne_of_lt (Heap.lt_size e)) (Heap.get?_push_of_some _ e)
  have S₁ := S.keeps (.of kp)
  have hkf : ∀ w, fd.scope.names.lookup w = some .cell ∨ fd.scope.names.lookup w = some .free → w = x := fun w hw => by
    rcases hw with hw | hw
    · have := hnm _ (mem_of_lookup hw); simp at this
    · have := hnm _ (mem_of_lookup hw); simpa using this
  have en : EnvRep (callEnvF fd s.heap.objs.size a) (fun y => if y = x then some v else if y = p then some u else none) H h' := by
    refine ⟨F.kind, F.gl, F.bi, ⟨_, hns, fun w q hw hq => ?_⟩, fun w q hw hq => ?_, fun w c hc => ?_, fun w hw => ?_, ?_⟩
    · have hw : fd.scope.names.lookup w = some .local := hw
      have hwx : w ≠ x := fun e => by subst e; rw [hxl] at hw; cases hw
      rw [if_neg hwx] at hq
      by_cases e : w = p
      · subst e
        rw [if_pos rfl] at hq; cases hq
        exact ⟨y, by simp, ry.ext (.of_full kp)⟩
      · rw [if_neg e] at hq; cases hq
    · have := hkf w hw
      subst this
      rw [if_pos rfl] at hq; cases hq
      exact ⟨cl, z, by show fd.closure.lookup w = _; rw [hclo]; simp, (hcell.keeps S.base.keep).keeps kp, hrep H h' S₁.base⟩
    · have hc : (w, c) ∈ fd.closure := hc
      rw [hclo] at hc
      simp only [List.mem_cons, List.not_mem_nil, or_false] at hc
      cases hc
      exact ⟨_, (hcell.keeps S.base.keep).keeps kp⟩
    · have := hkf w hw
      subst this
      exact ⟨cl, by show fd.closure.lookup w = _; rw [hclo]; simp⟩
    · show fd.closure.Pairwise _
      rw [hclo]; exact List.pairwise_singleton ..
  refine ⟨B.lim.keeps S₁.base.keep, kla_codeExpr ?_⟩
  have hA' : Rm n (A.deeper (callEnvF fd s.heap.objs.size a)) := hA.deeper _ F.gen F.co F.bi F.gl
  refine wpAny_mono (hx s.heap.objs.size (A.deeper _) hA' _ _ H ⟨S₁.base, S₁.sto, en⟩) (fun f s₂ ⟨k2, r2⟩ => ?_) fun _ _ e => e
  exact ⟨kp_trans ⟨_, _, rfl, .of kp⟩ k2, r2⟩
end
end Mine

-- part Gw41
namespace Mine

theorem repAll_strs {H H' : Hd} {h h' : Heap} : ∀ {vs : List Value} {ss : List Str}, RepAll H h vs (ss.map V.str) → RepAll H' h' vs (ss.map V.str)
  | _, [], .nil => .nil
  | _, s :: ss, .cons r1 r => by cases r1; exact .cons (.str ..) (repAll_strs r)
theorem strs_of_rep {H : Hd} {h : Heap} : ∀ {vs : List Value} {ss : List Str}, RepAll H h vs (ss.map V.str) → StrsAre vs ss
  | _, [], .nil => .nil
  | _, s :: ss, .cons r1 r => by cases r1; exact .cons _ _ (strs_of_rep r)
theorem rep_of_strs {H : Hd} {h : Heap} : ∀ {vs : List Value} {ss : List Str}, StrsAre vs ss → RepAll H h vs (ss.map V.str)
  | _, _, .nil => .nil
  | _, _, .cons x t r => .cons (.str x t) (rep_of_strs r)

section
variable {B : Bs} {n m : Nat} {st : Store}

theorem lamOkC_grow {H : Hd} {h : Heap} (S : SB B st H h) {f c : Addr} {q x : Str} {params : Arguments} {body : Expr} {scope : Scope} {pm cv ctv y : Value} {ss : List Str} (hok : lamScopeC scope x = true) (ho : h.get? f = some { cls := .type "function", data := .func (kla_fn "<lambda>" q params body scope [(x, c)] pm cv ctv) }) (hc : h.CodeRec cv q) (hcell : h.IsCell c (some y)) (hy : Rep H h y (.lst (ss.map V.str))) :
    LamOkC (B.grow S) f (kla_fn "<lambda>" q params body scope [(x, c)] pm cv ctv) body x (.lst (ss.map V.str)) := by
  have vis : ∀ b o, ¬ IsSeq o → ¬ TabO o → h.get? b = some o → (hideAll h (hidden B H)).get? b = some o := fun b o hs ht e => by
    refine hideAll_get _ e fun hb => ?_
    rcases List.mem_append.mp hb with hb | hb
    · obtain ⟨o', e', hs'⟩ := S.sto.live b ((List.mem_append.mp hb).elim .inl .inr)
      rw [e] at e'; cases e'; exact hs hs'
    · obtain ⟨t, htt, rfl⟩ := List.mem_map.mp hb
      obtain ⟨ps, h1, _⟩ := S.base.tab t htt
      rw [e] at h1; cases h1
      exact ht ⟨rfl, _, rfl⟩
  simp only [lamScopeC, Bool.and_eq_true, beq_iff_eq, Bool.not_eq_eq_eq_not, Bool.not_true] at hok
  refine ⟨⟨_, vis _ _ (by rintro ⟨_, _, e⟩; cases e) (by rintro ⟨_, _, e⟩; cases e) ho, rfl⟩, rfl, ⟨c, y, rfl, ?_, fun H' h' b' => ?_⟩, rfl, rfl, ?_, hok.1.1.1, hok.1.1.2, hok.1.2, hok.2⟩
  · obtain ⟨o, e, hd⟩ := hcell
    exact ⟨o, vis _ _ (by rintro ⟨_, _, e'⟩; rw [hd] at e'; cases e') (by rintro ⟨_, _, e'⟩; rw [hd] at e'; cases e') e, hd⟩
  · cases hy with
    | @lst a vs n l ha hoa hr =>
      have h0 : (hideAll h (hidden B H)).get? a = some (lisObj vs n) := hideAll_get _ hoa fun hb => by
        rcases List.mem_append.mp hb with hb | hb
        · exact ha ((List.mem_append.mp hb).elim .inl .inr)
        · obtain ⟨t, htt, e⟩ := List.mem_map.mp hb
          obtain ⟨ps, h1, _⟩ := S.base.tab t htt
          rw [e, hoa] at h1; cases h1
      exact .lst (fun hh => (b'.new a hh).no h0) (b'.keep _ _ h0) (repAll_strs hr)
  · obtain ⟨c, oc, vs, u, e1, e2, e3, e4⟩ := hc
    refine ⟨c, oc, vs, u, e1, ?_, e3, e4⟩
    refine hideAll_get _ e2 fun hb => ?_
    rcases List.mem_append.mp hb with hb | hb
    · obtain ⟨o', e', hs'⟩ := S.sto.live c ((List.mem_append.mp hb).elim .inl .inr)
      rw [e2] at e'; cases e'
      exact seq_notCode hs' ⟨vs, _, _, e3, e4⟩
    · obtain ⟨t, htt, rfl⟩ := List.mem_map.mp hb
      obtain ⟨ps, h1, h2, _⟩ := S.base.tab t htt
      rw [e2] at h1; cases h1; cases e3
      exact triples_noStr h2 (by simpa using e4)

theorem zip_mem {ks vs : List Value} (hl : ks.length = vs.length) {x : Keyed} (hx : x ∈ ks.toArray.zip vs.toArray) : ∃ i, i < vs.length ∧ x = (ks.getD i .none, vs.getD i .none) := by
  obtain ⟨i, hi, rfl⟩ := Array.mem_iff_getElem.mp hx
  have hi' : i < vs.length := by simp at hi; omega
  refine ⟨i, hi', ?_⟩
  have hk : i < ks.length := by omega
  simp [List.getD_eq_getElem?_getD, hi', hk]

/-- the sort itself and its end, no two of the keys alike -/
theorem end_okT {A : Around} {E : Value → Shared → Prop} {s : Shared} {D kS : Addr} {e1 c : Nat} {vs ks : List Value} {κ : SortKind} {r : Nat → Int} {ix : Value → Nat} {Q : PySem.Fin → Shared → Prop} (hlen : ks.length = vs.length) (h2 : 2 ≤ vs.length) (h64 : vs.length < 64) (hDk : D ≠ kS)
    (hD : s.heap.get? D = some (seqObj "list" #[] e1)) (hk : s.heap.get? kS = some (seqObj "list" ks.toArray c))
    (hkind : ∀ Q : SortKind → Shared → Prop, Q κ s → wpAny (model B.prog B.w) A (keyKind' ks.toArray) Q (fun _ _ => False) s)
    (hcmp : ∀ i j (C : Bool → Shared → Prop), i < vs.length → j < vs.length → C (decide (r i < r j)) s → wpAny (model B.prog B.w) A (keyLt' κ (ks.getD i .none) (ks.getD j .none)) C (fun _ _ => False) s)
    (hix : ∀ i, i < vs.length → ix (vs.getD i .none) = i) (hinj : ∀ i j, i < vs.length → j < vs.length → r i = r j → i = j)
    (h : ∀ (p : List Nat) h' e', p.Perm (List.range vs.length) → p.Pairwise (fun a b => r a ≤ r b) → (∀ b o, b ≠ D → b ≠ kS → s.heap.get? b = some o → h'.get? b = some o) → h'.get? D = some (seqObj "list" (p.map fun i => vs.getD i .none).toArray e') →
      Q (.done (.ret .none)) { s with heap := h' }) :
    wpAny (model B.prog B.w) A (ksk_end D false vs.toArray e1 (.ref kS) ks.toArray) Q E s := by
  have hn2 : ¬ vs.toArray.size < 2 := by rw [List.size_toArray]; omega
  unfold ksk_end
  simp only [Bool.false_eq_true, if_false]
  rw [if_neg hn2, if_neg hn2]
  refine wpAny_bind (wpAny_mono (hkind (fun κ' s' => κ' = κ ∧ s' = s) ⟨rfl, rfl⟩) (fun κ' s0 hq => ?_) fun _ _ x => x.elim)
  obtain ⟨rfl, rfl⟩ := hq
  have hmap : vs.map ix = List.range vs.length := List.ext_getElem (by simp) fun i h1 h2 => by
    have hi : i < vs.length := by simpa using h1
    have := hix i hi
    simpa [List.getD_eq_getElem?_getD, hi] using this
  have hsn : (ks.toArray.zip vs.toArray).toList.map (fun k => ix k.2) = List.range vs.length := by
    rw [← hmap]
    have : (ks.toArray.zip vs.toArray).toList.map (fun k : Keyed => ix k.2) = ((ks.zip vs).map Prod.snd).map ix := by simp
    rw [this, List.map_snd_zip (by omega)]
  have hcm : Ts.Cmp B.prog B.w A E s0 κ' (ks.toArray.zip vs.toArray) (fun k => r (ix k.2)) := by
    intro st x y Q hk hx hy hQ
    obtain ⟨i, hi, rfl⟩ := zip_mem hlen hx
    obtain ⟨j, hj, rfl⟩ := zip_mem hlen hy
    simp only [hix i hi, hix j hj] at hQ
    rw [lt'_eq]
    refine wpS_bind (wpS_get ?_)
    rw [hk]
    exact wpS_bind (wpS_lift (wpAny_attempt (wpAny_mono (hcmp i j (fun b s' => s' = s0 ∧ b = decide (r i < r j)) hi hj ⟨rfl, rfl⟩) (fun b s' q => by obtain ⟨rfl, rfl⟩ := q; exact ⟨rfl, wpS_pure hQ⟩) fun _ _ x => x.elim)))
  have hij : Ts.Inj (ks.toArray.zip vs.toArray) (fun k => r (ix k.2)) := by
    unfold Ts.Inj
    have e : (ks.toArray.zip vs.toArray).toList.map (fun k => r (ix k.2)) = (List.range vs.length).map r := by rw [← hsn, List.map_map]; rfl
    rw [e]
    exact List.pairwise_map.mpr (List.Pairwise.imp_of_mem (fun {a b} ha hb hne e => hne (hinj a b (by simpa using ha) (by simpa using hb) e)) List.nodup_range)
  have hsz : (ks.toArray.zip vs.toArray).size = vs.length := by simp [hlen]
  refine wpAny_bind (wpAny_mono (Ts.sort_runs (st := SortSt.mk' κ' (ks.toArray.zip vs.toArray) #[] 7 none) (Q := fun _ st' => Ts.SI κ' (ks.toArray.zip vs.toArray) st' ∧ Ts.Rise (fun k => r (ix k.2)) (arrOf st') 0 (ks.toArray.zip vs.toArray).size)
    hcm hij ⟨rfl, rfl, Array.Perm.refl _⟩ rfl (by omega) fun st' a1 a2 => ⟨a1, a2⟩) ?_ fun _ _ x => x)
  rintro ⟨⟨⟩, st'⟩ s' ⟨rfl, hsi, hr⟩
  have hperm := Array.perm_iff_toList_perm.mp hsi.perm
  have hpw := hr.pw (by rw [hsi.size]; exact Nat.le_refl _)
  rw [← hsi.size, show (arrOf st').extract 0 (arrOf st').size = arrOf st' by simp] at hpw
  have hout : ((arrOf st').map (·.2)) = List.toArray (((arrOf st').toList.map fun k => ix k.2).map fun i => vs.getD i Value.none) := by
    apply Array.toList_inj.mp
    rw [Array.toList_map, List.map_map]
    refine List.map_congr_left fun k hk => ?_
    obtain ⟨i, hi, rfl⟩ := zip_mem hlen (hsi.mem (by simpa using hk))
    simp only [Function.comp_apply, hix i hi]
  have s1 := Heap.SameBut.update s'.heap kS (Obj.mapSeq fun _ => (#[] : Array Value))
  have hD1 := s1.extBut _ _ hDk hD
  have hP : ((arrOf st').toList.map fun k => ix k.2).Perm (List.range vs.length) := hsn ▸ hperm.map _
  have hol : (((arrOf st').toList.map fun k => ix k.2).map fun i => vs.getD i Value.none).length = vs.length := by rw [List.length_map, hP.length_eq, List.length_range]
  have hS : ((arrOf st').toList.map fun k => ix k.2).Pairwise (fun a b => r a ≤ r b) := List.pairwise_map.mpr (hpw.imp fun h => Int.le_of_lt h)
  generalize (arrOf st').toList.map (fun k => ix k.2) = p at *
  generalize hO : p.map (fun i => vs.getD i Value.none) = out at *
  have s2 := Heap.SameBut.update (s'.heap.update kS (Obj.mapSeq fun _ => (#[] : Array Value))) D (Obj.mapSeq fun _ => List.toArray out)
  obtain ⟨c2, hc2⟩ : ∃ c2, ((s'.heap.update kS (Obj.mapSeq fun _ => (#[] : Array Value))).update D (Obj.mapSeq fun _ => List.toArray out)).get? D = some (seqObj "list" (List.toArray out) c2) := ⟨_, get?_update_seq hD1 fun _ => List.toArray out⟩
  unfold ksk_tail
  dsimp only
  rw [hout]
  simp only [Bool.false_eq_true, if_false]
  refine wpAny_bind (listUpdate_at hk rfl ?_ (by rw [List.size_toArray, sizeLine_eq]; omega) (Nat.zero_le _))
  refine wpAny_bind (wpAny_letGo ?_)
  refine wpAny_bind (seqEpoch_at hD1 rfl ?_)
  refine wpAny_bind (listUpdate_at hD1 rfl ?_ (Nat.zero_le _) (by rw [List.size_toArray, hol, sizeLine_eq]; omega))
  rw [hsi.failed]
  simp only [bne_self_eq_false, Bool.false_eq_true, if_false]
  exact wpAny_pure (h p _ c2 hP hS (fun b o h1 h2 e => s2.extBut b o h1 (s1.extBut b o h2 e)) (by rw [hO]; exact hc2))

/-- sorted with a key, of what gives these items -/
theorem sortedKey_run {A : Around} (hA : Rm (n + 2) A) {E : Value → Shared → Prop} {s : Shared} {H : Hd} {x : Value} {f : Addr} {l kvs out : List V} {κ : SortKind} {r : Nat → Int} {ix : Value → Nat} (S : SB B st H s.heap)
    (hcol : ∀ A', Rm n A' → ∀ (E : Value → Shared → Prop) (Q : List Value → Shared → Prop), (∀ h' tk ws, (∀ b o, s.heap.get? b = some o → h'.get? b = some o) → RepAll H h' ws l → Q ws { s with heap := h', toks := tk }) → wpAny (model B.prog B.w) A' (collect x) Q E s)
    (hlen : kvs.length = l.length) (h2 : 2 ≤ l.length) (h64 : l.length < 64)
    (hkey : ∀ (i : Nat) v k, l[i]? = some v → kvs[i]? = some k → PL B n st (fun xs => call (.ref f) xs) [v] k)
    (hkind : ∀ A, Rm n A → ∀ H (s : Shared) ks, RepAll H s.heap ks kvs → ∀ Q : SortKind → Shared → Prop, Q κ s → wpAny (model B.prog B.w) A (keyKind' ks.toArray) Q (fun _ _ => False) s)
    (hcmp : ∀ A, Rm n A → ∀ H (s : Shared) ks, RepAll H s.heap ks kvs → ∀ i j (C : Bool → Shared → Prop), i < l.length → j < l.length → C (decide (r i < r j)) s → wpAny (model B.prog B.w) A (keyLt' κ (ks.getD i .none) (ks.getD j .none)) C (fun _ _ => False) s)
    (hix : ∀ (H : Hd) (h : Heap) (i : Nat) x v, l[i]? = some v → Rep H h x v → ix x = i) (hinj : ∀ i j, i < l.length → j < l.length → r i = r j → i = j)
    (hout : ∀ p : List Nat, p.Perm (List.range l.length) → p.Pairwise (fun a b => r a ≤ r b) → p.map (fun i => l.getD i .none) = out) :
    wpAny (model B.prog B.w) A (call (.builtin "sorted") [x] [("key", .ref f)]) (fun z s' => KT B s s' ∧ Rep H s'.heap z (.lst out)) E s := by
  refine call_function_entry_kw kind_sorted plain_sorted entry_sorted (ksk_s1 _ _) ?_
  unfold Builtin.«sorted»
  refine wpAny_bind (m := checkCount "sorted" 1 1 _) (wpAny_pure ?_)
  have hA1 : Rm (n + 1) A.in1 := hA.in1
  refine wpAny_bind (hcol _ (hA1.mono (Nat.le_succ _)) _ _ fun h0 tk0 vs keep0 hr => ?_)
  have hvl := hr.length
  refine wpAny_bind (wpAny_newList ?_ (by rw [sizeLine_eq]; omega))
  have hoL : (h0.push (seqObj "list" vs.toArray 0)).get? h0.objs.size = some (seqObj "list" vs.toArray 0) := Heap.get?_push_size _ rfl
  have keep : ∀ b o, s.heap.get? b = some o → (h0.push (seqObj "list" vs.toArray 0)).get? b = some o := fun b o q => Heap.get?_push_of_some _ (keep0 b o q)
  have keep01 : ∀ b o, h0.get? b = some o → (h0.push (seqObj "list" vs.toArray 0)).get? b = some o := fun b o q => Heap.get?_push_of_some _ q
  have hDs : (h0.push (seqObj "list" vs.toArray 0)).objs.size = h0.objs.size + 1 := size_push' ..
  have nn : ∀ b, h0.objs.size ≤ b → s.heap.get? b = none := fun b hb => by
    cases e : s.heap.get? b with
    | none => rfl
    | some o => exact absurd (Heap.lt_size (keep0 _ _ e)) (Nat.not_lt.mpr hb)
  show wpAny _ _ _ _ _ { s with heap := h0.push (seqObj "list" vs.toArray 0), toks := tk0 }
  have hS1 : SB B st H (h0.push (seqObj "list" vs.toArray 0)) := S.keeps (.of keep)
  have hr1 := hr.ext (DKeep.of_full (H := H) keep01)
  generalize h0.push (seqObj "list" vs.toArray 0) = h1 at *
  refine wpAny_bind (wpAny_holding (wpAny_call_entry_kw slot_list_sort ⟨_, hoL, rfl⟩ entry_list_sort ?_ (ksk_l1 _ _)))
  show wpAny (model B.prog B.w) A.in1.in1 (Builtin.«list.sort» ⟨[.ref h0.objs.size], [(Str.ofString "key", .ref f)]⟩) _ _ _
  rw [ksk_t1]
  have hA2 : Rm n A.in1.in1 := hA.in1.in1
  have hD0 : s.heap.get? h0.objs.size = none := nn _ (Nat.le_refl _)
  have hk0 : s.heap.get? (h0.objs.size + 2) = none := nn _ (Nat.le_add_right _ _)
  have hDk : (h0.objs.size : Addr) ≠ h0.objs.size + 2 := Nat.ne_of_lt (Nat.lt_add_of_pos_right (by decide))
  unfold ksk_tree
  refine wpAny_bind (listItems_at hoL rfl ?_)
  have s1 := Heap.SameBut.update h1 h0.objs.size (Obj.mapSeq fun _ => (#[] : Array Value))
  obtain ⟨e1, ho1⟩ : ∃ e1, (h1.update h0.objs.size (Obj.mapSeq fun _ => (#[] : Array Value))).get? h0.objs.size = some (seqObj "list" #[] e1) := ⟨_, get?_update_seq hoL fun _ => #[]⟩
  refine wpAny_bind (listUpdate_at hoL rfl ?_ (by rw [List.size_toArray, sizeLine_eq]; omega) (Nat.zero_le _))
  refine wpAny_bind (seqEpoch_at ho1 rfl ?_)
  refine wpAny_bind (wpAny_newTuple ?_ (by show vs.length ≤ _; rw [sizeLine_eq]; omega))
  refine wpAny_bind (wpAny_newList ?_ (Nat.zero_le _))
  refine wpAny_holding ?_
  have hz2 : (h1.update h0.objs.size (Obj.mapSeq fun _ => (#[] : Array Value))).objs.size = h0.objs.size + 1 := by rw [Heap.size_update, hDs]
  have kh2 : KH B s.heap (h1.update h0.objs.size (Obj.mapSeq fun _ => (#[] : Array Value))) := (KH.of (B := B) keep).upd hD0 hoL ⟨_, _, rfl⟩ s1
  have kp12 : ∀ b o, b ≠ h0.objs.size → h1.get? b = some o → (h1.update h0.objs.size (Obj.mapSeq fun _ => (#[] : Array Value))).get? b = some o := fun b o hb e => s1.extBut b o hb e
  generalize h1.update h0.objs.size (Obj.mapSeq fun _ => (#[] : Array Value)) = g2 at *
  have hz3 : (g2.push (seqObj "tuple" vs.toArray 0)).objs.size = h0.objs.size + 2 := by rw [size_push', hz2]
  show wpAny (model B.prog B.w) A.in1.in1 (ksk_rest h0.objs.size (.ref f) false vs.toArray e1 (.ref (g2.push (seqObj "tuple" vs.toArray 0)).objs.size)) _ _ { s with heap := (g2.push (seqObj "tuple" vs.toArray 0)).push (seqObj "list" #[] 0), toks := tk0 }
  have kS4 : ((g2.push (seqObj "tuple" vs.toArray 0)).push (seqObj "list" #[] 0)).get? (h0.objs.size + 2) = some (seqObj "list" #[] 0) := by rw [← hz3]; exact Heap.get?_push_size _ rfl
  have hp4 : ∀ b o, g2.get? b = some o → ((g2.push (seqObj "tuple" vs.toArray 0)).push (seqObj "list" #[] 0)).get? b = some o := fun b o e => Heap.get?_push_of_some _ (Heap.get?_push_of_some _ e)
  have D4 := hp4 _ _ ho1
  have kh4 := kh2.trans (.of hp4)
  rw [hz3]
  have hr4 : RepAll ⟨H.hs, [h0.objs.size, h0.objs.size + 2] ++ H.xs⟩ ((g2.push (seqObj "tuple" vs.toArray 0)).push (seqObj "list" #[] 0)) vs l := by
    refine hr.ext ⟨⟨[], by simp⟩, fun a ha hn => ?_, fun b o hb hs e => ?_⟩
    · rcases ha with ha | ha
      · exact absurd (.inl ha) hn
      · rcases List.mem_append.mp ha with ha | ha
        · have hge : h0.objs.size ≤ a := by
            simp only [List.mem_cons, List.not_mem_nil, or_false] at ha
            rcases ha with rfl | rfl
            · exact Nat.le_refl _
            · exact Nat.le_add_right _ _
          cases e : h0.get? a with
          | none => rfl
          | some o => exact absurd (Heap.lt_size e) (Nat.not_lt.mpr hge)
        · exact absurd (.inr ha) hn
    · exact hp4 _ _ (kp12 b o (Nat.ne_of_lt (Heap.lt_size e)) (keep01 b o e))
  generalize (g2.push (seqObj "tuple" vs.toArray 0)).push (seqObj "list" #[] 0) = g4 at *
  obtain ⟨SB4, dk4⟩ := sim_more (Y := [h0.objs.size, h0.objs.size + 2]) S kh4 (fun a ha => by
    simp only [List.mem_cons, List.not_mem_nil, or_false] at ha
    rcases ha with rfl | rfl
    · exact hD0
    · exact hk0) (fun a ha => by
    simp only [List.mem_cons, List.not_mem_nil, or_false] at ha
    rcases ha with rfl | rfl
    · exact ⟨_, D4, _, _, rfl⟩
    · exact ⟨_, kS4, _, _, rfl⟩)
  refine keys_ok (s₀ := s) (s := { s with heap := g4, toks := tk0 }) (kvs := kvs) hA2 SB4 kh4 hD0 hk0 hDk hr4 D4 kS4 hlen h64 hkey fun h' tk ks c SB5 kh5 hr5 hks D5 kS5 => ?_
  have hkl := hks.length
  refine end_okT (s := { s with heap := h', toks := tk }) (κ := κ) (r := r) (ix := ix) (by omega) (by omega) (by omega) hDk D5 kS5 (fun Q hq => hkind _ hA2 _ _ _ hks Q hq) (fun i j C hi hj hc => hcmp _ hA2 _ _ _ hks i j C (by omega) (by omega) hc) (fun i hi => ?_) (fun i j hi hj => hinj i j (by omega) (by omega)) fun p h6 e6 hp1 hp2 kp6 D6 => ?_
  · have hx : vs[i]? = some (vs.getD i .none) := by rw [List.getD_eq_getElem?_getD, List.getElem?_eq_getElem hi]; rfl
    obtain ⟨v, hv, rv⟩ := hr.get' hx
    exact hix _ _ i _ v hv rv
  refine ⟨_, rfl, wpAny_pure ⟨_, rfl, ?_⟩⟩
  have kk : ∀ b o, ¬ Ex B b o → s.heap.get? b = some o → h6.get? b = some o := fun b o hx e => kp6 b o (fun e' => by subst e'; rw [hD0] at e; cases e) (fun e' => by subst e'; rw [hk0] at e; cases e) (kh5.keep b o hx e)
  have kh6 : KH B s.heap h6 := by
    have T6 : TabsOk B s.heap → TabsOk B h6 := fun T => tabs_ne (kh5.tab T) (W := fun b => b = h0.objs.size ∨ b = h0.objs.size + 2) (fun b o hb e => kp6 b o (fun e' => hb (.inl e')) (fun e' => hb (.inr e')) e) (fun b hb ⟨t, ht, e⟩ => by
      obtain ⟨ps, h1, _⟩ := T t ht
      rw [e] at h1
      rcases hb with rfl | rfl
      · rw [hD0] at h1; cases h1
      · rw [hk0] at h1; cases h1) fun b o hb e => by
      rcases hb with rfl | rfl
      · rw [D5] at e; cases e; exact seq_notCode ⟨_, _, rfl⟩
      · rw [kS5] at e; cases e; exact seq_notCode ⟨_, _, rfl⟩
    refine ⟨kk, T6, fun b o e => ?_⟩
    by_cases hx : Ex B b o
    · exact tab_live (T6 S.base.tab) hx
    · exact ⟨o, kk b o hx e⟩
  have hDH : ¬ H.has h0.objs.size := fun hh => by
    obtain ⟨o, e, _⟩ := S.sto.live _ hh
    rw [hD0] at e; cases e
  refine ⟨⟨h6, tk, rfl, kh6⟩, .lst (vs := (p.map fun i => vs.getD i .none).toArray) (n := e6) hDH D6 ?_⟩
  have hpl : ∀ i ∈ p, i < l.length := fun i hi => by
    have := hp1.mem_iff.mp hi
    rw [List.mem_range] at this; omega
  rw [← hout p (by rw [← hvl]; exact hp1) hp2]
  refine (RepAll.getD hr5 p hpl).ext ⟨⟨[], by simp⟩, fun a ha hn => ?_, fun b o hb hs e => ?_⟩
  · rcases ha with ha | ha
    · exact absurd (.inl ha) hn
    · exact absurd (.inr (List.mem_append_right _ ha)) hn
  · refine kp6 b o (fun e' => hb (.inr (List.mem_append_left _ (by simp [e'])))) (fun e' => hb (.inr (List.mem_append_left _ (by simp [e'])))) e
end
end Mine

-- part Gw42
namespace Mine
open Mine.Ts

noncomputable def klt (x y : Str × Int) : Prop := slt x.1 y.1 ∨ (x.1 = y.1 ∧ x.2 < y.2)
instance (x y : Str × Int) : Decidable (klt x y) := by unfold klt; infer_instance
theorem klt_irrefl (x : Str × Int) : ¬ klt x x := fun h => by rcases h with h | h; exact slt_irrefl _ h; omega
theorem klt_trans {x y z : Str × Int} (h1 : klt x y) (h2 : klt y z) : klt x z := by
  rcases h1 with h1 | ⟨e1, h1⟩ <;> rcases h2 with h2 | ⟨e2, h2⟩
  · exact .inl (slt_trans h1 h2)
  · exact .inl (e2 ▸ h1)
  · exact .inl (e1 ▸ h2)
  · exact .inr ⟨e1.trans e2, by omega⟩
theorem klt_total {x y : Str × Int} (h1 : ¬ klt x y) (h2 : ¬ klt y x) : x = y := by
  have e : x.1 = y.1 := slt_total (fun h => h1 (.inl h)) fun h => h2 (.inl h)
  have e2 : x.2 = y.2 := by
    have a1 : ¬ x.2 < y.2 := fun h => h1 (.inr ⟨e, h⟩)
    have a2 : ¬ y.2 < x.2 := fun h => h2 (.inr ⟨e.symm, h⟩)
    omega
  exact Prod.ext e e2
noncomputable def rankS (ks : List (Str × Int)) (x : Str × Int) : Int := ((ks.filter fun k => decide (klt k x)).length : Nat)
theorem rankS_lt {ks : List (Str × Int)} {x y : Str × Int} (hx : x ∈ ks) : decide (rankS ks x < rankS ks y) = decide (klt x y) := by
  by_cases h : klt x y
  · have := filter_lt (p := fun k => decide (klt k x)) (q := fun k => decide (klt k y)) (fun k hk => by simp only [decide_eq_true_eq] at hk ⊢; exact klt_trans hk h) (a := x) (by simp [klt_irrefl]) (by simpa using h) ks hx
    simp only [rankS, h, decide_true]
    exact decide_eq_true (by omega)
  · have := filter_le (p := fun k => decide (klt k y)) (q := fun k => decide (klt k x)) (fun k hk => by
      simp only [decide_eq_true_eq] at hk ⊢
      by_cases e : klt y x
      · exact klt_trans hk e
      · rw [klt_total h e]; exact hk) ks
    simp only [rankS, h, decide_false]
    exact decide_eq_false (by omega)

section
variable {B : Bs} {n m : Nat} {st : Store}

theorem pairS_of_rep {H : Hd} {h : Heap} {x : Value} {a : Str} {b : Int} (r : Rep H h x (.tup [.str a, .int b])) : ∃ ad q t u, x = .ref ad ∧ h.get? ad = some (tupObj #[.str a t, .int b u] q) := by
  cases r with
  | @tup ad vs q l ha ho hr =>
    obtain ⟨vl⟩ := vs
    cases hr with
    | cons r1 hr =>
      cases hr with
      | cons r2 hr =>
        cases hr; cases r1; cases r2
        exact ⟨ad, q, _, _, rfl, ho⟩

theorem tupsS_of_rep {H : Hd} {h : Heap} : ∀ {ks : List Value} {kz : List (Str × Int)}, RepAll H h ks (kz.map fun k => .tup [.str k.1, .int k.2]) → ∃ fs, KatTups h ks fs ∧ fs.length = kz.length ∧ ∀ v ∈ fs, ∃ i t, v = .str i t
  | _, [], .nil => ⟨[], .nil, rfl, by simp⟩
  | _, k :: kz, .cons r1 r => by
    obtain ⟨fs, h1, h2, h3⟩ := tupsS_of_rep (kz := kz) r
    obtain ⟨ad, q, t, u, rfl, ho⟩ := pairS_of_rep r1
    refine ⟨.str k.1 t :: fs, .cons ho rfl rfl rfl h1, by simp [h2], fun v hv => ?_⟩
    rcases List.mem_cons.mp hv with rfl | hv
    · exact ⟨_, _, rfl⟩
    · exact h3 v hv

theorem kind_pairsS {kz : List (Str × Int)} (hne : 0 < kz.length) (A : Around) (H : Hd) (s : Shared) (ks : List Value) (hr : RepAll H s.heap ks (kz.map fun k => .tup [.str k.1, .int k.2])) (Q : SortKind → Shared → Prop) (hq : Q (tuples' true) s) : wpAny (model B.prog B.w) A (keyKind' ks.toArray) Q (fun _ _ => False) s := by
  obtain ⟨fs, h1, h2, h3⟩ := tupsS_of_rep hr
  refine kat_kind (T := .type "str") h1 (by omega) (fun v hv => ?_) (by decide) hq
  obtain ⟨i, t, rfl⟩ := h3 v hv
  exact fun A Q E s _ hq => wpAny_pure hq

theorem lt_pairsS {kz : List (Str × Int)} (A : Around) (H : Hd) (s : Shared) (ks : List Value) (hr : RepAll H s.heap ks (kz.map fun k => .tup [.str k.1, .int k.2])) (i j : Nat) (x y : Str × Int) (hx : kz[i]? = some x) (hy : kz[j]? = some y) (C : Bool → Shared → Prop) (hc : C (decide (klt x y)) s) : wpAny (model B.prog B.w) A (keyLt' (tuples' true) (ks.getD i .none) (ks.getD j .none)) C (fun _ _ => False) s := by
  obtain ⟨vx, h1, r1⟩ := hr.get (i := i) (v := .tup [.str x.1, .int x.2]) (by simp [hx])
  obtain ⟨vy, h2, r2⟩ := hr.get (i := j) (v := .tup [.str y.1, .int y.2]) (by simp [hy])
  obtain ⟨ax, qx, tx, ux, rfl, hox⟩ := pairS_of_rep r1
  obtain ⟨ay, qy, ty, uy, rfl, hoy⟩ := pairS_of_rep r2
  rw [List.getD_eq_getElem?_getD, List.getD_eq_getElem?_getD, h1, h2]
  refine kat_lt hox rfl hoy rfl ?_
  refine kat_cons (wpAny_eqBool_str ?_)
  by_cases e1 : x.1 = y.1
  · rw [show decide (x.1 = y.1) = true from by simp [e1]]
    refine kat_yes (kat_cons (wpAny_eqBool_int ?_))
    have hns : ¬ slt x.1 y.1 := by rw [e1]; exact slt_irrefl _
    by_cases e2 : x.2 = y.2
    · rw [show (x.2 == y.2) = true from by simp [e2]]
      refine kat_yes (kat_nil ?_)
      have : decide (klt x y) = false := by simp [klt, hns, e2]
      rw [this] at hc
      exact hc
    · rw [show (x.2 == y.2) = false from by simp [e2]]
      refine kat_no ?_
      refine kat_one _ _ (lt_int ?_)
      have : decide (klt x y) = decide (x.2 < y.2) := by simp [klt, hns, e1, slt_irrefl]
      rw [this] at hc
      exact hc
  · rw [show decide (x.1 = y.1) = false from by simp [e1]]
    refine kat_no (oneLt_str ?_)
    have : decide (klt x y) = decide (x.1.cps.toList < y.1.cps.toList) := by simp [klt, e1, slt]
    rw [this] at hc
    exact hc

/-- a range's items -/
theorem collect_range {A : Around} {E : Value → Shared → Prop} {s : Shared} {r : Addr} {a b c : Int} {t u v : Tok} {k : Nat} {Q : List Value → Shared → Prop} (hh : A.handled = none) (hr : IsRange s.heap r a b c t u v) (hsmall : Builtin.Range.small a b c = true) (hn : Builtin.Range.rangeSize a b c = k) (hlen : k ≤ 2 ^ 24)
    (h : ∀ h' tk (ws : List Value), (∀ b o, s.heap.get? b = some o → h'.get? b = some o) → ws.length = k → (∀ (i : Nat) (v : Value), ws[i]? = some v → ∃ t, v = .int (a + i * c) t) → Q ws { s with heap := h', toks := tk }) :
    wpAny (model B.prog B.w) A (collect (.ref r)) Q E s := by
  unfold collect
  refine wpAny_bind (wpAny_runValue (codeAny_builtin F.entry_proto_collect ?_))
  rw [Around.under_plainId F.plain_proto_collect _]
  show wpAny _ A.in1 (newList [] >>= fun l => again (.builtin "list.__iadd__" ⟨[l, .ref r], []⟩)) _ _ s
  refine wpAny_bind (wpAny_newObj_type ?_)
  have hL : (s.heap.push { cls := .type "list", data := .seq #[] }).get? s.heap.objs.size = some { cls := .type "list", data := .seq #[] } := Heap.get?_push_size _ rfl
  refine wpAny_pure ⟨plainId_quiet F.plain_list_iadd _, codeAny_mono (R := fun r s' => r = .ok (.ret (.ref s.heap.objs.size)) ∧ ∃ h' tk acc' c', s' = { s with heap := h', toks := tk } ∧ (∀ b o, s.heap.get? b = some o → h'.get? b = some o) ∧ h'.get? s.heap.objs.size = some { cls := .type "list", dict := none, data := .seq acc' c', slots := #[] } ∧ ItemsOf (fun i v => ∃ t, v = .int (a + i * c) t) acc' k) (codeAny_builtin F.entry_list_iadd ?_) fun r s' hr => ?_⟩
  · rw [Around.under_plainId F.plain_list_iadd _]
    show wpAny _ A.in1 (Builtin.List.listExtendWith (.ref s.heap.objs.size) (.ref r) (.ref s.heap.objs.size)) _ _ { s with heap := s.heap.push { cls := .type "list", data := .seq #[] } }
    refine wpAny_extend_range (s := { s with heap := s.heap.push { cls := .type "list", data := .seq #[] } }) (R := fun r s' => r = .ok (.ret (.ref s.heap.objs.size)) ∧ ∃ h' tk acc' c', s' = { s with heap := h', toks := tk } ∧ (∀ b o, s.heap.get? b = some o → h'.get? b = some o) ∧ h'.get? s.heap.objs.size = some { cls := .type "list", dict := none, data := .seq acc' c', slots := #[] } ∧ ItemsOf (fun i v => ∃ t, v = .int (a + i * c) t) acc' k) hh (Heap.get?_push_of_some _ hr) hsmall hn hlen s.heap.objs.size _ 0 hL fun h' tk acc' c' hk hS' hacc => ?_
    exact ⟨rfl, h', tk, acc', c', rfl, fun b o e => hk b o (Nat.ne_of_lt (Heap.lt_size e)) (Heap.get?_push_of_some _ e), hS', hacc⟩
  · obtain ⟨rfl, h', tk, acc', c', rfl, hk, hS', hacc⟩ := hr
    show wpAny _ A (load s.heap.objs.size >>= _) _ _ { s with heap := h', toks := tk }
    refine wpAny_bind (wpAny_load hS' (wpAny_pure ?_))
    exact h h' tk acc'.toList hk (by simp [hacc.1]) fun i v hv => hacc.2 i v (by simpa using hv)

/-- what the site of a lambda with one free name needs -/
structure SiteC (B : Bs) (env : Env) (params : Arguments) (lscope : Scope) (t : Tab) (x : Str) : Prop where
  mem : t ∈ B.tabs
  code : env.code = .ref t.c
  qual : env.qual ++ "<lambda>" = t.q
  dflt : defaultsOf params env = ([], [])
  kind : env.kindOf x = some .cell
  clos : closOf env lscope.names [] = [(x, (env.cells.lookup x).getD 0)]
  free : ∀ y ∈ lscope.names, y.2 = .free → y.1 = x
  ok : lamScopeC lscope x = true

variable {env : Env} {ρ : Nm}

/-- sorted(range(..), key=lambda with one free name) -/
theorem pe_sortedRange {np np2 p2 pos kp : Pos} {e : Expr} {N : Nat} {params : Arguments} {lbody : Expr} {lscope : Scope} {lpos : Pos} {t : Tab} {x : Str} {ss : List Str} (key : Nat → Str × Int) (out : List Nat) (h1 : PE B (n + 2) env ρ st e (.int N)) (h2 : 2 ≤ N) (h64 : N < 64)
    (hvS : (B.mg "sorted").or (B.mb "sorted") = some (.builtin "sorted")) (hkS : env.kindOf "sorted" = some .globalImplicit) (hv : (B.mg "range").or (B.mb "range") = some (.type "range")) (hk : env.kindOf "range" = some .globalImplicit)
    (site : SiteC B env params lscope t x) (hx : ρ x = some (.lst (ss.map V.str)))
    (hlam : ∀ B', Like B B' → ∀ f c pm cv ctv, LamOkC B' f (kla_fn "<lambda>" t.q params lbody lscope [(x, c)] pm cv ctv) lbody x (.lst (ss.map V.str)) → ∀ i, i < N → PL B' n st (fun xs => call (.ref f) xs) [.int i] (.tup [.str (key i).1, .int (key i).2]))
    (hkinj : ∀ i j, key i = key j → i = j) (hout : ∀ p : List Nat, p.Perm (List.range N) → p.Pairwise (fun a b => ¬ klt (key b) (key a)) → p = out)
    (heS : starEach [.Call (.Name "range" np2) [e] [] p2] env = [(false, eval (.Call (.Name "range" np2) [e] [] p2) env)] := by rfl)
    (he : starEach [e] env = [(false, eval e env)] := by rfl) :
    PE B (n + 2) env ρ st (.Call (.Name "sorted" np) [.Call (.Name "range" np2) [e] [] p2] [⟨some "key", .Lambda params lbody lscope lpos, kp⟩] pos) (.lst (out.map fun (i : Nat) => V.int i)) := fun A hA E s H S => by
  refine wpAny_Call_ofName (ld_glob S hkS hvS ?_ (by decide))
  refine callWith_builtin_kwB (by rw [heS]; rfl) rfl ?_
  rw [heS]
  refine evalArgs_kwB rfl ?_
  show wpAny _ _ (spliced (backTo pos [(false, eval (.Call (.Name "range" np2) [e] [] p2) env)])) _ _ _
  rw [← heS]
  refine args_cons ?_ (by rw [heS]; rfl)
  refine callT hA S hv hk (pes_cons h1 pes_nil he) (fun xs s₁ k1 r1 => ?_) (by decide) he (fun _ => rfl)
  cases r1 with
  | cons r1 r =>
  cases r; cases r1
  rename_i tN
  refine call_range_1 (args_nil ?_)
  have S1 := S.keeps (kp_get k1)
  have kpush := kp_pushT (B := B) s₁ { cls := .type "range", data := .fields #[.int 0 s₁.toks, .int N tN, .int 1 (s₁.toks + 1)] } (s₁.toks + 2)
  have hR2 := IsRange.new s₁.heap 0 N 1 s₁.toks tN (s₁.toks + 1)
  have k2 := kp_trans k1 kpush
  change wpAny _ _ _ _ _ { s₁ with heap := s₁.heap.push { cls := .type "range", data := .fields #[.int 0 s₁.toks, .int N tN, .int 1 (s₁.toks + 1)] }, toks := s₁.toks + 2 }
  have S2 := S.keeps (kp_get k2)
  generalize hs2 : ({ s₁ with heap := s₁.heap.push { cls := .type "range", data := .fields #[.int 0 s₁.toks, .int N tN, .int 1 (s₁.toks + 1)] }, toks := s₁.toks + 2 } : Shared) = s₂ at *
  replace hR2 : IsRange s₂.heap s₁.heap.objs.size 0 N 1 s₁.toks tN (s₁.toks + 1) := by rw [← hs2]; exact hR2
  obtain ⟨c, hc0⟩ := S.en.has x (.inl site.kind)
  have hcl : closureFor lscope env = pure [(x, c)] := by
    rw [closureFor_eq fun y hy hf => ⟨c, by rw [site.free y hy hf]; exact hc0⟩, site.clos, hc0]; rfl
  refine wpAny_evalAll_cons (wpAny_bind (lam_eval S2 site.mem site.code site.qual site.dflt hcl fun f cv ctv h'' tk' kh hf ho' hcr => wpAny_bind (wpAny_standAt (wpAny_pure (wpAny_evalAll_nil ?_)))))
  have S3 := S2.keeps kh
  obtain ⟨c', y, e1, hcell, hrep⟩ := S3.en.cell x _ (.inl site.kind) hx
  rw [hc0] at e1
  cases e1
  have hL := lamOkC_grow S3.sb site.ok ho' hcr hcell hrep
  have hR3 : IsRange h'' s₁.heap.objs.size 0 N 1 s₁.toks tN (s₁.toks + 1) := kh.keep _ _ (fun ⟨_, hc, _⟩ => by cases hc) hR2
  have hk := hlam (B.grow S3.sb) (like_grow _) f c _ cv ctv hL
  refine wpAny_mono (sortedKey_run (B := B.grow S3.sb) (n := n) (st := st) (s := { s₂ with heap := h'', toks := tk' }) (H := H) (x := .ref s₁.heap.objs.size) (f := f) (l := (List.range N).map fun (i : Nat) => V.int i) (kvs := ((List.range N).map key).map fun k => .tup [.str k.1, .int k.2]) (out := out.map fun (i : Nat) => V.int i) (κ := tuples' true) (r := fun i => rankS ((List.range N).map key) (key i)) (ix := fun v => match v with | .int z _ => z.toNat | _ => 0) hA (sb_grow S3.sb) (fun A' hA' E' Q hQ => ?_) (by simp) (by simpa using h2) (by simpa using h64) (fun i v k hv hk' => ?_) (fun A hA H s ks hr Q hq => kind_pairsS (B := B.grow S3.sb) (by simp; omega) A H s ks hr Q hq) (fun A hA H s ks hr i j C hi hj hc => ?_) (fun H h i x v hv rv => ?_) (fun i j hi hj e => ?_) (fun p hp1 hp2 => ?_)) (fun z s₄ ⟨k4, r4⟩ => ⟨kp_trans (kp_trans k2 ⟨_, _, rfl, kh⟩) (kt_back S3.sb k4), r4⟩) fun _ _ e => e
  · refine collect_range (B := B.grow S3.sb) (k := N) hA'.hd hR3 (small_one (by omega) (by omega) (by omega) (by omega)) (by rw [rangeSize_one]; simp) (by omega) fun h' tk ws kp hlen hws => hQ h' tk ws kp (RepAll.of_get (by simp [hlen]) fun i x v hx' hv => ?_)
    obtain ⟨t, rfl⟩ := hws i x hx'
    have hi : i < N := by have := (List.getElem?_eq_some_iff.mp hx').1; omega
    simp [hi] at hv
    subst hv
    rw [show (0 : Int) + i * 1 = i by omega]
    exact .int ..
  · have hi : i < N := by have := (List.getElem?_eq_some_iff.mp hv).1; simpa using this
    simp [hi] at hv hk'
    subst hv; subst hk'
    exact hk i hi
  · simp only [List.length_map, List.length_range] at hi hj
    refine lt_pairsS (B := B.grow S3.sb) A H s ks hr i j (key i) (key j) (by simp [hi]) (by simp [hj]) C ?_
    rw [rankS_lt (List.mem_map.mpr ⟨i, by simpa using hi, rfl⟩)] at hc
    exact hc
  · have hi : i < N := by have := (List.getElem?_eq_some_iff.mp hv).1; simpa using this
    simp [hi] at hv
    subst hv
    cases rv
    exact Int.toNat_natCast i
  · simp only [List.length_map, List.length_range] at hi hj
    have m : ∀ k, k < N → key k ∈ (List.range N).map key := fun k hk => List.mem_map.mpr ⟨k, by simpa using hk, rfl⟩
    have a1 := rankS_lt (y := key j) (m i hi)
    have a2 := rankS_lt (y := key i) (m j hj)
    rw [decide_eq_false (by omega)] at a1 a2
    exact hkinj i j (klt_total (of_decide_eq_false a1.symm) (of_decide_eq_false a2.symm))
  · simp only [List.length_map, List.length_range] at hp1
    have hpi : ∀ i ∈ p, i < N := fun i hi => by have := hp1.mem_iff.mp hi; simpa using this
    have e1 : p = out := hout p hp1 (hp2.imp_of_mem fun {i j} hi hj hij => by
      have := rankS_lt (x := key j) (y := key i) (ks := (List.range N).map key) (List.mem_map.mpr ⟨j, by simpa using hpi j hj, rfl⟩)
      rw [decide_eq_false (by omega)] at this
      exact of_decide_eq_false this.symm)
    rw [← e1]
    refine List.map_congr_left fun i hi => ?_
    have := hpi i hi
    simp [List.getD_eq_getElem?_getD, this]
end
end Mine

-- part Gw43
namespace Mine

/-- a text of these letters -/
noncomputable def tx (l : List Nat) : Str := ⟨l.toArray⟩
theorem tx_cps (l : List Nat) : (tx l).cps.toList = l := by simp [tx]
theorem tx_len (l : List Nat) : (tx l).length = l.length := by simp [tx, Str.length]
theorem tx_inj {a b : List Nat} (h : tx a = tx b) : a = b := by have := congrArg (fun x : Str => x.cps.toList) h; simpa [tx] using this
theorem slt_tx {a b : List Nat} : slt (tx a) (tx b) ↔ a < b := by unfold slt; rw [tx_cps, tx_cps]

theorem idx_plain (lo hi : Option Int) (n : Nat) : Builtin.Str.strSliceIndices lo hi 1 n = (List.range (hi.elim n (clipAt n) - lo.elim 0 (clipAt n))).map (lo.elim 0 (clipAt n) + ·) := by
  rw [← sliceRange_one]
  have e := sliceBounds_plain lo hi n
  unfold Builtin.Str.strSliceIndices
  cases lo <;> cases hi <;> simp [clipAt_cast]
/-- a part of a text -/
noncomputable def sub (l : List Nat) (lo hi : Option Int) : List Nat := (l.drop (lo.elim 0 (clipAt l.length))).take (hi.elim l.length (clipAt l.length) - lo.elim 0 (clipAt l.length))
theorem sub_from (l : List Nat) {x : Int} (a : Nat) (hx : x = (a : Nat)) : sub l (some x) none = l.drop a := by
  subst hx
  unfold sub
  simp only [Option.elim, clipAt_nat]
  rcases Nat.le_total a l.length with h | h
  · rw [Nat.min_eq_left h, List.take_of_length_le (by simp)]
  · rw [Nat.min_eq_right h, List.drop_of_length_le (Nat.le_refl _), List.drop_of_length_le h]; simp
theorem sub_upto (l : List Nat) {x : Int} (b : Nat) (hx : x = (b : Nat)) : sub l none (some x) = l.take b := by
  subst hx
  unfold sub
  simp only [Option.elim, clipAt_nat, List.drop_zero, Nat.sub_zero]
  rcases Nat.le_total b l.length with h | h
  · rw [Nat.min_eq_left h]
  · rw [Nat.min_eq_right h, List.take_of_length_le (Nat.le_refl _), List.take_of_length_le h]
theorem sub_both (l : List Nat) {x y : Int} (a b : Nat) (hx : x = (a : Nat)) (hy : y = (b : Nat)) (hab : a ≤ b) : sub l (some x) (some y) = (l.drop a).take (b - a) := by
  subst hx; subst hy
  unfold sub
  simp only [Option.elim, clipAt_nat]
  rcases Nat.le_total a l.length with h | h
  · rw [Nat.min_eq_left h]
    rcases Nat.le_total b l.length with h' | h'
    · rw [Nat.min_eq_left h']
    · rw [Nat.min_eq_right h', List.take_of_length_le (by simp), List.take_of_length_le (by simp; omega)]
  · rw [Nat.min_eq_right h, List.drop_of_length_le (Nat.le_refl _), List.drop_of_length_le h]; simp

section
variable {B : Bs} {n m : Nat} {env : Env} {ρ : Nm} {st : Store}

theorem o_strItem {e i : Expr} {l : List Nat} {k : Int} {c : Nat} (h0 : 0 ≤ k) (hx : l[k.toNat]? = some c) (hfit : l.length < 2 ^ 62)
    (hs : ∀ o j, subscripted i false o j = operate [o, j] (getItem o j) := by intro _ _; rfl) : P2 B n st (subscriptTail e i) (.str (tx l)) (.int k) (.str (tx [c])) := fun A _ E s H x y S rx ry => by
  cases ry; cases rx
  have hlt : k.toNat < l.length := (List.getElem?_eq_some_iff.mp hx).1
  refine tail_any (typeIs_str ..) F.slot_str_getitem.lookup (P.getItem_str (c := c) (by simp; omega) ?_ ⟨kp_tok .., .str ..⟩) (hs _ _)
  have hj : seqIndex? k (tx l).length = some k.toNat := by
    rw [tx_len]; unfold seqIndex?
    simp; omega
  rw [hj]
  simpa [tx] using hx
theorem o_strLen {l : List Nat} (hfit : l.length < 2 ^ 62) : PL B n st (fun xs => call (.builtin "len") xs) [.str (tx l)] (.int l.length) := PL.one fun A _ E s H x S rx => by
  cases rx
  refine P.len_str (by rw [tx_len]; omega) ⟨kp_tok .., ?_⟩
  rw [tx_len]; exact .int ..
theorem o_strLt {a b : List Nat} {c : Bool} (h : decide (a < b) = c) : P2 B n st (compareOp .Lt) (.str (tx a)) (.str (tx b)) (.bool c) := fun A _ E s H x y S rx ry => by
  cases rx; cases ry
  refine P.lt_str ⟨kp_refl _, ?_⟩
  rw [tx_cps, tx_cps, h]; exact .bool _
theorem o_strEq {a b : List Nat} {c : Bool} (h : decide (a = b) = c) : P2 B n st (compareOp .Eq) (.str (tx a)) (.str (tx b)) (.bool c) := fun A _ E s H x y S rx ry => by
  cases rx; cases ry
  refine P.eq_str ⟨kp_refl _, ?_⟩
  rw [tx_cps, tx_cps, show (a == b) = c from by rw [← h]; by_cases e : a = b <;> simp [e]]; exact .bool _
theorem o_min2 {a b : Int} : PL B n st (fun xs => call (.builtin "min") xs) [.int a, .int b] (.int (if b < a then b else a)) := PL.two fun A hA E s H x y S rx ry => by
  cases rx; cases ry
  refine min_two_ints hA.hd fun h' tk hk => ⟨⟨h', tk, rfl, .of hk⟩, ?_⟩
  by_cases hc : b < a
  · rw [if_pos hc, if_pos hc]; exact .int ..
  · rw [if_neg hc, if_neg hc]; exact .int ..

/-- a slice of a text -/
theorem pe_sliceS {e : Expr} {lo hi : Option Expr} {p pos : Pos} {l : List Nat} {i j : Option Int} (h1 : PE B n env ρ st e (.str (tx l))) (h2 : PPart B n env ρ st lo i) (h3 : PPart B n env ρ st hi j) (hsz : l.length ≤ 4096) : PE B n env ρ st (.Subscript e (.Slice lo hi none p) pos) (.str (tx (sub l i j))) := fun A hA E s H S => by
  refine Subscript_ (wpAny_mono (h1 A hA E s H S) (fun x s₁ ⟨k1, r1⟩ => wpAny_Slice (wpAny_mono (h2 A hA E s₁ H (S.keeps (kp_get k1))) (fun y s₂ ⟨k2, r2⟩ => wpAny_mono (h3 A hA E s₂ H (S.keeps (kp_get (kp_trans k1 k2)))) (fun z s₃ ⟨k3, r3⟩ => ?_) fun _ _ e => e) fun _ _ e => e)) fun _ _ e => e)
  rw [evalPart_none]
  refine wpAny_pure ?_
  cases r1
  have kk := kp_trans k1 (kp_trans k2 k3)
  obtain ⟨l', hl1, hl2⟩ : ∃ l' : Option (Int × Tok), y = partValue l' ∧ l'.map (·.1) = i := by cases r2; exact ⟨none, rfl, rfl⟩; exact ⟨some (_, _), rfl, rfl⟩
  obtain ⟨u', hu1, hu2⟩ : ∃ l' : Option (Int × Tok), z = partValue l' ∧ l'.map (·.1) = j := by cases r3; exact ⟨none, rfl, rfl⟩; exact ⟨some (_, _), rfl, rfl⟩
  subst hl1; subst hu1
  refine tail_any (T := "str") (id := "str.__getitem__") (ops := [Value.ref s₃.heap.objs.size, _]) (typeIs_str ..) F.slot_str_getitem.lookup (wpAny_getItem_str_slice (l := l') (u := u') (st := none) ⟨_, Heap.get?_push_size _ rfl, rfl, rfl⟩ rfl ?_) rfl
  have kpush := kp_trans kk (kp_push (B := B) s₃ { cls := .type "slice", data := .fields #[partValue l', partValue u', .none] })
  have hpick : (slicePicked (tx l) l' u' none).filterMap ((tx l).cps[·]?) = sub l i j := by
    unfold slicePicked
    rw [hl2, hu2]
    show (Builtin.Str.strSliceIndices i j 1 (tx l).length).filterMap _ = _
    rw [tx_len, idx_plain, pick_run, tx_cps]; rfl
  have hplen : (slicePicked (tx l) l' u' none).length = (j.elim l.length (clipAt l.length) - i.elim 0 (clipAt l.length)) := by
    unfold slicePicked
    rw [hl2, hu2]
    show (Builtin.Str.strSliceIndices i j 1 (tx l).length).length = _
    rw [tx_len, idx_plain]; simp
  unfold sliceMade
  by_cases hw : (((none : Option (Int × Tok)).map (·.1)).getD 1 == 1 && (slicePicked (tx l) l' u' none).length == (tx l).length) = true
  · rw [if_pos hw]
    refine ⟨kpush, ?_⟩
    have hwl : (slicePicked (tx l) l' u' none).length = l.length := by simpa [tx_len] using hw
    have : sub l i j = l := by
      have hc : ∀ k, clipAt l.length k ≤ l.length := fun k => by have := clipAt_cast l.length k; omega
      have h0 : j.elim l.length (clipAt l.length) ≤ l.length := by cases j; exact Nat.le_refl _; exact hc _
      rw [hplen] at hwl
      unfold sub
      by_cases hl0 : l.length = 0
      · have : l = [] := List.eq_nil_of_length_eq_zero hl0
        subst this; simp
      · rw [show i.elim 0 (clipAt l.length) = 0 by omega, show j.elim l.length (clipAt l.length) = l.length by omega]; simp
    rw [this]; exact .str ..
  · rw [if_neg hw, hpick]
    refine ⟨?_, kp_trans kpush (kp_tok ..), .str ..⟩
    show (sub l i j).toArray.size ≤ sizeLine
    rw [List.size_toArray, sizeLine_eq]
    have : (sub l i j).length ≤ l.length := by unfold sub; simp; omega
    omega
end
end Mine

-- part Gw44
namespace Mine
open Mine.Ts
section
variable {B : Bs} {n m : Nat} {env : Env} {ρ : Nm} {st : Store} {Φ : Fl → Nm → Store → Prop} {Ψ : V → Store → Prop}

theorem foldl_rep (items : Array Value) : ∀ k : Nat, (List.foldl (fun x1 x2 => x1 ++ x2) #[] (List.replicate k items)).toList = (List.replicate k items.toList).flatten := by
  have aux : ∀ (k : Nat) (acc : Array Value), (List.foldl (fun x1 x2 => x1 ++ x2) acc (List.replicate k items)).toList = acc.toList ++ (List.replicate k items.toList).flatten := by
    intro k
    induction k with
    | zero => intro acc; simp
    | succ k ih => intro acc; rw [List.replicate_succ, List.foldl_cons, ih, List.replicate_succ]; simp
  intro k
  have := aux k #[]
  simpa using this
theorem RepAll.rep {H : Hd} {h : Heap} {vs : List Value} {l : List V} (r : RepAll H h vs l) : ∀ k : Nat, RepAll H h (List.replicate k vs).flatten (List.replicate k l).flatten
  | 0 => .nil
  | k + 1 => by rw [List.replicate_succ, List.replicate_succ, List.flatten_cons, List.flatten_cons]; exact r.append (RepAll.rep r k)

theorem mul_any {A : Around} {E : Value → Shared → Prop} {s : Shared} {l : Addr} {items : Array Value} {k : Nat} {x : Int} {u : Tok} {Q : Value → Shared → Prop}
    (hl : s.heap.get? l = some { cls := .type "list", dict := none, data := .seq items k, slots := #[] }) (hlo : -(2 ^ 63 : Int) ≤ x) (hhi : x < 2 ^ 63) (hsz : items.size * x.toNat ≤ 2 ^ 24)
    (h : Q (.ref s.heap.objs.size) { s with heap := s.heap.push { cls := .type "list", data := .seq (List.foldl (fun x1 x2 => x1 ++ x2) #[] (List.replicate (if items.isEmpty = true then 0 else x.toNat) items)) } }) :
    wpAny (model B.prog B.w) A (binaryOp .Mult (.ref l) (.int x u)) Q E s :=
  wpAny_binaryOp_repeat_ref (T := "list") (U := "int") (by decide) ⟨_, hl, rfl⟩ (fun s' => typeIs_int s' x u) noFill_list_mul F.fills_int_mul F.slot_int_rmul repeat_list F.slot_int_index.lookup
    (call_meets F.slot_int_rmul (typeIs_int s x u) F.entry_int_rmul (F.args_int_rmul_2 _ _) (int___rmul___int_list x u l items k)
      ⟨hl, rfl, ⟨_, hl, rfl⟩, call_meets F.slot_list_mul ⟨_, hl, rfl⟩ F.entry_list_mul (F.args_list_mul_2 _ _)
        (AutoListH.list___mul___list_int_3 l items k x u (by simp [Builtin.List.listFitsIndex]; omega) (by omega) (by simp [Builtin.List.listTooLong, sizeLine]; omega)) ⟨hl, h⟩⟩)

/-- a list times a number -/
theorem o_mulL {a : V} {l : List V} {k : Nat} (hl : lis st a = some l) (hne : l ≠ []) (hsz : l.length * k ≤ 2 ^ 24) (hk : k < 2 ^ 62) : P2 B n st (binaryOp .Mult) a (.int k) (.lst (List.replicate k l).flatten) := fun A _ E s H x y S rx ry => by
  cases ry with
  | int _ u =>
  obtain ⟨ad, vs, q, rfl, ho, hr⟩ := lis_at (B := B) S.sto rx hl
  have hvs := hr.size
  have hem : vs.isEmpty = false := by
    rw [Array.isEmpty_eq_false_iff]; rintro rfl
    cases l with
    | nil => exact hne rfl
    | cons => simp at hvs
  obtain ⟨x, hx⟩ : ∃ x : Int, x = k := ⟨_, rfl⟩
  rw [← hx]
  refine mul_any (k := q) ho (by omega) (by omega) (by rw [hvs, hx, Int.toNat_natCast]; exact hsz) ⟨kp_push .., .lst (n := 0) (notMem_size S.sto) (Heap.get?_push_size _ rfl) ?_⟩
  rw [hem, hx]
  simp only [Bool.false_eq_true, if_false, Int.toNat_natCast, foldl_rep]
  exact (hr.rep k).ext (kp_dk (B := B) (kp_push s _) H)

/-- the place of a str in a list -/
theorem o_indexS {a : V} {ns : List (List Nat)} {x : List Nat} {j : Nat} (hl : lis st a = some (ns.map fun t => V.str (tx t))) (hj : ns[j]? = some x) (hno : ∀ i y, i < j → ns[i]? = some y → y ≠ x) (hsz : ns.length < 2 ^ 62) :
    PL B n st (fun xs => call (.builtin "list.index") xs) [a, .str (tx x)] (.int j) := PL.two fun A hA E s H y z S ry rz => by
  obtain ⟨ad, vs, q, rfl, ho, hr⟩ := lis_at (B := B) S.sto ry hl
  cases rz with
  | str _ t =>
    have hlen := hr.size
    simp only [List.length_map] at hlen
    have hjl : j < ns.length := (List.getElem?_eq_some_iff.mp hj).1
    have hat : ∀ (i : Nat) (v : Value), vs[i]? = some v → ∃ y t, ns[i]? = some y ∧ v = .str (tx y) t := fun i v hv => by
      obtain ⟨w, hw, rw'⟩ := hr.get' (i := i) (x := v) (by simpa using hv)
      simp only [List.getElem?_map] at hw
      cases hn : ns[i]? with
      | none => rw [hn] at hw; cases hw
      | some y => rw [hn] at hw; cases hw; cases rw'; exact ⟨y, _, rfl, rfl⟩
    refine call_meets F.slot_list_index (isList_of ho).typeIs F.entry_list_index (F.args_list_index_2 _ _)
      (MeetsSeq.list_index ad vs q (.str (tx x) t) (fun v => match v with | .str y _ => y.cps.toList == (tx x).cps.toList | _ => false) (fun v hv => ?_) j (by omega) (by omega) ?_ ?_) ⟨ho, kp_tok .., .int ..⟩
    · obtain ⟨i, hi, rfl⟩ := Array.mem_iff_getElem.mp hv
      obtain ⟨y, u, _, e⟩ := hat i vs[i] (Array.getElem?_eq_getElem hi)
      rw [e]
      exact SeqRoads2.EqGives.str (tx y) (tx x) u t
    · obtain ⟨y, u, e1, e⟩ := hat j vs[j] (Array.getElem?_eq_getElem (by omega))
      rw [hj] at e1; cases e1
      rw [e]; simp
    · intro i hi hlt
      obtain ⟨y, u, e1, e⟩ := hat i vs[i] (Array.getElem?_eq_getElem hi)
      have := hno i y hlt e1
      rw [e]; simp [tx_cps, this]

theorem tx_app (a b : List Nat) : tx a ++ tx b = tx (a ++ b) := by
  show (⟨(tx a).cps ++ (tx b).cps⟩ : Str) = _
  simp [tx]
theorem join_tx (ts : List (List Nat)) : Txt.join (tx []) (ts.map tx) = tx ts.flatten := by
  show Builtin.Str.glued (tx []) (ts.map tx) = _
  rw [PySem.StrLaws.glued_eq_join]
  have aux : ∀ ts : List (List Nat), Str.join (tx []) (ts.map tx) = tx ts.flatten := by
    intro ts
    induction ts with
    | nil => rfl
    | cons a ts ih =>
      cases ts with
      | nil => simp [Str.join]
      | cons b ts =>
        show tx a ++ tx [] ++ Str.join (tx []) ((b :: ts).map tx) = _
        rw [ih, tx_app, tx_app]; simp
  exact aux ts
/-- a method of a str, one argument that is a list -/
theorem pe_joinS {o : Expr} {apos cpos : Pos} {e : Expr} {a : V} {ts : List (List Nat)} (ho : PE B n env ρ st o (.str (tx []))) (ha : PE B n env ρ st e a) (hl : lis st a = some (ts.map fun t => V.str (tx t))) (hw : (ts.map (·.length)).sum + ts.length ≤ 1048576)
    (hbase : attributeBase o "join" env (eval o env) = eval o env := by rfl)
    (hfew : ((backTo cpos (starEach [e] env)).all (fun x => !x.1) && (backToKw cpos (keywordEach [] env)).all (fun x => x.1.isSome)
      && decide ([e].length + ([] : List Keyword).length + (if ([] : List Keyword).isEmpty then 0 else 1) < 30)) = true := by rfl)
    (hline : (apos.endLine == cpos.line) = true := by rfl) (he : starEach [e] env = [(false, eval e env)] := by rfl) :
    PE B n env ρ st (.Call (.Attribute o "join" apos) [e] [] cpos) (.str (tx ts.flatten)) := fun A hA E s H S => by
  refine wpAny_Call_method hbase hfew hline F.plainAttrs_str F.slot_str_join rfl (wpAny_mono (ho A hA E s H S) (fun ov s₁ ⟨k1, r1⟩ => ?_) fun _ _ e => e)
  have S₁ := S.keeps (kp_get k1)
  cases r1
  refine ⟨typeIs_str .., fun a ha => (by cases ha), ?_⟩
  refine callWith_method1 (args_cons (wpAny_mono (ha A hA E s₁ H S₁) (fun x s₂ ⟨k2, r2⟩ => args_nil ?_) fun _ _ e => e) he) he rfl
  have S₂ := S₁.keeps (kp_get k2)
  obtain ⟨ad, vs, q, rfl, hob, hr⟩ := lis_at (B := B) S₂.sto r2 hl
  have hS : StrsAre vs.toList (ts.map tx) := strs_of_rep (H := H) (h := s₂.heap) (by rw [List.map_map]; exact hr)
  refine join_listW (ys := ts.map tx) (isList_of hob) hS (by rw [tx_len]; simp) (by rw [List.map_map]; simpa [Function.comp_def, tx_len] using hw) fun t' k => ?_
  refine ⟨kp_trans k1 (kp_trans k2 (kp_tok ..)), ?_⟩
  have : Txt.join (tx []) (ts.map tx) = tx ts.flatten := join_tx ts
  rw [this]
  exact .str ..
end
end Mine

-- part Gw45
namespace Mine
open Mine.Ts

inductive PMDq (B : Bs) (env : Env) (m : Nat) (ρ : Nm) (Ψ : V → Store → Prop) (H : Hd) (s : Shared) (x : Value) (s' : Shared) : Prop
  | mk (v : V) (st' : Store) (H' : Hd) (h' : Heap) (tk : Nat) (d : Drawn) (e : s' = { s with heap := h', toks := tk, drawn := d }) (hp : Ψ v st') (S : Sim B env ρ st' H' h') (cs : CS B m H s.heap H' h') (r : Rep H' h' x v)
inductive EXDq (B : Bs) (env : Env) (m : Nat) (Φ : Fl → Nm → Store → Prop) (H : Hd) (s : Shared) (f : Flow) (s' : Shared) : Prop
  | mk (fl : Fl) (ρ' : Nm) (st' : Store) (H' : Hd) (h' : Heap) (tk : Nat) (d : Drawn) (e : s' = { s with heap := h', toks := tk, drawn := d }) (hp : Φ fl ρ' st') (hf : FlRep H' h' f fl) (S : Sim B env ρ' st' H' h') (es : ES B env m H s.heap H' h')
inductive OMDq (B : Bs) (m : Nat) (Ψ : V → Store → Prop) (H : Hd) (s : Shared) (x : Value) (s' : Shared) : Prop
  | mk (v : V) (st' : Store) (H' : Hd) (h' : Heap) (tk : Nat) (d : Drawn) (e : s' = { s with heap := h', toks := tk, drawn := d }) (hp : Ψ v st') (S : SB B st' H' h') (cs : CS B m H s.heap H' h') (r : Rep H' h' x v)
/-- as PM, EX1, EX, but what was drawn may change -/
noncomputable def PMD (B : Bs) (n : Nat) (env : Env) (m : Nat) (ρ : Nm) (st : Store) (e : Expr) (Ψ : V → Store → Prop) : Prop :=
  ∀ A, Rm n A → ∀ E s H, Sim B env ρ st H s.heap →
    wpAny (model B.prog B.w) A (eval e env) (PMDq B env m ρ Ψ H s) E s
noncomputable def EX1D (B : Bs) (n : Nat) (env : Env) (m : Nat) (ρ : Nm) (st : Store) (c : Stmt) (Φ : Fl → Nm → Store → Prop) : Prop :=
  ∀ A, Rm n A → OwnF B env → ∀ E s H, Sim B env ρ st H s.heap →
    wpAny (model B.prog B.w) A (exec c env) (EXDq B env m Φ H s) E s
noncomputable def EXD (B : Bs) (n : Nat) (env : Env) (m : Nat) (ρ : Nm) (st : Store) (cs : List Stmt) (Φ : Fl → Nm → Store → Prop) : Prop :=
  ∀ A, Rm n A → OwnF B env → ∀ E s H, Sim B env ρ st H s.heap →
    wpAny (model B.prog B.w) A (execs cs env) (EXDq B env m Φ H s) E s

section
variable {B : Bs} {n : Nat} {env : Env} {m : Nat} {ρ : Nm} {st : Store} {Φ : Fl → Nm → Store → Prop} {Ψ : V → Store → Prop}

theorem EX1.d {c : Stmt} (h : EX1 B n env m ρ st c Φ) : EX1D B n env m ρ st c Φ := fun A hA O E s H S =>
  wpAny_mono (h A hA O E s H S) (fun f s₁ ⟨fl, ρ', st', H', h', tk, e, q1, q2, q3, q4⟩ => ⟨fl, ρ', st', H', h', tk, s.drawn, e, q1, q2, q3, q4⟩) fun _ _ e => e
noncomputable def ThenD (B : Bs) (n : Nat) (env : Env) (m : Nat) (rest : List Stmt) (Φ : Fl → Nm → Store → Prop) : Fl → Nm → Store → Prop
  | .next, ρ, st => EXD B n env m ρ st rest Φ
  | f, ρ, st => Φ f ρ st
theorem exd_consD {c : Stmt} {rest : List Stmt} (h : EX1D B n env m ρ st c (ThenD B n env m rest Φ)) : EXD B n env m ρ st (c :: rest) Φ := fun A hA O E s H S => by
  refine wpAny_execs_cons (wpAny_mono (h A hA O E s H S) (fun f s₁ q => ?_) fun _ _ e => e)
  obtain ⟨fl, ρ', st', H', h', tk, d, rfl, hp, hf, S', es⟩ := q
  cases hf with
  | next =>
    refine wpAny_mono (hp A hA O E _ H' S') (fun f s₂ q => ?_) fun _ _ e => e
    obtain ⟨fl, ρ'', st'', H'', h'', tk', d', rfl, hp', hf', S'', es'⟩ := q
    exact ⟨fl, ρ'', st'', H'', h'', tk', d', rfl, hp', hf', S'', es.trans es' S'.sb S'.en.live⟩
  | brk => exact ⟨_, ρ', st', H', h', tk, d, rfl, hp, .brk, S', es⟩
  | cont => exact ⟨_, ρ', st', H', h', tk, d, rfl, hp, .cont, S', es⟩
  | ret r => exact ⟨_, ρ', st', H', h', tk, d, rfl, hp, .ret r, S', es⟩
theorem exd_cons {c : Stmt} {rest : List Stmt} (h : EX1 B n env m ρ st c (ThenD B n env m rest Φ)) : EXD B n env m ρ st (c :: rest) Φ := exd_consD h.d
theorem EXD.mono {cs : List Stmt} {Φ' : Fl → Nm → Store → Prop} (h : EXD B n env m ρ st cs Φ) (hp : ∀ f ρ st, Φ f ρ st → Φ' f ρ st) : EXD B n env m ρ st cs Φ' := fun A hA O E s H S =>
  wpAny_mono (h A hA O E s H S) (fun f s₁ ⟨fl, ρ', st', H', h', tk, d, e, hq, r1, r2, r3⟩ => ⟨fl, ρ', st', H', h', tk, d, e, hp _ _ _ hq, r1, r2, r3⟩) fun _ _ e => e
/-- sorted(set(..)) of strs -/
theorem pmd_sortedSet {np np2 p2 pos : Pos} {e : Expr} {a : V} {ss : List Str} (out : List Str) (h1 : PE B n env ρ st e a) (hl : lis st a = some (ss.map V.str)) (hne : ss ≠ []) (hb : ss.length + 1 < 4096)
    (hvS : (B.mg "sorted").or (B.mb "sorted") = some (.builtin "sorted")) (hkS : env.kindOf "sorted" = some .globalImplicit) (hv : (B.mg "set").or (B.mb "set") = some (.type "set")) (hk : env.kindOf "set" = some .globalImplicit)
    (hu : ∀ ts : List Str, ts.Nodup → (∀ x, x ∈ ts ↔ x ∈ ss) → ts.Pairwise slt → ts = out) (hp : Ψ (.lst (out.map V.str)) st)
    (heS : starEach [.Call (.Name "set" np2) [e] [] p2] env = [(false, eval (.Call (.Name "set" np2) [e] [] p2) env)] := by rfl)
    (he : starEach [e] env = [(false, eval e env)] := by rfl) :
    PMD B n env m ρ st (.Call (.Name "sorted" np) [.Call (.Name "set" np2) [e] [] p2] [] pos) Ψ := fun A hA E s H S => by
  refine wpAny_Call_ofName (ld_glob S hkS hvS ?_ (by decide))
  refine callWith_builtin1 (args_cons ?_ (by rw [heS]; rfl)) (by rw [heS]; rfl) rfl
  refine callT hA S hv hk (pes_cons h1 pes_nil he) (fun xs s₁ k1 r1 => ?_) (by decide) he (fun _ => rfl)
  cases r1 with
  | cons r1 r =>
  cases r
  have S1 := S.keeps (kp_get k1)
  obtain ⟨ad, vs, q, rfl, ho, hr⟩ := lis_at (B := B) S1.sto r1 hl
  have hS := strs_of_rep hr
  have hsz : vs.size = ss.length := by have := hr.size; simpa using this
  refine call_set_strs hA.hd (isList_of ho) hS (by rw [hsz]; unfold scanBound; omega) fun h2 tk2 hset kp2 => args_nil ?_
  have hfn : fm (fun i => ss.getD i ⟨#[]⟩) vs.size ≠ [] := by
    have hm : ss.getD 0 ⟨#[]⟩ ∈ fm (fun i => ss.getD i ⟨#[]⟩) vs.size := fm_mem.mpr ⟨0, by rw [hsz]; exact List.length_pos_iff.mpr hne, rfl⟩
    exact fun e => by rw [e] at hm; cases hm
  have hmem : ∀ x, x ∈ fm (fun i => ss.getD i ⟨#[]⟩) vs.size ↔ x ∈ ss := fun x => by
    rw [fm_mem, hsz]
    constructor
    · rintro ⟨j, hj, rfl⟩
      rw [List.getD_eq_getElem?_getD, List.getElem?_eq_getElem hj]; exact List.getElem_mem hj
    · intro hx
      obtain ⟨j, hj, rfl⟩ := List.mem_iff_getElem.mp hx
      exact ⟨j, hj, by rw [List.getD_eq_getElem?_getD, List.getElem?_eq_getElem hj]; rfl⟩
  have hS2 : SB B st H h2 := S1.sb.keeps (.of kp2)
  refine sorted_set (s := { s₁ with heap := h2, toks := tk2 }) hA.hd hset hfn (fm_nodup ..) (by have := fm_len (fun i => ss.getD i ⟨#[]⟩) vs.size; omega) fun D h3 tk3 d3 ws ts c q1 q2 q3 kp3 hD hD3 => ?_
  have hts : ts = out := hu ts (q2.nodup_iff.mpr (fm_nodup ..)) (fun x => by rw [q2.mem_iff, hmem]) q3
  subst hts
  have kh : KH B s.heap h3 := (kp_get k1).trans ((KH.of kp2).trans (.of kp3))
  obtain ⟨h1', tk1', rfl, _⟩ := k1
  refine ⟨_, st, H, h3, tk3, d3, rfl, hp, S.keeps kh, .of_keeps kh, .lst (n := c) (fun hh => ?_) hD3 (by simpa using rep_of_strs q1)⟩
  obtain ⟨o, e, _⟩ := hS2.sto.live _ hh
  rw [show h2.get? D = none from hD] at e; cases e

theorem x_assignD {x : Str} {px pos : Pos} {e : Expr} (h : PMD B n env m ρ st e (fun v st' => Φ .next (upd ρ x v) st')) (hk : env.kindOf x = some .local ∨ env.kindOf x = some .cell) (hs : swapsWith e (some (.Name x px)) pos.line env = pure false := by rfl) :
    EX1D B n env m ρ st (.Assign [.Name x px] e pos) Φ := fun A hA O E s H S => by
  refine wpAny_Assign_Name (wpAny_mono (h A hA E s H S) (fun y s₁ q => ?_) fun _ _ e => e) hs
  obtain ⟨v, st', H', h', tk, d, rfl, hp, S', cs, r⟩ := q
  exact st_name (xs := [x]) S' (O.own _) (by simp) hk r fun h'' tk' S'' kp => ⟨.next, _, st', H', h'', tk', d, rfl, hp, .next, S'', cs.es.trans (es_wrt kp) S'.sb S'.en.live⟩

/-- a call of a def: its body under its own frame -/
theorem fn_coreD {a : Addr} {fd : FuncData} {body : List Stmt} {names : List Str} {vs ws : List V} {kw : List Value → List (Str × Value)} {pos : List Value → List Value} (F : FnOk B a fd body) (hp : paramsOk fd.scope names = true) (hlen : names.length = ws.length)
    (hb : ∀ H h xs, SB B st H h → RepAll H h xs vs → ∃ ys, (∀ S, peek B.K S (bindArgs fd ⟨pos xs, kw xs⟩) = some (names.zip ys)) ∧ RepAll H h ys ws)
    (hx : ∀ L, EXD B n (callEnvC fd L a) m (fun x => (names.zip ws).lookup x) st body (fun fl _ st' => Ψ (retOf fl) st')) :
    ∀ A, Rm0 (n + 1) A → ∀ E s H xs, SB B st H s.heap → RepAll H s.heap xs vs →
    wpAny (model B.prog B.w) A (call (.ref a) (pos xs) (kw xs)) (OMDq B m Ψ H s) E s := fun A hA E s H xs S r => by
  obtain ⟨o, ho, hdat⟩ := F.at_
  obtain ⟨ys, hbind, hr⟩ := hb H s.heap xs S r
  have hKX : B.K.In s.heap := B.KX.keeps S.base.keep
  refine wpAny_call (codeAny_call_function (by have := hA.dp; simp only [recursionLimit]; omega) (hKX _ _ ho) hdat F.co F.gen F.body (F.cd.keeps S.base.keep) ?_)
  refine (Looks.of_peek (M := model B.prog B.w) hKX (hbind _)).here ?_
  have hplen : names.length = ys.length := by rw [hlen, hr.length]
  have hnm : (names.zip ys).map (·.1) = names := List.map_fst_zip (Nat.le_of_eq hplen)
  simp only [paramsOk, Bool.and_eq_true, List.all_eq_true, Bool.or_eq_true, beq_iff_eq] at hp
  have hnd : ((names.zip ys).map (·.1)).Nodup := by rw [hnm]; exact nodupB_iff hp.1
  have hkinds : ∀ x ∈ names.zip ys, fd.scope.names.lookup x.1 = some .local ∨ (fd.scope.names.lookup x.1 = some .cell ∧ ((cellsFrom (s.heap.objs.size + 1) fd.scope.names []).lookup x.1).isSome = true) := fun x hx => by
    have hx' : x.1 ∈ names := by rw [← hnm]; exact List.mem_map.mpr ⟨x, hx, rfl⟩
    rcases hp.2 _ hx' with h | h
    · exact .inl h
    · obtain ⟨c, hc⟩ := cellsFrom_has (m := s.heap.objs.size + 1) (mem_of_lookup h)
      exact .inr ⟨h, by rw [hc]; rfl⟩
  rw [F.clo]
  refine wpAny_newFunctionEnv_cells F.kind hkinds fun env he s₁ x => ?_
  have he' : env = callEnvC fd s.heap.objs.size a := he
  have hLC : env.locals = s.heap.objs.size := by rw [he']; rfl
  have hcells : env.cells = cellsFrom (s.heap.objs.size + 1) fd.scope.names [] := by rw [he']; rfl
  have hscope : env.scope = fd.scope := by rw [he']; rfl
  obtain ⟨h₁, tk₁, e₁⟩ := x.toInCall.same
  have kp : ∀ b o, s.heap.get? b = some o → s₁.heap.get? b = some o := x.toInCall.keep
  have S₁ := S.keeps (.of kp)
  have hkindOf : ∀ y, env.kindOf y = fd.scope.names.lookup y := fun y => by show env.scope.names.lookup y = _; rw [hscope]
  have newo : ∀ b ∈ own env, s.heap.objs.size ≤ b := fun b hb => by
    rcases List.mem_cons.mp hb with rfl | hb
    · rw [hLC]; exact Nat.le_refl _
    · obtain ⟨p, hp, rfl⟩ := List.mem_map.mp hb
      have := x.above p.1 p.2 hp
      rw [hLC] at this
      exact Nat.le_of_lt this
  have none0 : ∀ b ∈ own env, s.heap.get? b = none := fun b hb => by
    cases e : s.heap.get? b with
    | none => rfl
    | some o => exact absurd (Heap.lt_size e) (Nat.not_lt.mpr (newo b hb))
  have en : EnvRep env (fun x => (names.zip ws).lookup x) H s₁.heap := by
    refine ⟨by rw [hscope]; exact F.kind, by rw [he']; exact F.gl, by rw [he']; exact F.bi, ⟨_, x.toInCall.ns, fun y v hy hv => ?_⟩, fun y v hy hv => ?_, fun y c hc => ?_, fun y hy => ?_, x.apart⟩
    · obtain ⟨z, hz, rz⟩ := lookup_zip_rep hr hv
      refine ⟨z, ?_, rz.ext (.of_full kp)⟩
      rw [bindL_lookup _ _ _ _ hy hnd, hz]; rfl
    · obtain ⟨z, hz, rz⟩ := lookup_zip_rep hr hv
      have hmem : y ∈ names := by rw [← hnm]; exact List.mem_map.mpr ⟨_, mem_of_lookup hz, rfl⟩
      have hcell : fd.scope.names.lookup y = some .cell := by
        rcases hp.2 y hmem with h | h
        · rw [hkindOf, h] at hy; rcases hy with hy | hy <;> cases hy
        · exact h
      obtain ⟨c, hc⟩ := cellsFrom_has (m := s.heap.objs.size + 1) (mem_of_lookup hcell)
      rw [← hcells] at hc
      refine ⟨c, z, hc, ?_, rz.ext (.of_full kp)⟩
      have := x.cell y c hc
      rw [bindC_lookup _ _ _ _ (by rw [hkindOf, hcell]; simp) hnd, hz] at this
      exact this
    · have hl : env.cells.lookup y = some c := by
        rw [hcells] at hc ⊢
        exact cellsFrom_lookup (nodupB_iff F.nd) hc
      exact ⟨_, x.cell y c hl⟩
    · have hcell : fd.scope.names.lookup y = some .cell := by
        rw [hkindOf] at hy
        rcases hy with hy | hy
        · exact hy
        · have := List.all_eq_true.mp F.nofree _ (mem_of_lookup hy)
          simp at this
      obtain ⟨c, hc⟩ := cellsFrom_has (m := s.heap.objs.size + 1) (mem_of_lookup hcell)
      exact ⟨c, by rw [hcells]; exact hc⟩
  have hownF : OwnF B env := fun b hb => S.base.free (none0 b hb)
  refine ⟨B.lim.keeps S₁.base.keep, codeAny_func ?_⟩
  have hA' : Rm n (A.deeper env) := hA.deeper env (by rw [hscope]; exact F.gen) (by rw [hscope]; exact F.co) (by rw [he']; exact F.bi) (by rw [he']; exact F.gl)
  rw [he'] at hA' hownF en
  subst e₁
  rw [he']
  refine wpAny_mono (hx s.heap.objs.size (A.deeper _) hA' hownF _ _ H ⟨S₁.base, S₁.sto, en⟩) (fun f s₂ q => ?_) fun _ _ e => e
  obtain ⟨fl, ρ', st', H', h', tk, d, rfl, hp', hf, S', es⟩ := q
  refine ⟨retOf fl, st', H', h', tk, d, rfl, hp', S'.sb, ⟨es.pre, es.xs, fun b hb hn => ?_, fun b o hm hx e => es.keep b o (fun ho => ?_) hm hx (kp b o e)⟩, ?_⟩
  · have := es.new b hb hn
    cases e : s.heap.get? b with
    | none => rfl
    | some o => have e' := kp b o e; rw [this] at e'; cases e'
  · have := none0 b (he' ▸ ho)
    rw [e] at this; cases this
  · cases hf with
    | next => exact .none
    | brk => exact .none
    | cont => exact .none
    | ret r => exact r

/-- the claim's end from the walk of the law's body -/
theorem law_endD {s₁ : Shared} (hB : ∀ b o, ¬ B.isT b → s₁.heap.get? b = some o → B.h₀.get? b = some o) (hB' : ∀ b o, B.h₀.get? b = some o → s₁.heap.get? b = some o) (hT : ∀ t ∈ B.tabs, s₁.heap.TableAt t.c t.P #[]) (hg : s₁.gens = #[]) {c : ClaimW} {cl : Str → Option Addr} {mean : ExcName → Option Value} {args : List WData} {a : Addr} {fd : FuncData} {body : List Stmt} {sc : Addr} {vs : List Value} {ns : List Int}
    (F : FnOk B a fd body) (hp : paramsOk fd.scope ["script"] = true) (hb : ∀ x S, peek B.K S (bindArgs fd ⟨[x], []⟩) = some [(("script" : Str), x)]) (hl : s₁.heap.get? sc = some (lisObj vs.toArray 0)) (hI : IntsAre vs ns)
    (hx : ∀ L, EXD B n (callEnvC fd L a) 0 (fun y => ((["script"] : List Str).zip [V.lst (ns.map V.int)]).lookup y) [] body (fun fl _ _ => retOf fl = .bool true)) (hn : n ≤ 400)
    (hr : ∀ cls, c.raises args cls = false) (hpost : c.post args (.bool true) args = true) :
    wpAny (model B.prog B.w) callerA (call (.ref a) [.ref sc]) (fun v s' => GoodWG c cl mean args s₁ (.ok (.ret v)) s') (fun e s' => GoodWG c cl mean args s₁ (.error e) s') s₁ := by
  have rm : Rm0 (n + 1) callerA := ⟨rfl, by show 1 + claimMargin + (n + 1) ≤ 890; simp only [claimMargin]; omega, by show 4 + 20 * (n + 1) ≤ 9000; omega, ⟨_, rfl⟩⟩
  have sb : SB B [] ⟨[], []⟩ s₁.heap := ⟨⟨hB', fun a ha => (by rcases ha with ha | ha <;> cases ha), fun t ht => ⟨#[], (hT t ht).2, trivial, fun pos cv e => by simp [codeAmong] at e⟩⟩, ⟨rfl, List.nodup_nil, fun k b l hk => by simp at hk, fun b hb => (by rcases hb with hb | hb <;> cases hb), fun b hb => (by cases hb)⟩⟩
  have rp : RepAll ⟨[], []⟩ s₁.heap [.ref sc] [V.lst (ns.map V.int)] := .one (.lst (by rintro (h | h) <;> cases h) hl (repAll_ints hI))
  refine wpAny_mono (fn_coreD (m := 0) (st := []) (vs := [V.lst (ns.map V.int)]) (Ψ := fun v _ => v = .bool true) (names := ["script"]) (ws := [V.lst (ns.map V.int)]) (pos := fun xs => xs) (kw := fun _ => []) F hp rfl (fun H h xs S r => ?_) hx callerA rm _ s₁ ⟨[], []⟩ [.ref sc] sb rp) (fun z s' q => ?_) fun _ _ e => e
  · cases r with
    | cons r1 r => cases r; exact ⟨[_], fun S => hb _ S, .one r1⟩
  · obtain ⟨v, st', H', h', tk, d, rfl, rfl, SB', cs, rz⟩ := q
    cases rz
    refine ⟨.inl ⟨_, _, [], rfl, hr, ReadsW.bool true, hpost, fun _ => ⟨List.nodup_nil, fun _ hm => (nomatch hm)⟩⟩, ⟨fun b o e => ?_, fun b o e => ?_⟩, rfl, .of_eq hg⟩
    · by_cases ht : B.isT b
      · obtain ⟨t, ht, rfl⟩ := ht
        obtain ⟨ps, h1, _⟩ := SB'.base.tab t ht
        have h2 := (hT t ht).2
        rw [e] at h2; cases h2
        exact .inr (.inl ⟨(hT t ht).isCodeTable, rfl, #[], ps, rfl, by simpa using h1⟩)
      · exact .inl (SB'.base.keep b o (hB b o ht e))
    · by_cases ht : B.isT b
      · obtain ⟨t, ht, rfl⟩ := ht
        obtain ⟨ps, h1, _⟩ := SB'.base.tab t ht
        exact ⟨_, h1⟩
      · exact ⟨o, SB'.base.keep b o (hB b o ht e)⟩
end
end Mine

-- part L2a
open_top hd for PySem.Challenge.rw_dm0011_02

-- part B2
namespace Mine

structure L2 (B : Bs) : Prop where
  hK : B.K = hd.heap_39 B.w.params
  hT : B.tabs = [⟨41, 39, "law.<locals>.<lambda>"⟩]

section
variable {B : Bs} {n m : Nat} {st : Store}

theorem L2.top (h : L2 B) : hasTop B.K = true := by rw [h.hK]; kernel_rfl
theorem L2.like {B' : Bs} (h : L2 B) (l : Like B B') : L2 B' := ⟨by rw [l.K, l.w]; exact h.hK, by rw [l.tabs]; exact h.hT⟩
theorem g_b {x : Str} {v : Value} (h : L2 B) (hg : gname (hd.heap_39 B.w.params) x = none) (hb : bootBuiltins x = some v) (hx : x ≠ "__name__") : (B.mg x).or (B.mb x) = some v := glob_b h.top (by rw [h.hK]; exact hg) hb hx
theorem g_g {x : Str} {v : Value} (h : L2 B) (hg : gname (hd.heap_39 B.w.params) x = some v) : B.mg x = some v := glob_g h.top (by rw [h.hK]; exact hg)
theorem f_ok (h : L2 B) (a : Addr) (hb : fnOkB (hd.heap_39 B.w.params) a = true) : FnOk B a (fdOf (hd.heap_39 B.w.params) a) (bodyOf (fdOf (hd.heap_39 B.w.params) a)) := by
  have := fnOk_of (B := B) (a := a) (by rw [h.hK]; exact hb)
  rw [h.hK] at this; exact this
theorem g_len (h : L2 B) : (B.mg "len").or (B.mb "len") = some (.builtin "len") := g_b h (by kernel_rfl) (by decide +kernel) (by decide)

/-- the measure of a search -/
noncomputable def gap (ρ : Nm) (_ : Store) : Nat := match ρ "lo", ρ "hi" with
  | some (.int lo), some (.int hi) => (hi - lo).toNat
  | _, _ => 0
theorem gap_eq {ρ : Nm} {st : Store} {lo hi : Int} (h1 : ρ "lo" = some (.int lo)) (h2 : ρ "hi" = some (.int hi)) : gap ρ st = (hi - lo).toNat := by unfold gap; rw [h1, h2]

/-- the first default of a def -/
noncomputable def dfl (K : Frag) (a : Addr) : Value := match (fdOf K a).defaults with
  | .ref t => (match K.lookup t with | some ⟨_, _, .seq vs _, _⟩ => vs.getD 0 .none | _ => .none)
  | _ => .none

/-- where a search stands -/
inductive LI (a x kv : V) (N r : Nat) (st : Store) (ρ : Nm) (st' : Store) : Prop
  | mk (lo hi : Int) (n1 : ρ "lo" = some (.int lo)) (n2 : ρ "hi" = some (.int hi)) (n3 : ρ "a" = some a) (n4 : ρ "x" = some x) (n5 : ρ "key" = some kv) (e : st' = st) (b1 : 0 ≤ lo) (b2 : lo ≤ r) (b3 : (r : Int) ≤ hi) (b4 : hi ≤ N)
theorem bs_mid {lo hi : Int} {N : Nat} (b1 : 0 ≤ lo) (h : lo < hi) (b4 : hi ≤ N) : ∃ m : Nat, (lo + hi).fdiv 2 = (m : Int) ∧ lo ≤ m ∧ (m : Int) < hi ∧ m < N := by
  have hmid : (lo + hi).fdiv 2 = (lo + hi) / 2 := by rw [Int.fdiv_eq_ediv_of_nonneg _ (by decide)]
  rw [hmid]
  exact ⟨((lo + hi) / 2).toNat, by omega, by omega, by omega, by omega⟩
theorem LI.up {a x kv : V} {N r m : Nat} {ρ : Nm} {lo hi : Int} (n1 : ρ "lo" = some (.int lo)) (n2 : ρ "hi" = some (.int hi)) (n3 : ρ "a" = some a) (n4 : ρ "x" = some x) (n5 : ρ "key" = some kv) (b3 : (r : Int) ≤ hi) (b4 : hi ≤ N) (m1 : lo ≤ m) (m2 : (m : Int) < hi) (ht : m < r) :
    LI a x kv N r st (upd (upd ρ "mid" (.int (m : Int))) "lo" (.int ((m : Int) + 1))) st ∧ gap (upd (upd ρ "mid" (.int (m : Int))) "lo" (.int ((m : Int) + 1))) st < gap ρ st :=
  ⟨⟨_, _, nm_eq, nm_ne (nm_ne n2), nm_ne (nm_ne n3), nm_ne (nm_ne n4), nm_ne (nm_ne n5), rfl, by omega, by omega, b3, b4⟩, by rw [gap_eq nm_eq (nm_ne (nm_ne n2)), gap_eq n1 n2]; omega⟩
theorem LI.dn {a x kv : V} {N r m : Nat} {ρ : Nm} {lo hi : Int} (n1 : ρ "lo" = some (.int lo)) (n2 : ρ "hi" = some (.int hi)) (n3 : ρ "a" = some a) (n4 : ρ "x" = some x) (n5 : ρ "key" = some kv) (b1 : 0 ≤ lo) (b2 : lo ≤ r) (b4 : m < N) (m1 : lo ≤ m) (m2 : (m : Int) < hi) (ht : ¬ m < r) :
    LI a x kv N r st (upd (upd ρ "mid" (.int (m : Int))) "hi" (.int (m : Int))) st ∧ gap (upd (upd ρ "mid" (.int (m : Int))) "hi" (.int (m : Int))) st < gap ρ st :=
  ⟨⟨_, _, nm_ne (nm_ne n1), nm_eq, nm_ne (nm_ne n3), nm_ne (nm_ne n4), nm_ne (nm_ne n5), rfl, b1, b2, by omega, by omega⟩, by rw [gap_eq (nm_ne (nm_ne n1)) nm_eq, gap_eq n1 n2]; omega⟩
theorem LI.init {a x kv : V} {N r : Nat} {ρ : Nm} (n1 : ρ "lo" = some (.int 0)) (n2 : ρ "hi" = some (.int (N : Nat))) (n3 : ρ "a" = some a) (n4 : ρ "x" = some x) (n5 : ρ "key" = some kv) (hr : r ≤ N) : LI a x kv N r st ρ st := ⟨0, N, n1, n2, n3, n4, n5, rfl, Int.le_refl _, Int.natCast_nonneg _, Int.ofNat_le.mpr hr, Int.le_refl _⟩

theorem left_ex (h : L2 B) {L : Addr} {a x : V} {l : List V} {r : Nat} (hl : lis st a = some l) (hfit : l.length < 2 ^ 60) (hr : r ≤ l.length)
    (hc : ∀ (i : Nat) v, l[i]? = some v → P2 B (n + 1) st (compareOp .Lt) v x (.bool (decide (i < r)))) :
    EX B (n + 1) (callEnvC (fdOf (hd.heap_39 B.w.params) 32) L 32) m (fun y => ((["a", "x", "lo", "hi", "key"] : List Str).zip [a, x, .int 0, .none, .none]).lookup y) st (bodyOf (fdOf (hd.heap_39 B.w.params) 32)) (fun fl _ st' => retOf fl = .int r ∧ st' = st) := by
  refine ex_cons (x_if (c := false) (pt_cmp (pn rfl) pe_int o_lt) (fun h => by cases h) fun _ => ex_nil ?_)
  refine ex_cons (x_if (c := true) (pt_cmp (pn rfl) pe_none o_isNone) (fun _ => ?_) (fun h => by cases h))
  refine ex_cons (xa ((pe_callB (g_len h) (by kernel_rfl) (pes_cons (pn rfl) pes_nil) (o_len hl (by omega))).pm (ex_nil ?_)))
  refine ex_cons (x_if (c := true) (pt_cmp (pn rfl) pe_none o_isNone) (fun _ => ex_cons ?_) (fun h => by cases h))
  refine x_while (LI a x .none l.length r st) gap (LI.init rfl rfl rfl rfl rfl hr) ?_
  rintro ρ st' ⟨lo, hi, n1, n2, n3, n4, n5, rfl, b1, b2, b3, b4⟩
  refine ⟨decide (lo < hi), pt_cmp (pn n1) (pn n2) o_lt, fun hlt => ?_, fun hge => ex_nil (ex_cons (x_return ((pn n1).pm ?_)))⟩
  · obtain ⟨m', hm, m1, m2, m3⟩ := bs_mid b1 (of_decide_eq_true hlt) b4
    have hv : l[(m' : Int).toNat]? = some (l[m']) := List.getElem?_eq_getElem m3
    refine ex_cons (xa ((hm ▸ pe_bin (pe_bin (pn n1) (pn n2) o_add) pe_int (o_fdiv (by decide))).pm ?_))
    refine ex_cons (x_if (pt_cmp (pe_sub (pn (nm_ne n3)) (pn nm_eq) (o_item hl (Int.natCast_nonneg _) hv (by omega))) (pn (nm_ne n4)) (hc m' _ hv)) (fun ht => ?_) (fun hf => ?_))
    · exact ex_cons (xa ((pe_bin (pn nm_eq) pe_int o_add).pm (ex_nil (ex_nil (LI.up n1 n2 n3 n4 n5 b3 b4 m1 m2 (of_decide_eq_true ht))))))
    · exact ex_cons (xa ((pn nm_eq).pm (ex_nil (ex_nil (LI.dn n1 n2 n3 n4 n5 b1 b2 m3 m1 m2 (of_decide_eq_false hf))))))
  · exact ⟨by show V.int lo = V.int r; rw [Int.le_antisymm b2 (Int.le_trans b3 (Int.not_lt.mp (of_decide_eq_false hge)))], rfl⟩

theorem left_pl (h : L2 B) {a x : V} {l : List V} {r : Nat} (hl : lis st a = some l) (hfit : l.length < 2 ^ 60) (hr : r ≤ l.length)
    (hc : ∀ (i : Nat) v, l[i]? = some v → P2 B (n + 1) st (compareOp .Lt) v x (.bool (decide (i < r)))) : PL B (n + 2) st (fun xs => call (.ref 32) xs) [a, x] (.int r) := by
  refine OM.plFlat rfl (fn_om (names := ["a", "x", "lo", "hi", "key"]) (ws := [a, x, .int 0, .none, .none]) (pos := fun xs => xs) (kw := fun _ => []) (f_ok h 32 (by kernel_rfl)) (by kernel_rfl) rfl (fun H hp xs S rr => ?_) fun L => (left_ex (m := st.length) h hl hfit hr hc).mono fun f ρ' st' q => ⟨q.1, [], by simp [q.2]⟩)
  cases rr with
  | @cons y1 _ _ _ r1 rr =>
    cases rr with
    | @cons y2 _ _ _ r2 rr =>
      cases rr
      refine ⟨[y1, y2, dfl (hd.heap_39 B.w.params) 32, .none, .none], fun S => ?_, .cons r1 (.cons r2 (.cons (by show Rep H hp (.int 0 _) _; exact .int ..) (.cons .none (.cons .none .nil))))⟩
      rw [h.hK]
      kernel_rfl

/-- with a key -/
theorem leftK_ex (h : L2 B) {L f : Addr} {fd : FuncData} {lb : Expr} (F : LamOk B f fd lb) {a x : V} {l ks : List V} {r : Nat} (hl : lis st a = some l) (hfit : l.length < 2 ^ 60) (hr : r ≤ l.length) (hks : ks.length = l.length)
    (hk : ∀ (i : Nat) v k, l[i]? = some v → ks[i]? = some k → PL B (n + 1) st (fun xs => call (.ref f) xs) [v] k)
    (hc : ∀ (i : Nat) v, ks[i]? = some v → P2 B (n + 1) st (compareOp .Lt) v x (.bool (decide (i < r)))) :
    EX B (n + 1) (callEnvC (fdOf (hd.heap_39 B.w.params) 32) L 32) m (fun y => ((["a", "x", "lo", "hi", "key"] : List Str).zip [a, x, .int 0, .none, .val (.ref f)]).lookup y) st (bodyOf (fdOf (hd.heap_39 B.w.params) 32)) (fun fl _ st' => retOf fl = .int r ∧ st' = st) := by
  refine ex_cons (x_if (c := false) (pt_cmp (pn rfl) pe_int o_lt) (fun h => by cases h) fun _ => ex_nil ?_)
  refine ex_cons (x_if (c := true) (pt_cmp (pn rfl) pe_none o_isNone) (fun _ => ?_) (fun h => by cases h))
  refine ex_cons (xa ((pe_callB (g_len h) (by kernel_rfl) (pes_cons (pn rfl) pes_nil) (o_len hl (by omega))).pm (ex_nil ?_)))
  refine ex_cons (x_if (c := false) (pt_cmp (pn rfl) pe_none (o_isNotNone rfl)) (fun h => by cases h) (fun _ => ex_cons ?_))
  refine x_while (LI a x (.val (.ref f)) l.length r st) gap (LI.init rfl rfl rfl rfl rfl hr) ?_
  rintro ρ st' ⟨lo, hi, n1, n2, n3, n4, n5, rfl, b1, b2, b3, b4⟩
  refine ⟨decide (lo < hi), pt_cmp (pn n1) (pn n2) o_lt, fun hlt => ?_, fun hge => ex_nil (ex_cons (x_return ((pn n1).pm ?_)))⟩
  · obtain ⟨m', hm, m1, m2, m3⟩ := bs_mid b1 (of_decide_eq_true hlt) b4
    have hv : l[(m' : Int).toNat]? = some (l[m']) := List.getElem?_eq_getElem m3
    have hkv : ks[m']? = some (ks[m']'(hks ▸ m3)) := List.getElem?_eq_getElem _
    refine ex_cons (xa ((hm ▸ pe_bin (pe_bin (pn n1) (pn n2) o_add) pe_int (o_fdiv (by decide))).pm ?_))
    refine ex_cons (x_if (pt_cmp (pe_callVal F (pn (nm_ne n5)) (pes_cons (pe_sub (pn (nm_ne n3)) (pn nm_eq) (o_item hl (Int.natCast_nonneg _) hv (by omega))) pes_nil) (hk m' _ _ hv hkv)) (pn (nm_ne n4)) (hc m' _ hkv)) (fun ht => ?_) (fun hf => ?_))
    · exact ex_cons (xa ((pe_bin (pn nm_eq) pe_int o_add).pm (ex_nil (ex_nil (LI.up n1 n2 n3 n4 n5 b3 b4 m1 m2 (of_decide_eq_true ht))))))
    · exact ex_cons (xa ((pn nm_eq).pm (ex_nil (ex_nil (LI.dn n1 n2 n3 n4 n5 b1 b2 m3 m1 m2 (of_decide_eq_false hf))))))
  · exact ⟨by show V.int lo = V.int r; rw [Int.le_antisymm b2 (Int.le_trans b3 (Int.not_lt.mp (of_decide_eq_false hge)))], rfl⟩

/-- as insort calls it -/
theorem leftK4_pl (h : L2 B) {f : Addr} {fd : FuncData} {lb : Expr} (F : LamOk B f fd lb) {a x : V} {l ks : List V} {r : Nat} (hl : lis st a = some l) (hfit : l.length < 2 ^ 60) (hr : r ≤ l.length) (hks : ks.length = l.length)
    (hk : ∀ (i : Nat) v k, l[i]? = some v → ks[i]? = some k → PL B (n + 1) st (fun xs => call (.ref f) xs) [v] k)
    (hc : ∀ (i : Nat) v, ks[i]? = some v → P2 B (n + 1) st (compareOp .Lt) v x (.bool (decide (i < r)))) : PL B (n + 2) st (fun xs => call (.ref 32) xs [("key", .ref f)]) [a, x, .int 0, .none] (.int r) := by
  refine OM.plFlat rfl (fn_om (names := ["a", "x", "lo", "hi", "key"]) (ws := [a, x, .int 0, .none, .val (.ref f)]) (pos := fun xs => xs) (kw := fun _ => [("key", .ref f)]) (f_ok h 32 (by kernel_rfl)) (by kernel_rfl) rfl (fun H hp xs S rr => ?_) fun L => (leftK_ex (m := st.length) h F hl hfit hr hks hk hc).mono fun f ρ' st' q => ⟨q.1, [], by simp [q.2]⟩)
  cases rr with
  | @cons y1 _ _ _ r1 rr =>
    cases rr with
    | @cons y2 _ _ _ r2 rr =>
      cases rr with
      | @cons y3 _ _ _ r3 rr =>
        cases rr with
        | @cons y4 _ _ _ r4 rr =>
          cases rr
          refine ⟨[y1, y2, y3, y4, .ref f], fun S => ?_, .cons r1 (.cons r2 (.cons r3 (.cons r4 (.cons (.val _) .nil))))⟩
          rw [h.hK]
          kernel_rfl

theorem insort_ex (h : L2 B) {L f : Addr} {fd : FuncData} {lb : Expr} (F : LamOk B f fd lb) {k : Nat} {x kx : V} {l ks : List V} {r : Nat} (hl : st[k]? = some l) (hm : m ≤ k) (hfit : l.length ≤ sizeLine) (hr : r ≤ l.length) (hks : ks.length = l.length)
    (hx : PL B (n + 2) st (fun xs => call (.ref f) xs) [x] kx)
    (hk : ∀ (i : Nat) v k, l[i]? = some v → ks[i]? = some k → PL B (n + 1) st (fun xs => call (.ref f) xs) [v] k)
    (hc : ∀ (i : Nat) v, ks[i]? = some v → P2 B (n + 1) st (compareOp .Lt) v kx (.bool (decide (i < r)))) :
    EX B (n + 2) (callEnvC (fdOf (hd.heap_39 B.w.params) 23) L 23) m (fun y => ((["a", "x", "lo", "hi", "key"] : List Str).zip [.ref k, x, .int 0, .none, .val (.ref f)]).lookup y) st (bodyOf (fdOf (hd.heap_39 B.w.params) 23)) (fun fl _ st' => retOf fl = .none ∧ st' = st.set k (l.take r ++ x :: l.drop r)) := by
  have hfit' : l.length < 2 ^ 60 := by simp only [sizeLine] at hfit; omega
  refine ex_cons ?_
  refine x_if (c := false) (pt_cmp (pn rfl) pe_none (o_isNotNone rfl)) (fun h => by cases h) (fun _ => ?_)
  refine ex_cons ?_
  refine xa (PE.pm (pe_callKw (f_ok h 32 (by kernel_rfl)) (by kernel_rfl) (g_g h (by kernel_rfl)) (pn rfl) (pes_cons (pn rfl) (pes_cons (pe_callVal F (pn rfl) (pes_cons (pn rfl) pes_nil) hx) (pes_cons (pn rfl) (pes_cons (pn rfl) pes_nil)))) (leftK4_pl (n := n) h F (a := .ref k) hl hfit' hr hks hk hc)) ?_)
  refine ex_nil ?_
  refine ex_cons ?_
  refine x_expr ?_
  refine pm_meth (v₀ := .ref k) (pn (nm_ne rfl)) hl ?_ PySem.F.slot_list_insert rfl
  refine PEs.pms (pes_cons (pn nm_eq) (pes_cons (pn (nm_ne rfl)) pes_nil)) ?_
  refine om_insert hl hm hfit (by omega) (by omega) ?_
  refine ex_nil ⟨rfl, ?_⟩
  simp

theorem insort_om (h : L2 B) {f : Addr} {fd : FuncData} {lb : Expr} (F : LamOk B f fd lb) {k : Nat} {x kx : V} {l ks : List V} {r : Nat} (hl : st[k]? = some l) (hm : m ≤ k) (hfit : l.length ≤ sizeLine) (hr : r ≤ l.length) (hks : ks.length = l.length)
    (hx : PL B (n + 2) st (fun xs => call (.ref f) xs) [x] kx)
    (hk : ∀ (i : Nat) v k, l[i]? = some v → ks[i]? = some k → PL B (n + 1) st (fun xs => call (.ref f) xs) [v] k)
    (hc : ∀ (i : Nat) v, ks[i]? = some v → P2 B (n + 1) st (compareOp .Lt) v kx (.bool (decide (i < r)))) {Ψ : V → Store → Prop} (hp : Ψ .none (st.set k (l.take r ++ x :: l.drop r))) :
    OM B (n + 3) m st (fun xs => call (.ref 23) xs [("key", .ref f)]) [.ref k, x] Ψ := by
  refine fn_om (names := ["a", "x", "lo", "hi", "key"]) (ws := [.ref k, x, .int 0, .none, .val (.ref f)]) (pos := fun xs => xs) (kw := fun _ => [("key", .ref f)]) (f_ok h 23 (by kernel_rfl)) (by kernel_rfl) rfl (fun H hp xs S rr => ?_) fun L => (insort_ex h F hl hm hfit hr hks hx hk hc).mono fun f ρ' st' q => by rw [q.1, q.2]; exact hp
  cases rr with
  | @cons y1 _ _ _ r1 rr =>
    cases rr with
    | @cons y2 _ _ _ r2 rr =>
      cases rr
      refine ⟨[y1, y2, dfl (hd.heap_39 B.w.params) 23, .none, .ref f], fun S => ?_, .cons r1 (.cons r2 (.cons (by show Rep H hp (.int 0 _) _; exact .int ..) (.cons .none (.cons (.val _) .nil))))⟩
      rw [h.hK]
      kernel_rfl
end
end Mine

-- part W2
namespace Mine

/-- how many letters two texts have in common at their beginning -/
noncomputable def lcp : List Nat → List Nat → Nat
  | x :: xs, y :: ys => if x = y then lcp xs ys + 1 else 0
  | _, _ => 0
theorem lcp_le : ∀ (a b : List Nat), lcp a b ≤ a.length ∧ lcp a b ≤ b.length
  | x :: xs, y :: ys => by
    have := lcp_le xs ys
    simp only [lcp]; split
    · simp only [List.length_cons]; omega
    · omega
  | [], _ => by simp [lcp]
  | _ :: _, [] => by simp [lcp]
theorem lcp_take : ∀ (a b : List Nat) (k : Nat), k ≤ a.length → k ≤ b.length → (a.take k = b.take k ↔ k ≤ lcp a b)
  | x :: xs, y :: ys, 0, _, _ => by simp
  | x :: xs, y :: ys, k + 1, h1, h2 => by
    simp only [List.take_succ_cons, List.cons.injEq]
    simp only [List.length_cons] at h1 h2
    rw [lcp_take xs ys k (by omega) (by omega)]
    simp only [lcp]
    by_cases e : x = y
    · simp [e]
    · simp [e]
  | [], b, k, h1, h2 => by simp at h1; subst h1; simp
  | x :: xs, [], k, h1, h2 => by simp at h2; subst h2; simp

section
variable {B : Bs} {n m : Nat} {st : Store}
theorem g_range (h : L2 B) : (B.mg "range").or (B.mb "range") = some (.type "range") := g_b h (by kernel_rfl) (by decide +kernel) (by decide)

theorem common_pl (h : L2 B) {a b : List Nat} (ha : a.length < 4000) (hb : b.length < 4000) : PL B (n + 2) st (fun xs => call (.ref 37) xs) [.str (tx a), .str (tx b)] (.int (lcp a b)) := by
  refine OM.plFlat rfl (fn_om (names := ["one", "other"]) (ws := [.str (tx a), .str (tx b)]) (pos := fun xs => xs) (kw := fun _ => []) (f_ok h 37 (by kernel_rfl)) (by kernel_rfl) rfl (fun H hp xs S rr => ?_) fun L => ?_)
  · cases rr with
    | @cons y1 _ _ _ r1 rr =>
      cases rr with
      | @cons y2 _ _ _ r2 rr =>
        cases rr
        refine ⟨[y1, y2], fun S => ?_, .cons r1 (.cons r2 .nil)⟩
        rw [h.hK]
        kernel_rfl
  · have hle := lcp_le a b
    have hmn : (if (b.length : Int) < (a.length : Int) then (b.length : Int) else (a.length : Int)) + 1 = ((min a.length b.length + 1 : Nat) : Int) := by split <;> omega
    refine ex_cons ?_
    refine x_return (PE.pm (v := .int (lcp a b)) (pe_callB (g_b h (by kernel_rfl) (v := .builtin "max") (by decide +kernel) (by decide +kernel)) (by kernel_rfl) (pes_cons (PC.pe (out := ((List.range (min a.length b.length + 1)).filter fun k => decide (a.take k = b.take k)).map fun k => V.int (k : Nat)) (pc_name (List.range (min a.length b.length + 1)) (fun k => .int (k : Nat)) (fun k => decide (a.take k = b.take k)) (fun k => .int (k : Nat)) rfl (pi_rangeN (k := min a.length b.length + 1) ?_ rfl (by omega) (g_range h)) rfl trivial (fun k hk C => ?_) (fun k hk _ C => ?_) (by simp [sizeLine]; omega))) pes_nil) (o_maxL (ns := ((List.range (min a.length b.length + 1)).filter fun k => decide (a.take k = b.take k)).map fun k => ((k : Nat) : Int)) (M := (lcp a b : Nat)) ?_ ?_ ?_)) ⟨rfl, [], by simp⟩)
    · rw [← hmn]
      exact pe_bin (pe_callB (g_b h (by kernel_rfl) (v := .builtin "min") (by decide +kernel) (by decide +kernel)) (by kernel_rfl) (pes_cons (pe_callB (g_len h) (by kernel_rfl) (pes_cons (pc rfl) pes_nil) (o_strLen (by omega))) (pes_cons (pe_callB (g_len h) (by kernel_rfl) (pes_cons (pc rfl) pes_nil) (o_strLen (by omega))) pes_nil)) o_min2) pe_int o_add
    · refine pts_one ?_
      have e1 := sub_upto a (x := (k : Int)) k rfl
      have e2 := sub_upto b (x := (k : Int)) k rfl
      refine pt_cmp (a := .str (tx (a.take k))) (b := .str (tx (b.take k))) ?_ ?_ (o_strEq rfl)
      · rw [← e1]; exact pe_sliceS (pc (nm_ne (rs rfl))) pp_none (pp_some (pn nm_eq)) (by omega)
      · rw [← e2]; exact pe_sliceS (pc (nm_ne (rs rfl))) pp_none (pp_some (pn nm_eq)) (by omega)
    · exact pn nm_eq
    · simp [lis, Function.comp_def]
    · refine List.mem_map.mpr ⟨lcp a b, List.mem_filter.mpr ⟨by simp; omega, ?_⟩, rfl⟩
      exact decide_eq_true ((lcp_take a b _ hle.1 hle.2).mpr (Nat.le_refl _))
    · intro x hx
      obtain ⟨k, hk, rfl⟩ := List.mem_map.mp hx
      obtain ⟨h1, h2⟩ := List.mem_filter.mp hk
      simp at h1
      have := (lcp_take a b k (by omega) (by omega)).mp (of_decide_eq_true h2)
      omega
end
end Mine

-- part M2
namespace Mine

theorem nil_lt {x : Nat} {l : List Nat} : ([] : List Nat) < x :: l := List.nil_lt_cons x l
theorem cons_lt {x y : Nat} {a b : List Nat} : x :: a < y :: b ↔ x < y ∨ (x = y ∧ a < b) := List.cons_lt_cons_iff

theorem lcp_mono : ∀ {u v w : List Nat}, ¬ v < u → ¬ w < v → lcp u w ≤ lcp v w
  | [], v, w, _, _ => by simp [lcp]
  | x :: u, v, [], _, _ => by simp [lcp]
  | x :: u, [], z :: w, h1, _ => absurd nil_lt h1
  | x :: u, y :: v, z :: w, h1, h2 => by
    simp only [lcp]
    by_cases e : x = z
    · subst e
      rw [cons_lt] at h1 h2
      have e2 : y = x := by omega
      subst e2
      simp only [if_true]
      have := lcp_mono (u := u) (v := v) (w := w) (fun h => h1 (.inr ⟨rfl, h⟩)) (fun h => h2 (.inr ⟨rfl, h⟩))
      omega
    · rw [if_neg e]; exact Nat.zero_le _
theorem take_lt_take : ∀ {u w : List Nat} (M L : Nat), ¬ w < u → lcp u w < L → L ≤ w.length → u.take M < w.take L
  | u, [], M, L, _, h2, h3 => by simp at h3; omega
  | [], z :: w, M, L + 1, _, _, _ => by simp only [List.take_nil, List.take_succ_cons]; exact nil_lt
  | [], z :: w, M, 0, _, h2, _ => by omega
  | x :: u, z :: w, M, 0, _, h2, _ => by omega
  | x :: u, z :: w, 0, L + 1, _, _, _ => by simp only [List.take_zero, List.take_succ_cons]; exact nil_lt
  | x :: u, z :: w, M + 1, L + 1, h1, h2, h3 => by
    rw [cons_lt] at h1
    simp only [List.take_succ_cons, cons_lt]
    simp only [List.length_cons] at h3
    by_cases e : x = z
    · subst e
      simp only [lcp, if_true] at h2
      exact .inr ⟨rfl, take_lt_take M L (fun h => h1 (.inr ⟨rfl, h⟩)) (by omega) (by omega)⟩
    · exact .inl (by omega)
theorem take_lt_self : ∀ {w : List Nat} {M L : Nat}, M < L → L ≤ w.length → w.take M < w.take L
  | [], M, L, h1, h2 => by simp at h2; omega
  | z :: w, M, 0, h1, _ => by omega
  | z :: w, 0, L + 1, _, _ => by simp only [List.take_zero, List.take_succ_cons]; exact nil_lt
  | z :: w, M + 1, L + 1, h1, h2 => by
    simp only [List.take_succ_cons, cons_lt]
    simp only [List.length_cons] at h2
    exact .inr ⟨trivial, take_lt_self (by omega) (by omega)⟩

/-- what is new at a word -/
noncomputable def nw (c : Nat) (w : List Nat) : List (List Nat) := (List.range (w.length - c)).map fun j => w.take (c + 1 + j)
/-- in common with the word before -/
noncomputable def cmn (W : Nat → List Nat) : Nat → Nat
  | 0 => 0
  | i + 1 => lcp (W i) (W (i + 1))
noncomputable def allP (W : Nat → List Nat) (n : Nat) : List (List Nat) := ((List.range n).map fun i => nw (cmn W i) (W i)).flatten
theorem allP_succ (W : Nat → List Nat) (n : Nat) : allP W (n + 1) = allP W n ++ nw (cmn W n) (W n) := by unfold allP; rw [List.range_succ, List.map_append, List.flatten_append]; simp
theorem nw_mem {c : Nat} {w p : List Nat} : p ∈ nw c w ↔ ∃ L, c < L ∧ L ≤ w.length ∧ p = w.take L := by
  unfold nw
  simp only [List.mem_map, List.mem_range]
  constructor
  · rintro ⟨j, hj, rfl⟩; exact ⟨c + 1 + j, by omega, by omega, rfl⟩
  · rintro ⟨L, h1, h2, rfl⟩; exact ⟨L - (c + 1), by omega, by rw [show c + 1 + (L - (c + 1)) = L by omega]⟩
theorem nw_pw (c : Nat) (w : List Nat) : (nw c w).Pairwise (· < ·) := by
  unfold nw
  rw [List.pairwise_map]
  refine List.Pairwise.imp_of_mem (fun {a b} ha hb hab => ?_) List.pairwise_lt_range
  simp at ha hb
  exact take_lt_self (by omega) (by omega)
theorem nw_len (c : Nat) (w : List Nat) : (nw c w).length = w.length - c := by simp [nw]
theorem cmn_le (W : Nat → List Nat) : ∀ i, cmn W i ≤ (W i).length
  | 0 => Nat.zero_le _
  | i + 1 => (lcp_le _ _).2

section
variable {W : Nat → List Nat} {N : Nat} (hW : ∀ i j, i ≤ j → j < N → ¬ W j < W i)
include hW
/-- what is new is new -/
theorem cmn_lt {i j L : Nat} (hij : i < j) (hj : j < N) (hL : cmn W j < L) : lcp (W i) (W j) < L := by
  cases j with
  | zero => omega
  | succ j =>
    have := lcp_mono (hW i j (by omega) (by omega)) (hW j (j + 1) (by omega) hj)
    have hL' : lcp (W j) (W (j + 1)) < L := hL
    omega
theorem allP_mem {p : List Nat} : ∀ {n : Nat}, n ≤ N → (p ∈ allP W n ↔ ∃ i, i < n ∧ ∃ L, 1 ≤ L ∧ L ≤ (W i).length ∧ p = (W i).take L)
  | 0, _ => by simp [allP]
  | n + 1, hn => by
    rw [allP_succ, List.mem_append, allP_mem (by omega), nw_mem]
    constructor
    · rintro (⟨i, hi, r⟩ | ⟨L, h1, h2, h3⟩)
      · exact ⟨i, by omega, r⟩
      · exact ⟨n, by omega, L, by omega, h2, h3⟩
    · rintro ⟨i, hi, L, h1, h2, h3⟩
      by_cases e : i = n
      · subst e
        by_cases hc : cmn W i < L
        · exact .inr ⟨L, hc, h2, h3⟩
        · left
          cases i with
          | zero => simp [cmn] at hc; omega
          | succ i =>
            have hc' : L ≤ lcp (W i) (W (i + 1)) := by simp only [cmn] at hc; omega
            have hl := lcp_le (W i) (W (i + 1))
            refine ⟨i, by omega, L, h1, by omega, ?_⟩
            rw [h3]
            exact ((lcp_take _ _ L (by omega) h2).mpr hc').symm
      · exact .inl ⟨i, by omega, L, h1, h2, h3⟩
theorem allP_pw : ∀ {n : Nat}, n ≤ N → (allP W n).Pairwise (· < ·)
  | 0, _ => by simp [allP]
  | n + 1, hn => by
    rw [allP_succ, List.pairwise_append]
    refine ⟨allP_pw (by omega), nw_pw _ _, fun p hp q hq => ?_⟩
    obtain ⟨i, hi, M, _, _, rfl⟩ := (allP_mem hW (by omega)).mp hp
    obtain ⟨L, h1, h2, rfl⟩ := nw_mem.mp hq
    exact take_lt_take M L (hW i n (by omega) (by omega)) (cmn_lt hW hi (by omega) h1) h2
/-- the sum up to a word -/
theorem allP_at : ∀ {n k : Nat} {p : List Nat}, n ≤ N → (allP W n)[k]? = some p → ∃ i, i < n ∧ (allP W i).length ≤ k ∧ k < (allP W (i + 1)).length ∧ (W i).take p.length = p ∧ ∀ j, j < i → (W j).take p.length ≠ p
  | 0, k, p, _, h => by simp [allP] at h
  | n + 1, k, p, hn, h => by
    rw [allP_succ] at h
    by_cases hk : k < (allP W n).length
    · rw [List.getElem?_append_left hk] at h
      obtain ⟨i, hi, r⟩ := allP_at (by omega) h
      exact ⟨i, by omega, r⟩
    · rw [List.getElem?_append_right (by omega)] at h
      have hm := List.mem_of_getElem? h
      have hlt := (List.getElem?_eq_some_iff.mp h).1
      obtain ⟨L, h1, h2, rfl⟩ := nw_mem.mp hm
      have hlen : ((W n).take L).length = L := by simp; omega
      refine ⟨n, by omega, by omega, by rw [allP_succ, List.length_append]; omega, by rw [hlen], fun j hj e => ?_⟩
      rw [hlen] at e
      have hjl : L ≤ (W j).length := by have := congrArg List.length e; simp at this; omega
      have := (lcp_take (W j) (W n) L hjl h2).mp e
      have := cmn_lt hW hj (by omega) h1
      omega
end
theorem allP_len (W : Nat → List Nat) : ∀ n, (allP W n).length = ((List.range n).map fun i => (W i).length - cmn W i).sum
  | 0 => rfl
  | n + 1 => by rw [allP_succ, List.length_append, allP_len W n, List.range_succ, List.map_append, List.sum_append, nw_len]; simp
theorem allP_mono (W : Nat → List Nat) {i j : Nat} (h : i ≤ j) : (allP W i).length ≤ (allP W j).length := by
  induction j with
  | zero => have : i = 0 := by omega
            subst this; exact Nat.le_refl _
  | succ j ih =>
    by_cases e : i = j + 1
    · subst e; exact Nat.le_refl _
    · have := ih (by omega)
      rw [allP_succ, List.length_append]; omega
end Mine

-- part N2
namespace Mine

theorem ll_total {a b : List Nat} (h1 : ¬ a < b) (h2 : ¬ b < a) : a = b := List.le_antisymm (List.not_lt.mp h2) (List.not_lt.mp h1)
theorem ll_trans {a b c : List Nat} (h1 : a < b) (h2 : b < c) : a < c := List.lt_trans h1 h2
theorem ll_irrefl (a : List Nat) : ¬ a < a := List.lt_irrefl a

/-- tails rising, of those alike the later one first -/
noncomputable def ord (a b : List Nat × Nat) : Prop := a.1 < b.1 ∨ (a.1 = b.1 ∧ b.2 < a.2)
noncomputable def less2 (x : List Nat) (e : List Nat × Nat) : Bool := decide (e.1 < x)
noncomputable def pl2 (l : List (List Nat × Nat)) (x : List Nat) : Nat := (l.takeWhile (less2 x)).length
noncomputable def its (c : Nat → List Nat) : Nat → List (List Nat × Nat)
  | 0 => []
  | T + 1 => (its c T).take (pl2 (its c T) (c T)) ++ (c T, T) :: (its c T).drop (pl2 (its c T) (c T))
theorem tk_while {l : List (List Nat × Nat)} {x : List Nat} : l.take (pl2 l x) = l.takeWhile (less2 x) ∧ l.drop (pl2 l x) = l.dropWhile (less2 x) := by
  have h := List.takeWhile_append_dropWhile (p := less2 x) (l := l)
  unfold pl2
  constructor
  · have e := List.take_left (l₁ := l.takeWhile (less2 x)) (l₂ := l.dropWhile (less2 x))
    rwa [h] at e
  · have e := List.drop_left (l₁ := l.takeWhile (less2 x)) (l₂ := l.dropWhile (less2 x))
    rwa [h] at e
theorem tw_mem {x : List Nat} : ∀ {l : List (List Nat × Nat)} {e : List Nat × Nat}, e ∈ l.takeWhile (less2 x) → less2 x e = true
  | [], e, he => by simp at he
  | a :: l, e, he => by
    rw [List.takeWhile_cons] at he
    split at he
    · rename_i ha
      rcases List.mem_cons.mp he with rfl | he
      · exact ha
      · exact tw_mem he
    · simp at he
theorem drop_ge : ∀ {l : List (List Nat × Nat)} {x : List Nat}, l.Pairwise ord → ∀ e ∈ l.dropWhile (less2 x), ¬ e.1 < x
  | [], x, _, e, he => by simp at he
  | a :: l, x, hp, e, he => by
    rw [List.dropWhile_cons] at he
    split at he
    · exact drop_ge (List.pairwise_cons.mp hp).2 e he
    · rename_i ha
      have ha : ¬ a.1 < x := by simpa [less2] using ha
      rcases List.mem_cons.mp he with rfl | he
      · exact ha
      · have := (List.pairwise_cons.mp hp).1 e he
        rcases this with h | ⟨h, _⟩
        · exact fun h' => ha (ll_trans h h')
        · rw [← h]; exact ha
theorem its_perm (c : Nat → List Nat) : ∀ T, (its c T).Perm ((List.range T).map fun i => (c i, i))
  | 0 => .refl _
  | T + 1 => by
    rw [List.range_succ, List.map_append]
    show ((its c T).take _ ++ (c T, T) :: (its c T).drop _).Perm _
    refine List.perm_middle.trans ?_
    rw [List.take_append_drop]
    exact ((its_perm c T).cons _).trans (List.perm_append_singleton _ _).symm
theorem its_mem {c : Nat → List Nat} {T : Nat} {e : List Nat × Nat} (h : e ∈ its c T) : e.2 < T ∧ e.1 = c e.2 := by
  obtain ⟨i, hi, rfl⟩ := List.mem_map.mp ((its_perm c T).mem_iff.mp h)
  exact ⟨by simpa using hi, rfl⟩
theorem its_pw (c : Nat → List Nat) : ∀ T, (its c T).Pairwise ord
  | 0 => .nil
  | T + 1 => by
    have ih := its_pw c T
    show ((its c T).take (pl2 (its c T) (c T)) ++ (c T, T) :: (its c T).drop (pl2 (its c T) (c T))).Pairwise ord
    have hmem : ∀ e ∈ (its c T).drop (pl2 (its c T) (c T)), ord (c T, T) e := fun e he => by
      have h1 := its_mem (List.mem_of_mem_drop he)
      rw [tk_while.2] at he
      have h2 := drop_ge ih e he
      by_cases h3 : c T < e.1
      · exact .inl h3
      · exact .inr ⟨(ll_total h2 h3).symm, h1.1⟩
    have hmem2 : ∀ e ∈ (its c T).take (pl2 (its c T) (c T)), ord e (c T, T) := fun e he => by
      rw [tk_while.1] at he
      have := tw_mem he
      exact .inl (by simpa [less2] using this)
    rw [List.pairwise_append]
    refine ⟨ih.sublist (List.take_sublist _ _), List.pairwise_cons.mpr ⟨hmem, ih.sublist (List.drop_sublist _ _)⟩, fun a ha b hb => ?_⟩
    rcases List.mem_cons.mp hb with rfl | hb
    · exact hmem2 a ha
    · have := List.pairwise_append.mp (by rw [List.take_append_drop]; exact ih : ((its c T).take (pl2 (its c T) (c T)) ++ (its c T).drop (pl2 (its c T) (c T))).Pairwise ord)
      exact this.2.2 a ha b hb
theorem its_len (c : Nat → List Nat) (T : Nat) : (its c T).length = T := by rw [(its_perm c T).length_eq]; simp
/-- the place that the search tells -/
theorem pl2_iff (c : Nat → List Nat) (T : Nat) (x : List Nat) {i : Nat} {e : List Nat × Nat} (h : (its c T)[i]? = some e) : decide (e.1 < x) = decide (i < pl2 (its c T) x) := by
  have e1 := tk_while (l := its c T) (x := x)
  have hle : pl2 (its c T) x ≤ (its c T).length := by unfold pl2; exact (List.takeWhile_prefix _).length_le
  by_cases hi : i < pl2 (its c T) x
  · have hm : e ∈ (its c T).take (pl2 (its c T) x) := List.mem_of_getElem? (by rw [List.getElem?_take_of_lt hi]; exact h)
    rw [e1.1] at hm
    have := tw_mem hm
    simp only [less2, decide_eq_true_eq] at this
    simp [hi, this]
  · have hm : e ∈ (its c T).drop (pl2 (its c T) x) := List.mem_of_getElem? (i := i - pl2 (its c T) x) (by rw [List.getElem?_drop, show pl2 (its c T) x + (i - pl2 (its c T) x) = i by omega]; exact h)
    rw [e1.2] at hm
    have := drop_ge (its_pw c T) e hm
    simp [hi, this]
/-- the words in order -/
theorem its_words (c : Nat → List Nat) (T : Nat) : ∀ i j, i ≤ j → j < T → ¬ ((its c T).getD j ([], 0)).1 < ((its c T).getD i ([], 0)).1 := by
  intro i j hij hj
  have hl := its_len c T
  by_cases e : i = j
  · subst e; exact ll_irrefl _
  have := List.pairwise_iff_getElem.mp (its_pw c T) i j (by omega) (by omega) (by omega)
  have g1 : (its c T).getD i ([], 0) = (its c T)[i]'(by omega) := by rw [List.getD_eq_getElem?_getD, List.getElem?_eq_getElem (by omega)]; rfl
  have g2 : (its c T).getD j ([], 0) = (its c T)[j]'(by omega) := by rw [List.getD_eq_getElem?_getD, List.getElem?_eq_getElem (by omega)]; rfl
  rw [g1, g2]
  rcases this with h | ⟨h, _⟩
  · exact fun h' => ll_irrefl _ (ll_trans h h')
  · rw [h]; exact ll_irrefl _
/-- the turns are as sorted tells -/
theorem its_turns (c : Nat → List Nat) (T : Nat) {p : List Nat} (hp : p.Perm (List.range T)) (hs : p.Pairwise (fun a b => ¬ klt (tx (c b), -(b : Int)) (tx (c a), -(a : Int)))) : p = (its c T).map (·.2) := by
  have hord : ∀ a b : Nat, klt (tx (c a), -(a : Int)) (tx (c b), -(b : Int)) ↔ ord (c a, a) (c b, b) := fun a b => by
    unfold klt ord
    rw [slt_tx]
    constructor
    · rintro (h | ⟨h1, h2⟩)
      · exact .inl h
      · exact .inr ⟨tx_inj h1, by simp at h2; omega⟩
    · rintro (h | ⟨h1, h2⟩)
      · exact .inl h
      · exact .inr ⟨by simp at h1 ⊢; rw [h1], by simp at h2 ⊢; omega⟩
  have h1 : ((its c T).map (·.2)).Perm (List.range T) := by
    have := (its_perm c T).map (·.2)
    rw [List.map_map] at this
    simpa [Function.comp_def] using this
  have h2 : ((its c T).map (·.2)).Pairwise (fun a b => ¬ klt (tx (c b), -(b : Int)) (tx (c a), -(a : Int))) := by
    refine List.pairwise_map.mpr (List.Pairwise.imp_of_mem (fun {a b} ha hb hab => ?_) (its_pw c T))
    have ea := (its_mem ha).2
    have eb := (its_mem hb).2
    have hab' : klt (tx (c a.2), -(a.2 : Int)) (tx (c b.2), -(b.2 : Int)) := (hord a.2 b.2).mpr (by rw [← ea, ← eb]; exact hab)
    exact fun h => klt_irrefl _ (klt_trans hab' h)
  refine (hp.trans h1.symm).eq_of_pairwise (fun a b ha hb h1 h2 => ?_) hs h2
  have := klt_total h1 h2
  have := congrArg (·.2) this
  simp at this
  omega
end Mine

-- part X2
namespace Mine

theorem ftrue {α : Type} (l : List α) : l.filter (fun _ => true) = l := by simp
noncomputable def first2 (ns : List Int) : Int := match ns with
  | [] => 0
  | a :: _ => a
noncomputable def nums2 (ns : List Int) : List Int := (ns.drop 1).take 20 ++ [0]
noncomputable def letter2 (f x : Int) : Nat := 97 + (x.fmod (f.fmod 4 + 1)).toNat
noncomputable def text2 (ns : List Int) : List Nat := (nums2 ns).map (letter2 (first2 ns))
theorem text2_len (ns : List Int) : 1 ≤ (text2 ns).length ∧ (text2 ns).length ≤ 21 := by simp [text2, nums2]; omega
theorem letter2_rng (f x : Int) : 0 ≤ x.fmod (f.fmod 4 + 1) ∧ x.fmod (f.fmod 4 + 1) < 4 := by
  have h1 := Int.fmod_nonneg_of_pos f (b := 4) (by decide)
  have h2 := Int.fmod_lt_of_pos f (b := 4) (by decide)
  have h3 := Int.fmod_nonneg_of_pos x (b := f.fmod 4 + 1) (by omega)
  have h4 := Int.fmod_lt_of_pos x (b := f.fmod 4 + 1) (by omega)
  omega
theorem abcd_eq : Str.ofString "abcd" = tx [97, 98, 99, 100] := by decide +kernel
theorem empty_eq : Str.ofString "" = tx [] := by decide +kernel
theorem letter_at (f x : Int) : [97, 98, 99, 100][(x.fmod (f.fmod 4 + 1)).toNat]? = some (letter2 f x) := by
  have h := letter2_rng f x
  unfold letter2
  generalize x.fmod (f.fmod 4 + 1) = r at *
  have : r = 0 ∨ r = 1 ∨ r = 2 ∨ r = 3 := by omega
  rcases this with rfl | rfl | rfl | rfl <;> rfl
theorem flat_one {α : Type} (f : Int → α) : ∀ l : List Int, (l.map fun x => [f x]).flatten = l.map f
  | [] => rfl
  | a :: l => by simp [flat_one f l]

section
variable {B : Bs} {n m : Nat} {st : Store} {Φ : Fl → Nm → Store → Prop}
/-- the first statements -/
theorem start2 (h : L2 B) {L : Addr} {ns : List Int} {rest : List Stmt} (hfit : ns.length ≤ 63) (hbody : bodyOf (fdOf (hd.heap_39 B.w.params) 42) = (bodyOf (fdOf (hd.heap_39 B.w.params) 42)).take 3 ++ rest)
    (hk : ∀ ρ : Nm, ρ "first" = some (.int (first2 ns)) → ρ "text" = some (.str (tx (text2 ns))) → ρ "size" = some (.int (text2 ns).length) → EXD B (n + 8) (callEnvC (fdOf (hd.heap_39 B.w.params) 42) L 42) 0 ρ [] rest Φ) :
    EXD B (n + 8) (callEnvC (fdOf (hd.heap_39 B.w.params) 42) L 42) 0 (fun y => ((["script"] : List Str).zip [.lst (ns.map V.int)]).lookup y) [] (bodyOf (fdOf (hd.heap_39 B.w.params) 42)) Φ := by
  rw [hbody]
  have hlen := text2_len ns
  refine exd_cons ?_
  refine xc (PE.pm (v := .int (first2 ns)) (pe_ifexp (c := !(ns.map V.int).isEmpty) (pt_val (pn (v := .lst (ns.map V.int)) (by kernel_rfl)) (tr_lis rfl (by simp; omega))) (fun ht => ?_) (fun hf => ?_)) ?_)
  · cases ns with
    | nil => simp at ht
    | cons a r => exact pe_sub (pn (v := .lst ((a :: r).map V.int)) (by kernel_rfl)) pe_int (o_item (c := .int a) (l := (a :: r).map V.int) rfl (by decide) rfl (by simp at hfit ⊢; omega))
  · cases ns with
    | nil => exact pe_int
    | cons a r => simp at hf
  refine exd_cons ?_
  have eflat : ((nums2 ns).map fun x => [letter2 (first2 ns) x]).flatten = text2 ns := flat_one _ _
  refine xc (PE.pm (v := .str (tx (text2 ns))) ?_ ?_)
  · rw [← eflat]
    refine pe_joinS (a := .lst ((nums2 ns).map fun x => V.str (tx [letter2 (first2 ns) x]))) (by rw [← empty_eq]; exact pe_str) (PC.pe (out := (nums2 ns).map fun x => V.str (tx [letter2 (first2 ns) x])) (pc_name (nums2 ns) V.int (fun _ => true) (fun x => .str (tx [letter2 (first2 ns) x])) (by rw [ftrue]) (pi_list (a := .lst ((nums2 ns).map V.int)) (l := (nums2 ns).map V.int) ?_ rfl) rfl trivial (fun a _ C => pts_nil) (fun x _ _ C => ?_) (by simp [nums2, sizeLine]; omega))) (by simp [lis, Function.comp_def]) ?_
    · have e : (nums2 ns).map V.int = slc (ns.map V.int) (some 1) (some 21) none ++ [.int 0] := by
        rw [slc_both (x := 1) (y := 21) _ 1 21 rfl rfl (by decide)]
        simp [nums2]
      rw [e]
      refine pe_bin (pe_slice (pn (v := .lst (ns.map V.int)) (nm_ne (by kernel_rfl))) rfl (pp_some pe_int) (pp_some pe_int) pp_none (by simp) (by simp [sizeLine]; omega)) (pe_list (pes_cons pe_int pes_nil)) (o_addL rfl rfl ?_)
      rw [slc_both (x := 1) (y := 21) _ 1 21 rfl rfl (by decide)]
      simp [sizeLine]; omega
    · have hr := letter2_rng (first2 ns) x
      have h1 := Int.fmod_nonneg_of_pos (first2 ns) (b := 4) (by decide)
      refine pe_sub (a := .str (tx [97, 98, 99, 100])) (by rw [← abcd_eq]; exact pe_str) (pe_bin (pn nm_eq) (pe_bin (pe_bin (pc (nm_ne (rs nm_eq))) pe_int (o_mod (by decide))) pe_int o_add) (o_mod (by omega))) (o_strItem hr.1 (letter_at _ _) (by decide))
    · have : ∀ l : List Int, ((l.map fun x => [letter2 (first2 ns) x]).map (·.length)).sum = l.length := fun l => by induction l with | nil => rfl | cons a l ih => simp at ih ⊢; omega
      rw [this]; simp [nums2]; omega
  refine exd_cons ?_
  refine xc (PE.pm (pe_callB (g_len h) (by kernel_rfl) (pes_cons (pc nm_eq) pes_nil) (o_strLen (by omega))) ?_)
  exact hk _ (nm_ne (nm_ne nm_eq)) (nm_ne nm_eq) nm_eq
end
end Mine

-- part Y2
namespace Mine

noncomputable def tails2 (t : List Nat) : List (List Nat) := (List.range t.length).map fun k => t.drop k
noncomputable def way2 (f : Int) : Bool := (f.fdiv 4).fmod 2 == 1
noncomputable def comers2 (f : Int) (t : List Nat) : List (List Nat) := (List.replicate 3 (if way2 f then (tails2 t).reverse else tails2 t)).flatten
noncomputable def strsV (l : List (List Nat)) : List V := l.map fun t => V.str (tx t)
theorem comers2_len (f : Int) (t : List Nat) : (comers2 f t).length = 3 * t.length := by
  unfold comers2
  split <;> simp [tails2] <;> omega
theorem comers2_mem {f : Int} {t w : List Nat} (hw : w ∈ comers2 f t) : ∃ k, k < t.length ∧ w = t.drop k := by
  unfold comers2 at hw
  obtain ⟨l, hl, hw⟩ := List.mem_flatten.mp hw
  have := (List.mem_replicate.mp hl).2
  subst this
  have hw : w ∈ tails2 t := by split at hw; exact List.mem_reverse.mp hw; exact hw
  obtain ⟨k, hk, rfl⟩ := List.mem_map.mp hw
  exact ⟨k, by simpa using hk, rfl⟩
/-- the item of a turn -/
noncomputable def itV (e : List Nat × Nat) : V := .lst [.str (tx e.1), .int (e.2 : Nat)]
noncomputable def cat (l : List (List Nat)) (i : Nat) : List Nat := l.getD i []

structure R2 (ρ : Nm) (f : Int) (t : List Nat) (cs : List (List Nat)) : Prop where
  first : ρ "first" = some (.int f)
  text : ρ "text" = some (.str (tx t))
  size : ρ "size" = some (.int t.length)
  comers : ρ "comers" = some (.lst (strsV cs))

section
variable {B : Bs} {n m : Nat} {st : Store} {Φ : Fl → Nm → Store → Prop}

theorem comers_part (h : L2 B) {L : Addr} {f : Int} {t : List Nat} {rest : List Stmt} {ρ : Nm} (ht : 1 ≤ t.length ∧ t.length ≤ 21) (r1 : ρ "first" = some (.int f)) (r2 : ρ "text" = some (.str (tx t))) (r3 : ρ "size" = some (.int t.length))
    (hbody : (bodyOf (fdOf (hd.heap_39 B.w.params) 42)).drop 3 = ((bodyOf (fdOf (hd.heap_39 B.w.params) 42)).drop 3).take 4 ++ rest)
    (hk : ∀ ρ : Nm, R2 ρ f t (comers2 f t) → ρ "items" = some (.ref 0) → EXD B (n + 8) (callEnvC (fdOf (hd.heap_39 B.w.params) 42) L 42) 0 ρ [[]] rest Φ) :
    EXD B (n + 8) (callEnvC (fdOf (hd.heap_39 B.w.params) 42) L 42) 0 ρ [] ((bodyOf (fdOf (hd.heap_39 B.w.params) 42)).drop 3) Φ := by
  rw [hbody]
  refine exd_cons ?_
  refine xc (PE.pm (v := .lst (strsV (tails2 t))) (PC.pe (out := strsV (tails2 t)) (pc_name (List.range t.length) (fun k => .int (k : Nat)) (fun _ => true) (fun k => .str (tx (t.drop k))) (by rw [ftrue]; simp [strsV, tails2]) (pi_rangeN (k := t.length) (pc r3) rfl (by omega) (g_range h)) rfl trivial (fun a _ C => pts_nil) (fun k _ _ C => ?_) (by simp [sizeLine]; omega))) ?_)
  · rw [← sub_from t (x := (k : Int)) k rfl]
    exact pe_sliceS (pc (nm_ne (rs r2))) (pp_some (pn nm_eq)) pp_none (by omega)
  have q1 : (upd ρ "comers" (.lst (strsV (tails2 t)))) "first" = some (.int f) := nm_ne r1
  have q2 : (upd ρ "comers" (.lst (strsV (tails2 t)))) "text" = some (.str (tx t)) := nm_ne r2
  have q3 : (upd ρ "comers" (.lst (strsV (tails2 t)))) "size" = some (.int t.length) := nm_ne r3
  have q4 : (upd ρ "comers" (.lst (strsV (tails2 t)))) "comers" = some (.lst (strsV (tails2 t))) := nm_eq
  generalize upd ρ "comers" (.lst (strsV (tails2 t))) = ρ at *
  refine exd_cons ?_
  refine x_ifJ (c := way2 f) (fun ρ st => st = [] ∧ R2 ρ f t (if way2 f then (tails2 t).reverse else tails2 t)) (pt_cmp (pe_bin (pe_bin (pc q1) pe_int (o_fdiv (by decide))) pe_int (o_mod (by decide))) pe_int o_eq) (fun hw => ?_) (fun hw => ?_) (fun ρ st hq => ?_)
  · refine ex_cons ?_
    refine xc (PE.pm (v := .lst (strsV (tails2 t).reverse)) ?_ (ex_nil ⟨rfl, rfl, ?_⟩))
    · have e : strsV (tails2 t).reverse = slc (strsV (tails2 t)) none none (some (-1)) := by rw [slc_rev]; simp [strsV]
      rw [e]
      exact pe_slice (pc q4) rfl pp_none pp_none (pp_some (pe_un pe_int o_neg)) (by simp) (by simp [strsV, tails2, sizeLine]; omega)
    · rw [hw]; exact ⟨nm_ne q1, nm_ne q2, nm_ne q3, nm_eq⟩
  · refine ex_nil ⟨rfl, rfl, ?_⟩
    rw [hw]; exact ⟨q1, q2, q3, q4⟩
  · obtain ⟨rfl, R⟩ := hq
    have hl : (if way2 f then (tails2 t).reverse else tails2 t).length = t.length := by split <;> simp [tails2]
    refine exd_cons ?_
    refine xc (PE.pm (v := .lst (strsV (comers2 f t))) ?_ ?_)
    · have e : strsV (comers2 f t) = (List.replicate 3 (strsV (if way2 f then (tails2 t).reverse else tails2 t))).flatten := by unfold comers2 strsV; simp
      rw [e]
      refine pe_bin (pc R.comers) pe_int (o_mulL (k := 3) rfl (fun e => ?_) (by simp only [strsV, List.length_map, hl]; omega) (by omega))
      have := congrArg List.length e
      simp only [strsV, List.length_map, hl, List.length_nil] at this
      omega
    refine exd_cons ?_
    refine xa (pm_list (vs := []) pes_nil ?_ (by simp))
    exact hk _ ⟨nm_ne (nm_ne R.first), nm_ne (nm_ne R.text), nm_ne (nm_ne R.size), nm_ne nm_eq⟩ nm_eq
end
end Mine

-- part Z2
namespace Mine
section
variable {B : Bs} {n m : Nat} {st : Store} {Φ : Fl → Nm → Store → Prop}

theorem one_lamS {B' : Bs} {p1 p2 p3 p4 : Pos} {q : Str} {pm cv ctv : Value} {f : Addr} (F : LamOk B' f (kla_fn "<lambda>" q { posonlyargs := [], args := [{ arg := "one", annotation := none, pos := p1 }], vararg := none, kwonlyargs := [], kw_defaults := [], kwarg := none, defaults := [] } (.Subscript (.Name "one" p2) (.Constant (.int 0) 0 p3) p4) { kind := .function, names := [(Str.ofString "one", .local)], isGenerator := false, isCoroutine := false, more := [] } [] pm cv ctv) (.Subscript (.Name "one" p2) (.Constant (.int 0) 0 p3) p4)) (e : List Nat × Nat) :
    PL B' (n + 1) st (fun xs => call (.ref f) xs) [itV e] (.str (tx e.1)) := by
  refine lam_pl F (names := ["one"]) (by kernel_rfl) rfl (fun xs hxs => ?_) fun L => ?_
  · match xs, hxs with
    | [y], _ => rfl
  · exact pe_sub (pn (v := itV e) rfl) pe_int (o_item (a := itV e) (l := [.str (tx e.1), .int (e.2 : Nat)]) rfl (by decide) rfl (by simp))
theorem bits_le2 {a : Int} {i : Nat} (h : a.natAbs < 2 ^ i) : Builtin.Int.intBits a ≤ i := by
  unfold Builtin.Int.intBits
  split
  · omega
  · rename_i hz
    have hne : a.natAbs ≠ 0 := by simpa using hz
    exact (Nat.log2_lt hne).mpr h
theorem mul3 (k : Nat) (hk : k < 1000) : IntMulOk 3 (k : Int) := by
  unfold IntMulOk
  have h1 := bits_le2 (a := 3) (i := 2) (by decide)
  have h2 := bits_le2 (a := (k : Int)) (i := 10) (by simp; omega)
  have : Builtin.Int.intTooBig ((Builtin.Int.intBits 3 + Builtin.Int.intBits (k : Int) : Nat) : Int) = false := by
    unfold Builtin.Int.intTooBig
    exact decide_eq_false (by have : bitsLine ≥ 100 := by decide
                              omega)
  rw [Int.natCast_add] at this
  simp [this]
theorem three_size {env : Env} {ρ : Nm} {p1 p2 p3 : Pos} {t : List Nat} (ht : t.length ≤ 21) (hs : PE B n env ρ st (.Name "size" p2) (.int t.length)) : PE B n env ρ st (.BinOp (.Constant (.int 3) 0 p1) .Mult (.Name "size" p2) p3) (.int ((3 * t.length : Nat) : Int)) := by
  have e : ((3 * t.length : Nat) : Int) = 3 * (t.length : Int) := by omega
  rw [e]
  exact pe_bin pe_int hs (o_mul (mul3 _ (by omega)))

theorem loop_part (h : L2 B) {L : Addr} {f : Int} {t : List Nat} {cs : List (List Nat)} {rest : List Stmt} {ρ : Nm} (ht : 1 ≤ t.length ∧ t.length ≤ 21) (hcl : cs.length = 3 * t.length) (R : R2 ρ f t cs) (hit : ρ "items" = some (.ref 0))
    (hbody : (bodyOf (fdOf (hd.heap_39 B.w.params) 42)).drop 7 = ((bodyOf (fdOf (hd.heap_39 B.w.params) 42)).drop 7).take 1 ++ rest)
    (hk : ∀ ρ : Nm, R2 ρ f t cs → ρ "items" = some (.ref 0) → EXD B (n + 8) (callEnvC (fdOf (hd.heap_39 B.w.params) 42) L 42) 0 ρ [(its (cat cs) (3 * t.length)).map itV] rest Φ) :
    EXD B (n + 8) (callEnvC (fdOf (hd.heap_39 B.w.params) 42) L 42) 0 ρ [[]] ((bodyOf (fdOf (hd.heap_39 B.w.params) 42)).drop 7) Φ := by
  rw [hbody]
  refine exd_cons ?_
  refine x_for (xs := ["turn"]) (pi_rangeN (k := 3 * t.length) (three_size ht.2 (pc R.size)) rfl (by omega) (g_range h)) trivial
    (fun i ρ st => R2 ρ f t cs ∧ ρ "items" = some (.ref 0) ∧ st = [(its (cat cs) i).map itV]) ⟨R, hit, rfl⟩ ?_ ?_
  · rintro i v ρ st hi ⟨R, hit, rfl⟩
    have hil : i < 3 * t.length := by have := (List.getElem?_eq_some_iff.mp hi).1; simpa using this
    obtain rfl : V.int (i : Nat) = v := by simpa [hil] using hi
    refine ⟨trivial, _, pa_name (by simp) (.inl (by kernel_rfl)), ?_⟩
    have hx : cs[i]? = some (cat cs i) := by unfold cat; rw [List.getD_eq_getElem?_getD, List.getElem?_eq_getElem (by omega)]; rfl
    have hil2 := its_len (cat cs) i
    refine ex_cons ?_
    refine x_expr ?_
    refine pm_callKey (t := ⟨41, 39, "law.<locals>.<lambda>"⟩) (f_ok h 23 (by kernel_rfl)) (by kernel_rfl) (g_g h (by kernel_rfl)) ⟨by rw [h.hT]; simp, by kernel_rfl, by kernel_rfl, by kernel_rfl, by rfl, by kernel_rfl⟩ (PEs.pms (vs := [.ref 0, itV (cat cs i, i)]) (pes_cons (pn (nm_ne hit)) (pes_cons (pe_list (pes_cons (pe_sub (pc (nm_ne R.comers)) (pn nm_eq) (o_item (l := strsV cs) (c := .str (tx (cat cs i))) rfl (by omega) (by simp [strsV, hx]) (by simp [strsV]; omega))) (pes_cons (pn nm_eq) pes_nil))) pes_nil)) ?_)
    intro B' hB' f' pm cv ctv F
    have h' := h.like hB'
    refine insort_om (n := n + 5) h' F (kx := .str (tx (cat cs i))) (l := (its (cat cs) i).map itV) (ks := (its (cat cs) i).map fun e => V.str (tx e.1)) (r := pl2 (its (cat cs) i) (cat cs i)) rfl (Nat.zero_le _) (by simp [sizeLine]; omega) ?_ (by simp) (one_lamS F (cat cs i, i)) (fun j v k hv hk => ?_) (fun j v hv => ?_) ?_
    · have : pl2 (its (cat cs) i) (cat cs i) ≤ (its (cat cs) i).length := by unfold pl2; exact (List.takeWhile_prefix _).length_le
      simpa using this
    · simp only [List.getElem?_map] at hv hk
      cases he : (its (cat cs) i)[j]? with
      | none => rw [he] at hv; cases hv
      | some e => rw [he] at hv hk; cases hv; cases hk; exact one_lamS F e
    · simp only [List.getElem?_map] at hv
      cases he : (its (cat cs) i)[j]? with
      | none => rw [he] at hv; cases hv
      | some e =>
        rw [he] at hv; cases hv
        exact o_strLt (pl2_iff (cat cs) i (cat cs i) he)
    · refine ex_nil ⟨⟨nm_ne R.first, nm_ne R.text, nm_ne R.size, nm_ne R.comers⟩, nm_ne hit, ?_⟩
      simp [its]
  · rintro ρ st ⟨R, hit, rfl⟩
    have hl2 : ((List.range (3 * t.length)).map fun j => V.int (j : Nat)).length = 3 * t.length := by simp
    rw [hl2]
    exact ⟨trivial, hk ρ R hit⟩
end
end Mine

-- part Q2
namespace Mine
section
variable {B : Bs} {n m : Nat} {st : Store} {Φ : Fl → Nm → Store → Prop}

theorem ints_py (l : List Int) : py st 3 (.lst (l.map V.int)) = some (.list (l.map PyData.int)) := by
  have : ∀ l : List Int, pys st 2 (l.map V.int) = some (l.map PyData.int) := fun l => by
    induction l with
    | nil => simp [pys]
    | cons a l ih => simp [pys, py, ih]
  simp [py, this]

theorem ints_shaped (l : List Int) : SeqAt.shaped (.list (l.map PyData.int)) = true := by
  have : PyData.canLayAll0 (l.map PyData.int) = true ∧ PyData.depthAll (l.map PyData.int) ≤ 1 := by
    induction l with
    | nil => simp [PyData.canLayAll0, PyData.depthAll]
    | cons a l ih => simp [PyData.canLayAll0, PyData.depthAll, PyData.canLay0, PyData.depth, ih.1]; have := ih.2; omega
  simp only [SeqAt.shaped, PyData.canLay0, this.1, PyData.depth, Bool.true_and, decide_eq_true_eq, Nat.reduceLeDiff]
  have := this.2
  omega
/-- two names as the target, the items are lists -/
theorem pc_twoL {env : Env} {ρ : Nm} {α : Type} {elt iter : Expr} {x y : Str} {px py pt : Pos} {kt : Nat} {ifs : List Expr} {scope : Scope} {pos : Pos} {Cond : Store → Prop} {Tg : Expr → Prop} {pl : Bool} (as : List α) (c d : α → V) (p : α → Bool) (f : α → V) {vs out : List V} (hout : out = (as.filter p).map f) (hiter : PI B n env ρ st iter vs Cond Tg pl) (hvs : vs = as.map fun a => V.lst [c a, d a]) (htg : Tg (.Tuple [.Name x px, .Name y py] kt pt))
    (hp : ∀ a ∈ as, ∀ C, PTs B n (cEnv scope C env) (upd (upd (restr scope ρ) x (c a)) y (d a)) st ifs (p a)) (hf : ∀ a ∈ as, p a = true → ∀ C, PE B n (cEnv scope C env) (upd (upd (restr scope ρ) x (c a)) y (d a)) st elt (f a))
    (hsz : as.length ≤ sizeLine) (ok : okScope env scope = true := by kernel_rfl) (hx : scope.names.lookup x = some .local := by kernel_rfl) (hy : scope.names.lookup y = some .local := by kernel_rfl) (hs : ∀ x, foldedSetIterable iter env x = pure x := by intro _; rfl) :
    PC B n env ρ st (.ListComp elt [⟨.Tuple [.Name x px, .Name y py] kt pt, iter, ifs, 0⟩] scope pos) out :=
  pc_if [x, y] as _ (fun a => upd (upd (restr scope ρ) x (c a)) y (d a)) p f hout hiter hvs htg ok (fun z hz => by simp at hz; rcases hz with rfl | rfl <;> exact .inl (by assumption))
    (fun a _ C => pa_tupleL (pas_cons (pa_name (by simp) (kind_comp (.inl hx))) (pas_cons (pa_name (by simp) (kind_comp (.inl hy))) pas_nil))) (fun a _ => upd_weak (.inl hy) (upd_weak (.inl hx) fun _ _ h => h)) hp hf hsz hs

/-- the answer is as sorted tells -/
theorem check_part (h : L2 B) {L : Addr} {f : Int} {t : List Nat} {cs : List (List Nat)} {rest : List Stmt} {ρ : Nm} (ht : 1 ≤ t.length ∧ t.length ≤ 21) (hcl : cs.length = 3 * t.length) (R : R2 ρ f t cs) (hit : ρ "items" = some (.ref 0))
    (hbody : (bodyOf (fdOf (hd.heap_39 B.w.params) 42)).drop 8 = ((bodyOf (fdOf (hd.heap_39 B.w.params) 42)).drop 8).take 1 ++ rest)
    (hk : EXD B (n + 8) (callEnvC (fdOf (hd.heap_39 B.w.params) 42) L 42) 0 ρ [(its (cat cs) (3 * t.length)).map itV] rest Φ) :
    EXD B (n + 8) (callEnvC (fdOf (hd.heap_39 B.w.params) 42) L 42) 0 ρ [(its (cat cs) (3 * t.length)).map itV] ((bodyOf (fdOf (hd.heap_39 B.w.params) 42)).drop 8) Φ := by
  rw [hbody]
  have hil := its_len (cat cs) (3 * t.length)
  have e1 : ((its (cat cs) (3 * t.length)).map (·.2)).map (fun (i : Nat) => V.int i) = ((its (cat cs) (3 * t.length)).map fun e => ((e.2 : Nat) : Int)).map V.int := by simp [Function.comp_def]
  refine exd_cons ?_
  refine x_if (c := false) (pt_cmp (a := .lst (((its (cat cs) (3 * t.length)).map fun e => ((e.2 : Nat) : Int)).map V.int)) (b := .lst (((its (cat cs) (3 * t.length)).map fun e => ((e.2 : Nat) : Int)).map V.int)) ?_ ?_ (o_neSame 3 3 (d := .list (((its (cat cs) (3 * t.length)).map fun e => ((e.2 : Nat) : Int)).map PyData.int)) (ints_py _) (ints_py _) ?_)) (fun h => by cases h) fun _ => ?_
  · exact PC.pe (pc_twoL (its (cat cs) (3 * t.length)) (fun e => .str (tx e.1)) (fun e => .int (e.2 : Nat)) (fun _ => true) (fun e => .int (e.2 : Nat)) (by rw [ftrue]; simp) (pi_list (a := .ref 0) (l := (its (cat cs) (3 * t.length)).map itV) (pn hit) rfl) rfl trivial (fun e _ C => pts_nil) (fun e _ _ C => pn nm_eq) (by rw [hil]; simp [sizeLine]; omega))
  · rw [← e1]
    refine pe_sortedRange (n := n + 6) (N := 3 * t.length) (x := "comers") (t := ⟨41, 39, "law.<locals>.<lambda>"⟩) (ss := cs.map tx) (fun i => (tx (cat cs i), -(i : Int))) ((its (cat cs) (3 * t.length)).map (·.2)) (three_size ht.2 (pc R.size)) (by omega) (by omega) (g_b h (by kernel_rfl) (by decide +kernel) (by decide +kernel)) (by kernel_rfl) (g_range h) (by kernel_rfl) ?site (by rw [List.map_map]; exact R.comers) (fun B' hB' f' c pm cv ctv F i hi => ?_) (fun i j e => by have := congrArg Prod.snd e; simp at this; omega) (fun p hp hs => its_turns (cat cs) _ hp hs)
    case site =>
      refine ⟨by rw [h.hT]; simp, by kernel_rfl, by kernel_rfl, by kernel_rfl, by kernel_rfl, by rfl, fun y hy hf => ?_, by kernel_rfl⟩
      simp only [List.mem_cons, List.not_mem_nil, or_false] at hy
      rcases hy with rfl | rfl
      · cases hf
      · rfl
    · have hx : cs[i]? = some (cat cs i) := by unfold cat; rw [List.getD_eq_getElem?_getD, List.getElem?_eq_getElem (by omega)]; rfl
      refine lam_plC (p := "turn") F (by kernel_rfl) (by kernel_rfl) (fun y => rfl) fun L' => ?_
      exact pe_tuple (pes_cons (pe_sub (pf (v := .lst ((cs.map tx).map V.str)) (by rfl)) (pn (v := .int (i : Nat)) (by rfl)) (o_item (l := (cs.map tx).map V.str) rfl (by omega) (by simp [hx]) (by simp; omega))) (pes_cons (pe_un (pn (v := .int (i : Nat)) (by rfl)) o_neg) pes_nil))
  · exact ints_shaped _
  · exact ex_nil hk
end
end Mine

-- part U2
namespace Mine
noncomputable def wd (tl : List (List Nat)) (i : Nat) : List Nat := tl.getD i []
theorem zipV_strs : ∀ a b : List (List Nat), zipV (strsV a) (strsV b) = (List.zip a b).map fun p => V.tup [.str (tx p.1), .str (tx p.2)]
  | [], _ => by simp [zipV, strsV]
  | _ :: _, [] => by simp [zipV, strsV]
  | x :: a, y :: b => by
    have := zipV_strs a b
    simp only [zipV, strsV, List.map_cons, List.zipWith_cons_cons, List.zip_cons_cons] at this ⊢
    rw [this]
section
variable {B : Bs} {n m : Nat} {st : Store} {Φ : Fl → Nm → Store → Prop}

/-- tails and what they have in common -/
theorem tails_part (h : L2 B) {L : Addr} {f : Int} {t : List Nat} {cs : List (List Nat)} {es : List (List Nat × Nat)} {rest : List Stmt} {ρ : Nm} (hel : es.length ≤ 63) (hsh : ∀ e ∈ es, e.1.length ≤ 21) (R : R2 ρ f t cs) (hit : ρ "items" = some (.ref 0))
    (hbody : (bodyOf (fdOf (hd.heap_39 B.w.params) 42)).drop 9 = ((bodyOf (fdOf (hd.heap_39 B.w.params) 42)).drop 9).take 2 ++ rest)
    (hk : ∀ ρ : Nm, R2 ρ f t cs → ρ "tails" = some (.lst (strsV (es.map (·.1)))) → ρ "common" = some (.lst ((0 :: (List.zip (es.map (·.1)) (es.map (·.1)).tail).map fun p => ((lcp p.1 p.2 : Nat) : Int)).map V.int)) → EXD B (n + 8) (callEnvC (fdOf (hd.heap_39 B.w.params) 42) L 42) 0 ρ [es.map itV] rest Φ) :
    EXD B (n + 8) (callEnvC (fdOf (hd.heap_39 B.w.params) 42) L 42) 0 ρ [es.map itV] ((bodyOf (fdOf (hd.heap_39 B.w.params) 42)).drop 9) Φ := by
  rw [hbody]
  refine exd_cons ?_
  refine xc (PE.pm (v := .lst (strsV (es.map (·.1)))) (PC.pe (out := strsV (es.map (·.1))) (pc_twoL es (fun e => .str (tx e.1)) (fun e => .int (e.2 : Nat)) (fun _ => true) (fun e => .str (tx e.1)) (by rw [ftrue]; simp [strsV]) (pi_list (a := .ref 0) (l := es.map itV) (pn hit) rfl) rfl trivial (fun e _ C => pts_nil) (fun e _ _ C => pn (nm_ne nm_eq)) (by simp [sizeLine]; omega))) ?_)
  have hsh' : ∀ w ∈ es.map (·.1), w.length ≤ 21 := fun w hw => by obtain ⟨e, he, rfl⟩ := List.mem_map.mp hw; exact hsh e he
  have htl : (es.map (·.1)).length ≤ 63 := by simpa using hel
  generalize es.map (·.1) = tl at *
  refine exd_cons ?_
  refine xc (PE.pm (v := .lst ((0 :: (List.zip tl tl.tail).map fun p => ((lcp p.1 p.2 : Nat) : Int)).map V.int)) ?_ ?_)
  · have e : ((0 :: (List.zip tl tl.tail).map fun p => ((lcp p.1 p.2 : Nat) : Int)).map V.int) = [.int 0] ++ (List.zip tl tl.tail).map fun p => V.int (lcp p.1 p.2 : Nat) := by simp
    rw [e]
    have hz : (List.zip tl tl.tail).length ≤ 63 := by simp; omega
    refine pe_bin (pe_list (pes_cons pe_int pes_nil)) (PC.pe (pc_two (List.zip tl tl.tail) (fun p => .str (tx p.1)) (fun p => .str (tx p.2)) (fun _ => true) (fun p => .int (lcp p.1 p.2 : Nat)) (by rw [ftrue]) (pi_zip (l := strsV tl) (m := strsV tl.tail) (pc nm_eq) (b := .lst (strsV tl.tail)) ?_ rfl rfl (g_b h (by kernel_rfl) (by decide +kernel) (by decide +kernel)) (by kernel_rfl)) ?_ ⟨_, _, _, rfl⟩ (fun e _ C => pts_nil) (fun p hp _ C => ?_) (by simp [sizeLine]; omega))) (o_addL rfl rfl (by simp [sizeLine]; omega))
    · have e : strsV tl.tail = slc (strsV tl) (some 1) none none := by rw [slc_from (x := 1) _ 1 rfl]; simp [strsV]
      rw [e]
      exact pe_slice (pc nm_eq) rfl (pp_some pe_int) pp_none pp_none (by simp) (by simp [strsV, sizeLine]; omega)
    · exact zipV_strs _ _
    · have h1 := hsh' _ (List.of_mem_zip hp).1
      have h2 := hsh' _ (List.mem_of_mem_tail (List.of_mem_zip hp).2)
      exact pe_callFn (f_ok h 37 (by kernel_rfl)) (by kernel_rfl) (g_g h (by kernel_rfl)) (pes_cons (pn (nm_ne nm_eq)) (pes_cons (pn nm_eq) pes_nil)) (common_pl h (by omega) (by omega))
  exact hk _ ⟨nm_ne (nm_ne R.first), nm_ne (nm_ne R.text), nm_ne (nm_ne R.size), nm_ne (nm_ne R.comers)⟩ (nm_ne nm_eq) nm_eq
end
end Mine

-- part V2
namespace Mine
theorem common_eq (tl : List (List Nat)) (hne : tl ≠ []) : (0 :: (List.zip tl tl.tail).map fun p => ((lcp p.1 p.2 : Nat) : Int)) = (List.range tl.length).map fun i => ((cmn (wd tl) i : Nat) : Int) := by
  apply List.ext_getElem
  · cases tl with
    | nil => exact absurd rfl hne
    | cons a l => simp
  · intro i h1 h2
    simp at h2
    cases i with
    | zero => simp [cmn]
    | succ i =>
      have e1 : wd tl i = tl[i]'(by omega) := by unfold wd; rw [List.getD_eq_getElem?_getD, List.getElem?_eq_getElem (by omega)]; rfl
      have e2 : wd tl (i + 1) = tl[i + 1]'(by omega) := by unfold wd; rw [List.getD_eq_getElem?_getD, List.getElem?_eq_getElem (by omega)]; rfl
      simp [cmn, e1, e2]
theorem sum_cast (W : Nat → List Nat) (k : Nat) : ((List.range k).map fun i => (((W i).length : Nat) : Int) - ((cmn W i : Nat) : Int)).sum = (((allP W k).length : Nat) : Int) := by
  rw [allP_len]
  induction k with
  | zero => rfl
  | succ k ih =>
    rw [List.range_succ, List.map_append, List.sum_append, ih, List.map_append, List.sum_append]
    have := cmn_le W k
    simp
    omega
section
variable {B : Bs} {n m : Nat} {st : Store} {Φ : Fl → Nm → Store → Prop}
theorem sums_part (h : L2 B) {L : Addr} {f : Int} {t : List Nat} {cs : List (List Nat)} {tl : List (List Nat)} {rest : List Stmt} {ρ : Nm} (ht : 1 ≤ t.length ∧ t.length ≤ 21) (htl : tl.length = 3 * t.length) (hsh : ∀ w ∈ tl, w.length ≤ 21) (R : R2 ρ f t cs) (h1 : ρ "tails" = some (.lst (strsV tl))) (h2 : ρ "common" = some (.lst (((List.range tl.length).map fun i => ((cmn (wd tl) i : Nat) : Int)).map V.int)))
    (hbody : (bodyOf (fdOf (hd.heap_39 B.w.params) 42)).drop 11 = ((bodyOf (fdOf (hd.heap_39 B.w.params) 42)).drop 11).take 1 ++ rest)
    (hk : ∀ ρ : Nm, R2 ρ f t cs → ρ "tails" = some (.lst (strsV tl)) → ρ "sums" = some (.lst (((List.range tl.length).map fun k => (((allP (wd tl) (k + 1)).length : Nat) : Int)).map V.int)) → EXD B (n + 8) (callEnvC (fdOf (hd.heap_39 B.w.params) 42) L 42) 0 ρ st rest Φ) :
    EXD B (n + 8) (callEnvC (fdOf (hd.heap_39 B.w.params) 42) L 42) 0 ρ st ((bodyOf (fdOf (hd.heap_39 B.w.params) 42)).drop 11) Φ := by
  rw [hbody]
  refine exd_cons ?_
  refine xu (out := ((List.range tl.length).map fun k => (((allP (wd tl) (k + 1)).length : Nat) : Int)).map V.int) (pc_name (List.range tl.length) (fun k => .int (k : Nat)) (fun _ => true) (fun k => .int (((allP (wd tl) (k + 1)).length : Nat) : Int)) (by rw [ftrue]; simp) (pi_rangeN (k := 3 * t.length) (three_size ht.2 (pc R.size)) (by rw [htl]) (by omega) (g_range h)) rfl trivial (fun a _ C => pts_nil) (fun k hk _ C => ?_) (by simp [sizeLine]; omega)) ?_
  · have hk : k < tl.length := by simpa using hk
    rw [← sum_cast]
    refine pe_callB (g_b h (by kernel_rfl) (v := .builtin "sum") (by decide +kernel) (by decide +kernel)) (by kernel_rfl) (pes_cons (PC.pe (out := ((List.range (k + 1)).map fun i => (((wd tl i).length : Nat) : Int) - ((cmn (wd tl) i : Nat) : Int)).map V.int) (pc_name (List.range (k + 1)) (fun i => .int (i : Nat)) (fun _ => true) (fun i => .int ((((wd tl i).length : Nat) : Int) - ((cmn (wd tl) i : Nat) : Int))) (by rw [ftrue]; simp) (pi_rangeN (k := k + 1) (pe_bin (pn nm_eq) pe_int o_add) rfl (by omega) (g_range h)) rfl trivial (fun a _ C => pts_nil) (fun i hi _ C' => ?_) (by simp [sizeLine]; omega))) pes_nil) (o_sumL rfl)
    have hi : i < tl.length := by simp at hi; omega
    have hx : tl[i]? = some (wd tl i) := by unfold wd; rw [List.getD_eq_getElem?_getD, List.getElem?_eq_getElem hi]; rfl
    have hw := hsh _ (List.mem_of_getElem? hx)
    exact pe_bin (pe_callB (g_len h) (by kernel_rfl) (pes_cons (pe_sub (pc (nm_ne (rs (nm_ne (rs h1))))) (pn nm_eq) (o_item (l := strsV tl) (c := .str (tx (wd tl i))) rfl (by omega) (by simp [strsV, hx]) (by simp [strsV]; omega))) pes_nil) (o_strLen (by omega))) (pe_sub (pc (nm_ne (rs (nm_ne (rs h2))))) (pn nm_eq) (o_item (l := ((List.range tl.length).map fun i => ((cmn (wd tl) i : Nat) : Int)).map V.int) rfl (by omega) (by simp [hi]) (by simp; omega))) o_sub
  · exact hk _ ⟨nm_ne R.first, nm_ne R.text, nm_ne R.size, nm_ne R.comers⟩ (nm_ne h1) nm_eq
end
end Mine

-- part P2
namespace Mine
open Mine.Ts
/-- all parts of a text, one by one -/
noncomputable def subs2 (t : List Nat) : List (List Nat) := ((List.range t.length).map fun i => (List.range (t.length - i)).map fun d => (t.drop i).take (d + 1)).flatten
theorem subs2_mem {t p : List Nat} : p ∈ subs2 t ↔ ∃ i, i < t.length ∧ ∃ L, 1 ≤ L ∧ L ≤ (t.drop i).length ∧ p = (t.drop i).take L := by
  unfold subs2
  simp only [List.mem_flatten, List.mem_map, List.mem_range]
  constructor
  · rintro ⟨l, ⟨i, hi, rfl⟩, hp⟩
    obtain ⟨d, hd, rfl⟩ := List.mem_map.mp hp
    exact ⟨i, hi, d + 1, by omega, by simp at hd ⊢; omega, rfl⟩
  · rintro ⟨i, hi, L, h1, h2, rfl⟩
    refine ⟨_, ⟨i, hi, rfl⟩, List.mem_map.mpr ⟨L - 1, by simp at h2 ⊢; omega, by rw [show L - 1 + 1 = L by omega]⟩⟩
theorem sum_le_mul : ∀ (l : List Nat) (b : Nat), (∀ x ∈ l, x ≤ b) → l.sum ≤ l.length * b
  | [], b, _ => by simp
  | a :: l, b, h => by
    have := sum_le_mul l b fun x hx => h x (List.mem_cons_of_mem _ hx)
    have := h a List.mem_cons_self
    simp only [List.sum_cons, List.length_cons, Nat.add_mul, Nat.one_mul]; omega
theorem subs2_len {t : List Nat} (ht : t.length ≤ 21) : (subs2 t).length ≤ 441 := by
  unfold subs2
  rw [List.length_flatten, List.map_map]
  have := sum_le_mul ((List.range t.length).map (List.length ∘ fun i => (List.range (t.length - i)).map fun d => (t.drop i).take (d + 1))) 21 (fun x hx => by
    obtain ⟨i, hi, rfl⟩ := List.mem_map.mp hx
    simp; omega)
  simp at this ⊢
  have h2 : t.length * 21 ≤ 21 * 21 := Nat.mul_le_mul_right _ ht
  omega
noncomputable def outs2 (t : List Nat) : List (List (List V)) := (List.range t.length).map fun i => (List.range (t.length - i)).map fun d => [V.str (tx ((t.drop i).take (d + 1)))]
theorem outs2_eq (t : List Nat) : ((outs2 t).map List.flatten).flatten = strsV (subs2 t) := by
  have one : ∀ (l : List Nat) (g : Nat → V), (l.map fun d => [g d]).flatten = l.map g := fun l g => by induction l with | nil => rfl | cons a l ih => simp [ih]
  unfold outs2 strsV subs2
  rw [List.map_map, List.map_flatten, List.map_map]
  congr 1
  refine List.map_congr_left fun i _ => ?_
  simp only [Function.comp_apply, one, List.map_map]
  rfl
theorem upd_new {ρ : Nm} {x : Str} {v : V} (h : ρ x = none) : ∀ y u, ρ y = some u → upd ρ x v y = some u := fun y u hy => by
  unfold upd
  rw [if_neg fun e => by subst e; rw [h] at hy; cases hy]
  exact hy
theorem none_ne {ρ : Nm} {x y : Str} {v : V} (h : ρ y = none) (hne : y ≠ x := by decide +kernel) : upd ρ x v y = none := by unfold upd; rw [if_neg hne]; exact h
theorem none_rs {scope : Scope} {ρ : Nm} {x : Str} (hk : scope.names.lookup x = some .local := by kernel_rfl) : restr scope ρ x = none := by unfold restr; rw [hk]; rfl
/-- strictly rising lists of the same members are the same -/
theorem pw_ext {α : Type} {r : α → α → Prop} (irr : ∀ a, ¬ r a a) (tr : ∀ a b c, r a b → r b c → r a c) : ∀ {l m : List α}, l.Pairwise r → m.Pairwise r → (∀ x, x ∈ l ↔ x ∈ m) → l = m
  | [], [], _, _, _ => rfl
  | [], b :: m, _, _, h => by have := (h b).mpr List.mem_cons_self; cases this
  | a :: l, [], _, _, h => by have := (h a).mp List.mem_cons_self; cases this
  | a :: l, b :: m, h1, h2, h => by
    obtain ⟨ha, hl⟩ := List.pairwise_cons.mp h1
    obtain ⟨hb, hm⟩ := List.pairwise_cons.mp h2
    have e : a = b := by
      rcases List.mem_cons.mp ((h a).mp List.mem_cons_self) with e | h3
      · exact e
      · rcases List.mem_cons.mp ((h b).mpr List.mem_cons_self) with e | h4
        · exact e.symm
        · exact absurd (tr _ _ _ (ha _ h4) (hb _ h3)) (irr _)
    subst e
    rw [pw_ext irr tr hl hm fun x => ?_]
    constructor
    · intro hx
      rcases List.mem_cons.mp ((h x).mp (List.mem_cons_of_mem _ hx)) with e | h3
      · subst e; exact absurd (ha _ hx) (irr _)
      · exact h3
    · intro hx
      rcases List.mem_cons.mp ((h x).mpr (List.mem_cons_of_mem _ hx)) with e | h3
      · subst e; exact absurd (hb _ hx) (irr _)
      · exact h3
section
variable {B : Bs} {n m : Nat} {st : Store} {Φ : Fl → Nm → Store → Prop}
theorem parts_part (h : L2 B) {L : Addr} {f : Int} {t : List Nat} {cs : List (List Nat)} {rest : List Stmt} {ρ : Nm} (P : List (List Nat)) (ht : 1 ≤ t.length ∧ t.length ≤ 21) (R : R2 ρ f t cs)
    (hP : P.Pairwise (· < ·)) (hPm : ∀ p, p ∈ P ↔ p ∈ subs2 t)
    (hbody : (bodyOf (fdOf (hd.heap_39 B.w.params) 42)).drop 12 = ((bodyOf (fdOf (hd.heap_39 B.w.params) 42)).drop 12).take 1 ++ rest)
    (hk : EXD B (n + 8) (callEnvC (fdOf (hd.heap_39 B.w.params) 42) L 42) 0 (upd ρ "parts" (.lst (strsV P))) st rest Φ) :
    EXD B (n + 8) (callEnvC (fdOf (hd.heap_39 B.w.params) 42) L 42) 0 ρ st ((bodyOf (fdOf (hd.heap_39 B.w.params) 42)).drop 12) Φ := by
  rw [hbody]
  have hne : (subs2 t) ≠ [] := fun e => by
    have : t.take 1 ∈ subs2 t := subs2_mem.mpr ⟨0, by omega, 1, by omega, by simp; omega, by simp⟩
    rw [e] at this; cases this
  refine exd_consD ?_
  refine x_assignD (pmd_sortedSet (a := .lst (strsV (subs2 t))) (ss := (subs2 t).map tx) (P.map tx) ?_ ?_ ?_ ?_ (g_b h (by kernel_rfl) (by decide +kernel) (by decide +kernel)) (by kernel_rfl) (g_b h (by kernel_rfl) (by decide +kernel) (by decide +kernel)) (by kernel_rfl) (fun ts h1 h2 h3 => ?_) ?_) (.inr (by kernel_rfl))
  · rw [← outs2_eq]
    refine PC.pe (pc_comp2 (xs := ["i", "j"]) (pi_rangeN (k := t.length) (pc R.size) rfl (by omega) (g_range h)) trivial (by kernel_rfl) (fun x hx => ?_) (outs2 t) (by simp [outs2]) (fun i v os hv hos C => ?_) ?_)
    · simp only [List.mem_cons, List.not_mem_nil, or_false] at hx
      rcases hx with rfl | rfl <;> exact .inl (by kernel_rfl)
    · have hi : i < t.length := by have := (List.getElem?_eq_some_iff.mp hv).1; simpa using this
      obtain rfl : V.int (i : Nat) = v := by simpa [hi] using hv
      obtain rfl : (List.range (t.length - i)).map (fun d => [V.str (tx ((t.drop i).take (d + 1)))]) = os := by simpa [outs2, hi] using hos
      have e0 : ((t.length : Int) + 1 - ((i : Int) + 1)).toNat = t.length - i := by omega
      refine ⟨_, _, _, _, _, pa_name (by simp) (kind_comp (.inl (by kernel_rfl))), upd_weak (.inl (by kernel_rfl)) fun _ _ h => h, pi_range2 (a := (i : Int) + 1) (b := (t.length : Int) + 1) (pe_bin (pn nm_eq) pe_int o_add) (pe_bin (pc (nm_ne (rs R.size))) pe_int o_add) (by omega) (by omega) (g_range h) (by kernel_rfl), trivial, by simp [rng, e0], fun j v out hv2 hout => ?_⟩
      have hj : j < t.length - i := by have := (List.getElem?_eq_some_iff.mp hout).1; simpa using this
      obtain rfl : V.int ((i : Int) + 1 + j) = v := by simpa [rng, e0, hj] using hv2
      obtain rfl : [V.str (tx ((t.drop i).take (j + 1)))] = out := by simpa [hj] using hout
      refine ⟨_, true, .str (tx ((t.drop i).take (j + 1))), pa_name (by simp) (kind_comp (.inl (by kernel_rfl))), pts_nil, fun _ => ?_, rfl, fun y u hy => ?_⟩
      · have e := sub_both t (x := (i : Int)) (y := (i : Int) + 1 + j) i (i + 1 + j) rfl (by omega) (by omega)
        rw [show i + 1 + j - i = j + 1 by omega] at e
        rw [← e]
        exact pe_sliceS (pc (nm_ne (nm_ne (rs R.text)))) (pp_some (pn (nm_ne nm_eq))) (pp_some (pn nm_eq)) (by omega)
      · exact upd_new (none_ne none_rs) _ _ hy
    · rw [outs2_eq]; simp [strsV, sizeLine]; have := subs2_len ht.2; omega
  · simp [lis, strsV]
  · simpa using hne
  · have := subs2_len ht.2; simp; omega
  · refine pw_ext (fun a => slt_irrefl a) (fun a b c => slt_trans) h3 (List.pairwise_map.mpr (hP.imp fun hab => slt_tx.mpr hab)) fun x => ?_
    rw [h2 x, List.mem_map, List.mem_map]
    exact ⟨fun ⟨p, hp, e⟩ => ⟨p, (hPm p).mpr hp, e⟩, fun ⟨p, hp, e⟩ => ⟨p, (hPm p).mp hp, e⟩⟩
  · simp only [List.map_map]; exact hk
end
end Mine

-- part T2
namespace Mine
structure R3 (ρ : Nm) (tl P : List (List Nat)) : Prop where
  tails : ρ "tails" = some (.lst (strsV tl))
  sums : ρ "sums" = some (.lst (((List.range tl.length).map fun k => (((allP (wd tl) (k + 1)).length : Nat) : Int)).map V.int))
  parts : ρ "parts" = some (.lst (strsV P))
theorem wd_at {tl : List (List Nat)} {i : Nat} (hi : i < tl.length) : tl[i]? = some (wd tl i) := by unfold wd; rw [List.getD_eq_getElem?_getD, List.getElem?_eq_getElem hi]; rfl
theorem allP_bound {tl : List (List Nat)} (htl : tl.length ≤ 63) (hsh : ∀ w ∈ tl, w.length ≤ 21) : (allP (wd tl) tl.length).length ≤ 1323 := by
  rw [allP_len]
  have := sum_le_mul ((List.range tl.length).map fun i => (wd tl i).length - cmn (wd tl) i) 21 fun x hx => by
    obtain ⟨i, hi, rfl⟩ := List.mem_map.mp hx
    have := hsh _ (List.mem_of_getElem? (wd_at (by simpa using hi)))
    omega
  simp only [List.length_map, List.length_range] at this
  have : tl.length * 21 ≤ 63 * 21 := Nat.mul_le_mul_right _ htl
  omega
section
variable {B : Bs} {n m : Nat} {st : Store} {Φ : Fl → Nm → Store → Prop}
theorem last_part (h : L2 B) {L : Addr} {tl P : List (List Nat)} {ρ : Nm} (htl : tl.length ≤ 63) (hsh : ∀ w ∈ tl, w.length ≤ 21) (hord : ∀ i j, i ≤ j → j < tl.length → ¬ wd tl j < wd tl i) (hP : P = allP (wd tl) tl.length) (R : R3 ρ tl P)
    (hk : ∀ ρ, Φ (.ret (.bool true)) ρ st) :
    EXD B (n + 8) (callEnvC (fdOf (hd.heap_39 B.w.params) 42) L 42) 0 ρ st ((bodyOf (fdOf (hd.heap_39 B.w.params) 42)).drop 13) Φ := by
  have hPl : P.length ≤ 1323 := by rw [hP]; exact allP_bound htl hsh
  have hlen : (strsV P).length = P.length := by simp [strsV]
  refine exd_cons ?_
  refine x_for (xs := ["k"]) (pi_rangeN (k := P.length) (pe_callB (g_len h) (by kernel_rfl) (pes_cons (pc R.parts) pes_nil) (o_lenN (l := strsV P) rfl hlen (by omega))) rfl (by omega) (g_range h)) trivial
    (fun i ρ st' => R3 ρ tl P ∧ st' = st) ⟨R, rfl⟩ ?_ ?_
  · rintro i v ρ st' hi ⟨R, rfl⟩
    have hil : i < P.length := by have := (List.getElem?_eq_some_iff.mp hi).1; simpa using this
    obtain rfl : V.int (i : Nat) = v := by simpa [hil] using hi
    obtain ⟨p, hp⟩ : ∃ p, P[i]? = some p := ⟨_, List.getElem?_eq_getElem hil⟩
    obtain ⟨j, hj, hj1, hj2, hj3, hj4⟩ := allP_at hord (Nat.le_refl _) (hP ▸ hp)
    have hpl : p.length ≤ 21 := by
      have h1 := hsh _ (List.mem_of_getElem? (wd_at hj))
      have := congrArg List.length hj3
      simp at this; omega
    refine ⟨trivial, _, pa_name (by simp) (.inr (by kernel_rfl)), ?_⟩
    have q1 : (upd ρ "k" (.int (i : Nat))) "k" = some (.int (i : Nat)) := nm_eq
    have R' : R3 (upd ρ "k" (.int (i : Nat))) tl P := ⟨nm_ne R.tails, nm_ne R.sums, nm_ne R.parts⟩
    generalize upd ρ "k" (.int (i : Nat)) = ρ' at *
    clear R
    refine ex_cons ?_
    refine xc ?_
    refine pm_meth (v₀ := .lst (strsV (tl.map fun w => w.take p.length))) (l := strsV (tl.map fun w => w.take p.length)) (PC.pe (out := strsV (tl.map fun w => w.take p.length)) (pc_name tl (fun w => .str (tx w)) (fun _ => true) (fun w => .str (tx (w.take p.length))) (by rw [ftrue]; simp [strsV]) (pi_list (l := strsV tl) (pc R'.tails) rfl) rfl trivial (fun a _ C => pts_nil) (fun w hw _ C => ?_) (by simp [sizeLine]; omega))) rfl ?_ F.slot_list_index rfl
    · have hwl := hsh w hw
      rw [← sub_upto w (x := (p.length : Int)) p.length rfl]
      exact pe_sliceS (pn nm_eq) pp_none (pp_some (pe_callB (g_len h) (by kernel_rfl) (pes_cons (pe_sub (pc (nm_ne (rs R'.parts))) (pc (nm_ne (rs q1))) (o_item (l := strsV P) (c := .str (tx p)) rfl (by omega) (by simp [strsV, hp]) (by simp [strsV]; omega))) pes_nil) (o_strLen (by omega)))) (by omega)
    refine PEs.pms (pes_cons (pe_sub (pc R'.parts) (pc q1) (o_item (l := strsV P) (c := .str (tx p)) rfl (by omega) (by simp [strsV, hp]) (by simp [strsV]; omega))) pes_nil) ?_
    refine PL.om (o_indexS (ns := tl.map fun w => w.take p.length) (x := p) (j := j) (by simp [lis, strsV]) (by rw [List.getElem?_map, wd_at hj]; exact congrArg some hj3) (fun i' y hi' hy => ?_) (by simp; omega)) ?_
    · rw [List.getElem?_map, wd_at (by omega)] at hy
      cases hy
      exact hj4 i' hi'
    refine ex_cons ?_
    refine x_if (c := false) (pt_cmp (a := .int (j : Nat)) (pe_callFn (f_ok h 32 (by kernel_rfl)) (by kernel_rfl) (g_g h (by kernel_rfl)) (pes_cons (pn (nm_ne R'.sums)) (pes_cons (pe_bin (pc (nm_ne q1)) pe_int o_add) pes_nil)) (left_pl (n := n + 6) h rfl (by simp; omega) (by simp; omega) fun q v hv => ?_)) (pc nm_eq) o_neF) (fun h => by cases h) fun _ => ?_
    · have hql : q < tl.length := by have := (List.getElem?_eq_some_iff.mp hv).1; simpa using this
      obtain rfl : V.int (((allP (wd tl) (q + 1)).length : Nat) : Int) = v := by simpa [hql] using hv
      refine o_ltD ?_
      simp only [decide_eq_decide]
      constructor
      · intro h1
        by_cases hc : q < j
        · exact hc
        · have := allP_mono (wd tl) (i := j + 1) (j := q + 1) (by omega)
          omega
      · intro h1
        have := allP_mono (wd tl) (i := q + 1) (j := j) (by omega)
        omega
    · exact ex_nil (ex_nil ⟨⟨nm_ne R'.tails, nm_ne R'.sums, nm_ne R'.parts⟩, rfl⟩)
  · rintro ρ st' ⟨R, rfl⟩
    refine ⟨trivial, ?_⟩
    exact exd_cons (x_return (PE.pm (v := .bool true) pe_bool (hk _)))
end
end Mine

-- part J2
namespace Mine
theorem cut_body (l : List Stmt) (k j : Nat) : l.drop k = (l.drop k).take j ++ l.drop (k + j) := by rw [← List.drop_drop, List.take_append_drop]
/-- the parts are what the tails begin with -/
theorem parts_mem {f : Int} {t : List Nat} {tl : List (List Nat)} (htm : ∀ w, w ∈ tl ↔ w ∈ comers2 f t) (hord : ∀ i j, i ≤ j → j < tl.length → ¬ wd tl j < wd tl i) (p : List Nat) : p ∈ allP (wd tl) tl.length ↔ p ∈ subs2 t := by
  rw [allP_mem hord (Nat.le_refl _), subs2_mem]
  constructor
  · rintro ⟨i, hi, L, h1, h2, h3⟩
    obtain ⟨k, hk, e⟩ := comers2_mem ((htm _).mp (List.mem_of_getElem? (wd_at hi)))
    rw [e] at h2 h3
    exact ⟨k, hk, L, h1, h2, h3⟩
  · rintro ⟨k, hk, L, h1, h2, h3⟩
    have hm : t.drop k ∈ comers2 f t := by
      unfold comers2
      refine List.mem_flatten.mpr ⟨_, List.mem_replicate.mpr ⟨by decide, rfl⟩, ?_⟩
      have h0 : t.drop k ∈ tails2 t := List.mem_map.mpr ⟨k, by simpa using hk, rfl⟩
      split
      · exact List.mem_reverse.mpr h0
      · exact h0
    obtain ⟨i, hi⟩ := List.mem_iff_getElem?.mp ((htm _).mpr hm)
    have hil : i < tl.length := (List.getElem?_eq_some_iff.mp hi).1
    have e := wd_at hil
    rw [hi] at e
    have e := Option.some.inj e
    exact ⟨i, hil, L, h1, by rw [← e]; exact h2, by rw [← e]; exact h3⟩

section
variable {B : Bs} {n : Nat}
theorem law_ex2 (h : L2 B) {L : Addr} {ns : List Int} (hfit : ns.length ≤ 63) :
    EXD B (n + 8) (callEnvC (fdOf (hd.heap_39 B.w.params) 42) L 42) 0 (fun y => ((["script"] : List Str).zip [.lst (ns.map V.int)]).lookup y) [] (bodyOf (fdOf (hd.heap_39 B.w.params) 42)) (fun fl _ _ => retOf fl = .bool true) := by
  refine start2 h hfit (cut_body _ 0 3) fun ρ r1 r2 r3 => ?_
  have ht := text2_len ns
  generalize first2 ns = f at *
  generalize text2 ns = t at *
  refine comers_part h ht r1 r2 r3 (cut_body _ 3 4) fun ρ R hit => ?_
  have hcl := comers2_len f t
  refine loop_part h ht hcl R hit (cut_body _ 7 1) fun ρ R hit => ?_
  refine check_part h ht hcl R hit (cut_body _ 8 1) ?_
  have hil := its_len (cat (comers2 f t)) (3 * t.length)
  have hel : ((its (cat (comers2 f t)) (3 * t.length)).map (·.1)).length = 3 * t.length := by simpa using hil
  have htm : ∀ w, w ∈ (its (cat (comers2 f t)) (3 * t.length)).map (·.1) ↔ w ∈ comers2 f t := fun w => by
    have hp := ((its_perm (cat (comers2 f t)) (3 * t.length)).map (·.1)).mem_iff (a := w)
    rw [hp, List.map_map]
    constructor
    · intro hw
      obtain ⟨i, hi, rfl⟩ := List.mem_map.mp hw
      have hi : i < (comers2 f t).length := by rw [hcl]; simpa using hi
      exact List.mem_of_getElem? (wd_at hi)
    · intro hw
      obtain ⟨i, hi⟩ := List.mem_iff_getElem?.mp hw
      have hil : i < (comers2 f t).length := (List.getElem?_eq_some_iff.mp hi).1
      have e := wd_at hil
      rw [hi] at e
      exact List.mem_map.mpr ⟨i, by simpa [hcl] using hil, (Option.some.inj e).symm⟩
  have hwl : ∀ w ∈ comers2 f t, w.length ≤ 21 := fun w hw => by
    obtain ⟨k, hk, rfl⟩ := comers2_mem hw
    simp; omega
  have hord : ∀ i j, i ≤ j → j < ((its (cat (comers2 f t)) (3 * t.length)).map (·.1)).length → ¬ wd ((its (cat (comers2 f t)) (3 * t.length)).map (·.1)) j < wd ((its (cat (comers2 f t)) (3 * t.length)).map (·.1)) i := fun i j hij hj => by
    have hg : ∀ i, wd ((its (cat (comers2 f t)) (3 * t.length)).map (·.1)) i = ((its (cat (comers2 f t)) (3 * t.length)).getD i ([], 0)).1 := fun i => by
      unfold wd
      rw [List.getD_eq_getElem?_getD, List.getD_eq_getElem?_getD, List.getElem?_map]
      cases (its (cat (comers2 f t)) (3 * t.length))[i]? <;> rfl
    rw [hg, hg]
    exact its_words _ _ i j hij (by rw [hel] at hj; exact hj)
  refine tails_part h (by rw [hil]; omega) (fun e he => hwl _ ((htm e.1).mp (List.mem_map.mpr ⟨e, he, rfl⟩))) R hit (cut_body _ 9 2) fun ρ R h1 h2 => ?_
  generalize (its (cat (comers2 f t)) (3 * t.length)).map itV = stv at *
  generalize (its (cat (comers2 f t)) (3 * t.length)).map (·.1) = tl at *
  have hsh : ∀ w ∈ tl, w.length ≤ 21 := fun w hw => hwl w ((htm w).mp hw)
  have hne : tl ≠ [] := fun e => by rw [e] at hel; simp at hel; have := ht.1; omega
  rw [common_eq tl hne] at h2
  refine sums_part h ht hel hsh R h1 h2 (cut_body _ 11 1) fun ρ R h1 h2 => ?_
  refine parts_part h (allP (wd tl) tl.length) ht R (allP_pw hord (Nat.le_refl _)) (parts_mem htm hord) (cut_body _ 12 1) ?_
  exact last_part h (by omega) hsh hord rfl ⟨nm_ne h1, nm_ne h2, nm_eq⟩ fun _ => rfl
end
end Mine

-- part H2
open Mine in
set_option maxRecDepth 100000 in
set_option maxHeartbeats 8000000 in
theorem PySem.Challenge.cw_dm0011_02_holds : PySem.Challenge.rw_dm0011_02.Holds := by
  exact hd (by
  intro w s₀ s₁ mg mb G Y a o pm cd doc dV kV ho hdat hcd hD hmg hg args vals as hpre hlay hrd hwl hlo
  have T := G.T
  have KX := km_in_of Y
  have KT := km_tabs_of Y
  clear ho hdat hcd hD G Y
  wrow_args hpre hlay hrd hwl hlo
  rename_i ns _ _ hLy _ _ _ _ sc vs _ hL _ hW _ hI _ hn _
  have hn : ns.length ≤ 63 := by omega
  have hmgf : ∀ (name : Str) (ad : Addr), gname (hd.heap_39 w.params) name = some (.ref ad) → mg name = some (.ref ad) := fun name ad e => by
    unfold gname at e
    split at e
    · rename_i c d es n sl hK
      obtain ⟨o, es', ep, ho, hd', _, hm⟩ := T.g
      have := KX _ _ hK
      rw [ho] at this
      cases this
      cases hd'
      rw [← hm, e]
    · cases e
  have X : TabsFit hd.view_39 mg (hd.heap_39 w.params) [⟨41, 39, "law.<locals>.<lambda>"⟩] := by
    refine ⟨by decide, ?_, ?_, ?_, ?_⟩
    · intro t ht
      simp only [List.mem_cons, List.not_mem_nil, or_false] at ht
      rcases ht with rfl; kernel_rfl
    · intro t ht
      simp only [List.mem_cons, List.not_mem_nil, or_false] at ht
      rcases ht with rfl; kernel_rfl
    · intro t ht
      simp only [List.mem_cons, List.not_mem_nil, or_false] at ht
      rcases ht with rfl; decide
    · intro t ht
      simp only [List.mem_cons, List.not_mem_nil, or_false] at ht
      rcases ht with rfl
      exact ⟨"law", 42, by decide +kernel, hmgf _ _ (by kernel_rfl), by kernel_rfl, by kernel_rfl⟩
  let B : Bs := Bs.of T PySem.Challenge.rw_dm0011_02.row.prog w (by kernel_rfl) rfl (hd.heap_39 w.params) KX [⟨41, 39, "law.<locals>.<lambda>"⟩] X
  have h5 : L2 B := ⟨rfl, rfl⟩
  have h1 : mg "law" = some (.ref 42) := hmgf _ _ (by kernel_rfl)
  rw [h1] at hmg
  cases hmg
  refine law_endD (B := B) (n := 8) (fun b o hb e => ?_) (fun b o e => ?_) (fun t ht => ?_) hg (f_ok h5 42 (by kernel_rfl)) (by kernel_rfl) (fun x S => by kernel_rfl) (well_list hW hL) hI (fun L => (law_ex2 (n := 0) h5 (by omega)).mono fun _ _ _ q => q) (by omega) (fun _ => rfl) ?_
  · exact hideAll_get _ e fun hm => hb (let ⟨t, ht, e⟩ := List.mem_map.mp hm; ⟨t, ht, e⟩)
  · exact of_hideAll _ e
  · refine ⟨?_, KT _ ?_⟩
    · obtain ⟨o, vs, file, tf, flags, tg, inF, text, tt, e1, e2, e3, e4, _⟩ := codeHd_of_K KX (X.co t ht)
      exact ⟨o, vs, e1, e2, e3, e4⟩
    · have ht : t ∈ ([⟨41, 39, "law.<locals>.<lambda>"⟩] : List Tab) := ht
      simp only [List.mem_cons, List.not_mem_nil, or_false] at ht
      rcases ht with rfl; simp
  · kernel_rfl)
