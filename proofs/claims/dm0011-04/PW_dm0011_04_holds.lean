import PyProof.Rows.All
import Wide.All
import OpenK.AllK
import Wide.FinOn
import PySem.Challenge.RW_dm0011_04
open PySem PySem.W PyProof.Rows
set_option Elab.async false
set_option linter.unusedVariables false
set_option linter.unusedSimpArgs false
set_option maxRecDepth 100000
set_option maxHeartbeats 8000000

-- part Fw1
namespace Mine

/-- pure values: `ref k` is the k-th mutable list -/
inductive V where
  | none
  | bool (b : Bool)
  | int (i : Int)
  | str (s : Str)
  | tup (l : List V)
  | lst (l : List V)
  | ref (k : Nat)
  | val (x : Value)

abbrev Store := List (List V)

def tupObj (vs : Array Value) (n : Nat) : Obj := { cls := .type "tuple", data := .seq vs n }
def lisObj (vs : Array Value) (n : Nat) : Obj := { cls := .type "list", data := .seq vs n }

/-- the addresses of the mutable lists, and of other things that no data may reach -/
structure Hd where
  hs : List Addr
  xs : List Addr
def Hd.has (H : Hd) (a : Addr) : Prop := a ∈ H.hs ∨ a ∈ H.xs

mutual
inductive Rep (H : Hd) (h : Heap) : Value → V → Prop
  | none : Rep H h .none .none
  | bool (b) : Rep H h (.bool b) (.bool b)
  | int (i t) : Rep H h (.int i t) (.int i)
  | str (x t) : Rep H h (.str x t) (.str x)
  | tup {a vs n l} : ¬ H.has a → h.get? a = some (tupObj vs n) → RepAll H h vs.toList l → Rep H h (.ref a) (.tup l)
  | lst {a vs n l} : ¬ H.has a → h.get? a = some (lisObj vs n) → RepAll H h vs.toList l → Rep H h (.ref a) (.lst l)
  | ref {k a} : H.hs[k]? = some a → Rep H h (.ref a) (.ref k)
  | val (x) : Rep H h x (.val x)
inductive RepAll (H : Hd) (h : Heap) : List Value → List V → Prop
  | nil : RepAll H h [] []
  | cons {x xs v vs} : Rep H h x v → RepAll H h xs vs → RepAll H h (x :: xs) (v :: vs)
end

def IsSeq (o : Obj) : Prop := ∃ vs n, o.data = .seq vs n

/-- data is kept: handles grow by fresh ones, all other sequences stay -/
structure DKeep (H : Hd) (h : Heap) (H' : Hd) (h' : Heap) : Prop where
  pre : ∃ N, H'.hs = H.hs ++ N
  new : ∀ a, H'.has a → ¬ H.has a → h.get? a = none
  keep : ∀ b o, ¬ H.has b → IsSeq o → h.get? b = some o → h'.get? b = some o

theorem DKeep.refl (H : Hd) (h : Heap) : DKeep H h H h :=
  ⟨⟨[], by simp⟩, fun _ h1 h2 => absurd h1 h2, fun _ _ _ _ e => e⟩

theorem DKeep.of_keeps {H : Hd} {h h' : Heap} (hk : ∀ b o, h.get? b = some o → h'.get? b = some o) : DKeep H h H h' :=
  ⟨⟨[], by simp⟩, fun _ h1 h2 => absurd h1 h2, fun b o _ _ e => hk b o e⟩

theorem DKeep.notMem {H H' : Hd} {h h' : Heap} (x : DKeep H h H' h') {a : Addr} {o : Obj} (ha : ¬ H.has a) (ho : h.get? a = some o) : ¬ H'.has a := by
  intro hm
  rw [x.new a hm ha] at ho; cases ho

theorem DKeep.trans {H H' H'' : Hd} {h h' h'' : Heap} (x : DKeep H h H' h') (y : DKeep H' h' H'' h'')
    (live : ∀ b o, ¬ H.has b → h.get? b = some o → (h'.get? b).isSome) : DKeep H h H'' h'' := by
  refine ⟨?_, fun a ha hn => ?_, fun b o hb hs e => ?_⟩
  · obtain ⟨N, e⟩ := x.pre
    obtain ⟨N', e'⟩ := y.pre
    exact ⟨N ++ N', by rw [e', e, List.append_assoc]⟩
  · by_cases h1 : H'.has a
    · exact x.new a h1 hn
    · have := y.new a ha h1
      cases e : h.get? a with
      | none => rfl
      | some o => have := live a o hn e; simp_all
  · exact y.keep b o (x.notMem hb e) hs (x.keep b o hb hs e)

theorem isSeq_tup (vs n) : IsSeq (tupObj vs n) := ⟨vs, n, rfl⟩
theorem isSeq_lis (vs n) : IsSeq (lisObj vs n) := ⟨vs, n, rfl⟩

mutual
theorem Rep.ext {H H' : Hd} {h h' : Heap} (x : DKeep H h H' h') : ∀ {y : Value} {v : V}, Rep H h y v → Rep H' h' y v
  | _, _, .none => .none
  | _, _, .bool b => .bool b
  | _, _, .int i t => .int i t
  | _, _, .str s t => .str s t
  | _, _, .tup ha ho hr => .tup (x.notMem ha ho) (x.keep _ _ ha (isSeq_tup ..) ho) (RepAll.ext x hr)
  | _, _, .lst ha ho hr => .lst (x.notMem ha ho) (x.keep _ _ ha (isSeq_lis ..) ho) (RepAll.ext x hr)
  | _, _, .ref hk => .ref (by
      obtain ⟨N, e⟩ := x.pre
      have := (List.getElem?_eq_some_iff.mp hk).1
      rw [e, List.getElem?_append_left this]; exact hk)
  | _, _, .val y => .val y
theorem RepAll.ext {H H' : Hd} {h h' : Heap} (x : DKeep H h H' h') : ∀ {ys : List Value} {vs : List V}, RepAll H h ys vs → RepAll H' h' ys vs
  | _, _, .nil => .nil
  | _, _, .cons hy hr => .cons (Rep.ext x hy) (RepAll.ext x hr)
end

section
variable {H : Hd} {h : Heap} {xs ys : List Value} {vs ws : List V} {x : Value} {v : V}
theorem RepAll.length (r : RepAll H h xs vs) : xs.length = vs.length := by
  induction xs generalizing vs with
  | nil => cases r; rfl
  | cons y xs ih => cases r with | cons _ r => simp [ih r]
theorem RepAll.append (r : RepAll H h xs vs) (q : RepAll H h ys ws) : RepAll H h (xs ++ ys) (vs ++ ws) := by
  induction xs generalizing vs with
  | nil => cases r; exact q
  | cons y xs ih => cases r with | cons hy r => exact .cons hy (ih r)
theorem RepAll.one (r : Rep H h x v) : RepAll H h [x] [v] := .cons r .nil
theorem RepAll.get {i : Nat} (r : RepAll H h xs vs) (hi : vs[i]? = some v) : ∃ x, xs[i]? = some x ∧ Rep H h x v := by
  induction xs generalizing vs i with
  | nil => cases r; simp at hi
  | cons y xs ih =>
    cases r with
    | cons hy r =>
      cases i with
      | zero => simp at hi; subst hi; exact ⟨y, rfl, hy⟩
      | succ i => simpa using ih r (by simpa using hi)
theorem RepAll.get' {i : Nat} (r : RepAll H h xs vs) (hi : xs[i]? = some x) : ∃ v, vs[i]? = some v ∧ Rep H h x v := by
  induction xs generalizing vs i with
  | nil => simp at hi
  | cons y xs ih =>
    cases r with
    | cons hy r =>
      cases i with
      | zero => simp at hi; subst hi; exact ⟨_, rfl, hy⟩
      | succ i => simpa using ih r (by simpa using hi)
theorem RepAll.set {i : Nat} (r : RepAll H h xs vs) (q : Rep H h x v) : RepAll H h (xs.set i x) (vs.set i v) := by
  induction xs generalizing vs i with
  | nil => cases r; simpa using RepAll.nil
  | cons y xs ih =>
    cases r with
    | cons hy r =>
      cases i with
      | zero => exact .cons q r
      | succ i => exact .cons hy (ih r)
theorem RepAll.take (r : RepAll H h xs vs) (n : Nat) : RepAll H h (xs.take n) (vs.take n) := by
  induction xs generalizing vs n with
  | nil => cases r; simpa using RepAll.nil
  | cons y xs ih =>
    cases r with
    | cons hy r =>
      cases n with
      | zero => exact .nil
      | succ n => exact .cons hy (ih r n)
theorem RepAll.drop (r : RepAll H h xs vs) (n : Nat) : RepAll H h (xs.drop n) (vs.drop n) := by
  induction xs generalizing vs n with
  | nil => cases r; simpa using RepAll.nil
  | cons y xs ih =>
    cases r with
    | cons hy r =>
      cases n with
      | zero => exact .cons hy r
      | succ n => exact ih r n
end

/-- the store of mutable lists stands in the heap -/
structure SimH (H : Hd) (st : Store) (h : Heap) : Prop where
  len : H.hs.length = st.length
  nd : H.hs.Nodup
  at_ : ∀ (k : Nat) (a : Addr) (l : List V), H.hs[k]? = some a → st[k]? = some l → ∃ vs n, h.get? a = some (lisObj vs n) ∧ RepAll H h vs.toList l
  live : ∀ a, H.has a → ∃ o, h.get? a = some o ∧ IsSeq o
  dj : ∀ a ∈ H.xs, a ∉ H.hs

theorem SimH.keeps {H : Hd} {st : Store} {h h' : Heap} (x : SimH H st h) (hk : ∀ b o, h.get? b = some o → h'.get? b = some o) : SimH H st h' :=
  ⟨x.len, x.nd, fun k a l ha hl => let ⟨vs, n, ho, hr⟩ := x.at_ k a l ha hl; ⟨vs, n, hk _ _ ho, hr.ext (.of_keeps hk)⟩, fun a ha => let ⟨o, ho, hs⟩ := x.live a ha; ⟨o, hk _ _ ho, hs⟩, x.dj⟩

/-- what stands below the law's call -/
structure Bs where
  prog : Program
  w : World
  h₀ : Heap
  mg : Str → Option Value
  mb : Str → Option Value
  g : h₀.Ns mainGlobals mg
  b : h₀.Ns builtinsNs mb
  lim : h₀.NoLimit
  seer : h₀.NoSeer
  tree : prog.given.tree = none
  K : Frag
  KX : K.In h₀
  bb : ∀ x : Str, x ≠ "__name__" → mb x = bootBuiltins x

/-- the names of a frame -/
structure EnvRep (env : Env) (ρ : Str → Option V) (H : Hd) (h : Heap) : Prop where
  kind : env.scope.kind = .function
  gl : env.globals = mainGlobals
  bi : env.builtins = builtinsNs
  loc : ∃ m, h.Ns env.locals m ∧ ∀ x v, env.kindOf x = some .local → ρ x = some v → ∃ y, m x = some y ∧ Rep H h y v
  cell : ∀ x v, (env.kindOf x = some .cell ∨ env.kindOf x = some .free) → ρ x = some v → ∃ c y, env.cells.lookup x = some c ∧ h.IsCell c (some y) ∧ Rep H h y v
  cells : ∀ x c, (x, c) ∈ env.cells → ∃ v, h.IsCell c v
  has : ∀ x, (env.kindOf x = some .cell ∨ env.kindOf x = some .free) → ∃ c, env.cells.lookup x = some c
  apart : env.cells.Pairwise fun x y => x.2 ≠ y.2

/-- the base heap stands, the handles are new upon it -/
structure Base (B : Bs) (H : Hd) (h : Heap) : Prop where
  keep : ∀ b o, B.h₀.get? b = some o → h.get? b = some o
  new : ∀ a, H.has a → B.h₀.get? a = none

structure Sim (B : Bs) (env : Env) (ρ : Str → Option V) (st : Store) (H : Hd) (h : Heap) : Prop where
  base : Base B H h
  sto : SimH H st h
  en : EnvRep env ρ H h

theorem EnvRep.keeps {env : Env} {ρ : Str → Option V} {H : Hd} {h h' : Heap} (x : EnvRep env ρ H h) (hk : ∀ b o, h.get? b = some o → h'.get? b = some o) : EnvRep env ρ H h' := by
  refine ⟨x.kind, x.gl, x.bi, ?_, fun n v hn hv => ?_, fun n c hn => ?_, x.has, x.apart⟩
  · obtain ⟨m, hm, hr⟩ := x.loc
    exact ⟨m, hm.keeps hk, fun n v hn hv => let ⟨y, hy, r⟩ := hr n v hn hv; ⟨y, hy, r.ext (.of_keeps hk)⟩⟩
  · obtain ⟨c, y, h1, h2, h3⟩ := x.cell n v hn hv
    exact ⟨c, y, h1, h2.keeps hk, h3.ext (.of_keeps hk)⟩
  · obtain ⟨v, h2⟩ := x.cells n c hn
    exact ⟨v, h2.keeps hk⟩

theorem Base.keeps {B : Bs} {H : Hd} {h h' : Heap} (x : Base B H h) (hk : ∀ b o, h.get? b = some o → h'.get? b = some o) : Base B H h' :=
  ⟨fun b o e => hk b o (x.keep b o e), x.new⟩

theorem Sim.keeps {B : Bs} {env : Env} {ρ : Str → Option V} {st : Store} {H : Hd} {h h' : Heap} (x : Sim B env ρ st H h) (hk : ∀ b o, h.get? b = some o → h'.get? b = some o) : Sim B env ρ st H h' :=
  ⟨x.base.keeps hk, x.sto.keeps hk, x.en.keeps hk⟩

theorem Sim.of_env {B : Bs} {env env' : Env} {ρ ρ' : Str → Option V} {st : Store} {H : Hd} {h : Heap} (x : Sim B env ρ st H h) (e : EnvRep env' ρ' H h) : Sim B env' ρ' st H h := ⟨x.base, x.sto, e⟩

/-- room for n more levels of calls -/
structure Rm (n : Nat) (A : Around) : Prop where
  hd : A.handled = none
  dp : A.depth + n ≤ 890
  un : A.units + 20 * n ≤ 9000
  fr : ∃ env l, A.frames = some (env :: l) ∧ env.scope.isGenerator = false ∧ env.scope.isCoroutine = false ∧ env.builtins = builtinsNs ∧ env.globals = mainGlobals

theorem Rm.mono {n m : Nat} {A : Around} (x : Rm n A) (h : m ≤ n) : Rm m A := ⟨x.hd, by have := x.dp; omega, by have := x.un; omega, x.fr⟩
theorem Rm.deeper {n : Nat} {A : Around} (x : Rm (n + 1) A) (env : Env) (h1 : env.scope.isGenerator = false) (h2 : env.scope.isCoroutine = false) (h3 : env.builtins = builtinsNs) (h4 : env.globals = mainGlobals) : Rm n (A.deeper env) :=
  ⟨x.hd, by have := x.dp; simp only [Around.deeper]; omega, by have := x.un; simp only [Around.deeper]; omega, by
    obtain ⟨e, l, hf, _⟩ := x.fr
    exact ⟨env, e :: l, by simp only [Around.deeper, hf]; rfl, h1, h2, h3, h4⟩⟩
theorem Rm.in1 {n : Nat} {A : Around} (x : Rm (n + 1) A) : Rm n A.in1 := ⟨x.hd, by have := x.dp; simp only; omega, by have := x.un; simp only; omega, x.fr⟩

theorem kp_refl (s : Shared) : Keeps s s := ⟨s.heap, s.toks, rfl, fun _ _ e => e⟩
theorem kp_trans {s s' s'' : Shared} (x : Keeps s s') (y : Keeps s' s'') : Keeps s s'' := by
  obtain ⟨h, tk, rfl, hk⟩ := x
  obtain ⟨h', tk', rfl, hk'⟩ := y
  exact ⟨h', tk', rfl, fun b o e => hk' b o (hk b o e)⟩
theorem kp_get {s s' : Shared} (x : Keeps s s') : ∀ b o, s.heap.get? b = some o → s'.heap.get? b = some o := by
  obtain ⟨h, tk, rfl, hk⟩ := x; exact hk
theorem kp_dk {s s' : Shared} (x : Keeps s s') (H : Hd) : DKeep H s.heap H s'.heap := .of_keeps (kp_get x)

/-- a pure expression has this value -/
def PE (B : Bs) (n : Nat) (env : Env) (ρ : Str → Option V) (st : Store) (e : Expr) (v : V) : Prop :=
  ∀ A, Rm n A → ∀ E s H, Sim B env ρ st H s.heap →
    wpAny (model B.prog B.w) A (eval e env) (fun x s' => Keeps s s' ∧ Rep H s'.heap x v) E s

/-- a test has this truth -/
def PT (B : Bs) (n : Nat) (env : Env) (ρ : Str → Option V) (st : Store) (e : Expr) (b : Bool) : Prop :=
  ∀ A, Rm n A → ∀ E s H, Sim B env ρ st H s.heap →
    wpAny (model B.prog B.w) A (isTrue e env (eval e env)) (fun x s' => x = b ∧ Keeps s s') E s

end Mine

-- part Fw2
namespace Mine

/-- base and store, no frame -/
structure SB (B : Bs) (st : Store) (H : Hd) (h : Heap) : Prop where
  base : Base B H h
  sto : SimH H st h
theorem Sim.sb {B : Bs} {env : Env} {ρ : Str → Option V} {st : Store} {H : Hd} {h : Heap} (x : Sim B env ρ st H h) : SB B st H h := ⟨x.base, x.sto⟩
theorem SB.keeps {B : Bs} {st : Store} {H : Hd} {h h' : Heap} (x : SB B st H h) (hk : ∀ b o, h.get? b = some o → h'.get? b = some o) : SB B st H h' := ⟨x.base.keeps hk, x.sto.keeps hk⟩

/-- an operation upon values -/
def P1 (B : Bs) (n : Nat) (st : Store) (t : Value → Sem Value) (a c : V) : Prop :=
  ∀ A, Rm n A → ∀ E s H x, SB B st H s.heap → Rep H s.heap x a → wpAny (model B.prog B.w) A (t x) (fun z s' => Keeps s s' ∧ Rep H s'.heap z c) E s
def P2 (B : Bs) (n : Nat) (st : Store) (t : Value → Value → Sem Value) (a b c : V) : Prop :=
  ∀ A, Rm n A → ∀ E s H x y, SB B st H s.heap → Rep H s.heap x a → Rep H s.heap y b → wpAny (model B.prog B.w) A (t x y) (fun z s' => Keeps s s' ∧ Rep H s'.heap z c) E s
/-- an operation upon a list of values -/
def PL (B : Bs) (n : Nat) (st : Store) (t : List Value → Sem Value) (as : List V) (c : V) : Prop :=
  ∀ A, Rm n A → ∀ E s H xs, SB B st H s.heap → RepAll H s.heap xs as → wpAny (model B.prog B.w) A (t xs) (fun z s' => Keeps s s' ∧ Rep H s'.heap z c) E s
/-- truth of a value -/
def PTr (B : Bs) (n : Nat) (st : Store) (a : V) (b : Bool) : Prop :=
  ∀ A, Rm n A → ∀ E s H x, SB B st H s.heap → Rep H s.heap x a → wpAny (model B.prog B.w) A (truthy x) (fun z s' => z = b ∧ Keeps s s') E s

section
variable {B : Bs} {n : Nat} {env : Env} {ρ : Str → Option V} {st : Store}

theorem kp_tok (s : Shared) (k : Nat) : Keeps s { s with toks := k } := ⟨s.heap, k, rfl, fun _ _ e => e⟩
theorem kp_heap {s : Shared} {h : Heap} (hk : ∀ b o, s.heap.get? b = some o → h.get? b = some o) : Keeps s { s with heap := h } := ⟨h, s.toks, rfl, hk⟩
theorem kp_push (s : Shared) (o : Obj) : Keeps s { s with heap := s.heap.push o } := kp_heap fun _ _ e => Heap.get?_push_of_some _ e

-- constants
theorem pe_int {i : Int} {k : Nat} {pos : Pos} : PE B n env ρ st (.Constant (.int i) k pos) (.int i) := fun A _ E s H _ => by
  show wpAny _ A (mkInt i) _ _ _
  exact wpAny_mkInt ⟨kp_tok .., .int ..⟩
theorem pe_str {x : Str} {k : Nat} {pos : Pos} : PE B n env ρ st (.Constant (.str x) k pos) (.str x) := fun A _ E s H _ => by
  show wpAny _ A (mkText x) _ _ _
  exact wpAny_mkText ⟨kp_tok .., .str ..⟩
theorem pe_bool {b : Bool} {k : Nat} {pos : Pos} : PE B n env ρ st (.Constant (.bool b) k pos) (.bool b) := fun A _ E s H _ => wpAny_pure ⟨kp_refl _, .bool b⟩
theorem pe_none {k : Nat} {pos : Pos} : PE B n env ρ st (.Constant .none k pos) .none := fun A _ E s H _ => wpAny_pure ⟨kp_refl _, .none⟩

-- names
theorem pe_name {x : Str} {pos : Pos} {v : V} (hv : ρ x = some v) (hk : env.kindOf x = some .local ∨ env.kindOf x = some .cell ∨ env.kindOf x = some .free)
    (hd : (x == ("__debug__" : Str)) = false := by kernel_rfl) (hc : (x == ("__classdict__" : Str)) = false := by kernel_rfl) : PE B n env ρ st (.Name x pos) v := fun A _ E s H S => by
  refine wpAny_Name ?_ hd
  rcases hk with hk | hk | hk
  · obtain ⟨m, hm, hr⟩ := S.en.loc
    obtain ⟨y, hy, r⟩ := hr x v hk hv
    exact wpAny_loadName_local S.en.kind hk hm hy ⟨kp_refl _, r⟩
  · obtain ⟨c, y, h1, h2, h3⟩ := S.en.cell x v (.inl hk) hv
    exact wpAny_loadName_cell S.en.kind hk h1 h2 ⟨kp_refl _, h3⟩
  · obtain ⟨c, y, h1, h2, h3⟩ := S.en.cell x v (.inr hk) hv
    exact wpAny_loadName_free S.en.kind hk h1 h2 ⟨kp_refl _, h3⟩ hc

theorem ld_glob {A : Around} {E : Value → Shared → Prop} {s : Shared} {H : Hd} {x : Str} {pos : Pos} {y : Value} {Q : Value → Shared → Prop} (S : Sim B env ρ st H s.heap)
    (hk : env.kindOf x = some .globalImplicit) (hv : (B.mg x).or (B.mb x) = some y) (h : Q y s) (hd : (x == ("__debug__" : Str)) = false := by kernel_rfl) :
    wpAny (model B.prog B.w) A (eval (.Name x pos) env) Q E s := by
  refine wpAny_Name ?_ hd
  unfold loadName
  simp only [Env.blockKind, S.en.kind, hk, ScopeKind.isAnnotationScope, Bool.false_and, Bool.false_eq_true, if_false]
  unfold loadGlobal
  rw [S.en.gl, S.en.bi]
  refine wpAny_bind (wpAny_nsGet (B.g.keeps S.base.keep) ?_)
  cases hg : B.mg x with
  | some z => rw [hg] at hv; cases hv; exact wpAny_pure h
  | none =>
    rw [hg] at hv
    refine wpAny_bind (wpAny_nsGet (B.b.keeps S.base.keep) ?_)
    have hv' : B.mb x = some y := hv
    rw [hv']; exact wpAny_pure h

/-- a name of the top -/
theorem pe_glob {x : Str} {pos : Pos} {y : Value} (hv : (B.mg x).or (B.mb x) = some y) (hk : env.kindOf x = some .globalImplicit) (hd : (x == ("__debug__" : Str)) = false := by kernel_rfl) :
    PE B n env ρ st (.Name x pos) (.val y) := fun _ _ _ _ _ S => ld_glob S hk hv ⟨kp_refl _, .val y⟩ hd

-- generic nodes
theorem pe_bin {l r : Expr} {op : Operator} {pos : Pos} {a b c : V} (h1 : PE B n env ρ st l a) (h2 : PE B n env ρ st r b) (h3 : P2 B n st (binaryOp op) a b c) : PE B n env ρ st (.BinOp l op r pos) c := fun A hA E s H S => by
  refine wpAny_BinOp (wpAny_mono (h1 A hA E s H S) (fun x s₁ ⟨k1, r1⟩ => wpAny_mono (h2 A hA E s₁ H (S.keeps (kp_get k1))) (fun y s₂ ⟨k2, r2⟩ => ?_) fun _ _ e => e) fun _ _ e => e)
  have k := kp_trans k1 k2
  exact wpAny_mono (h3 A hA E s₂ H x y (S.sb.keeps (kp_get k)) (r1.ext (kp_dk k2 H)) r2) (fun z s₃ ⟨k3, r3⟩ => ⟨kp_trans k k3, r3⟩) fun _ _ e => e
theorem pe_cmp {l r : Expr} {op : CmpOp} {pos : Pos} {a b c : V} (h1 : PE B n env ρ st l a) (h2 : PE B n env ρ st r b) (h3 : P2 B n st (compareOp op) a b c) (hm : behindInMarks op r = false := by with_unfolding_all rfl) : PE B n env ρ st (.Compare l [op] [r] pos) c := fun A hA E s H S => by
  refine wpAny_Compare1 (wpAny_mono (h1 A hA E s H S) (fun x s₁ ⟨k1, r1⟩ => wpAny_mono (h2 A hA E s₁ H (S.keeps (kp_get k1))) (fun y s₂ ⟨k2, r2⟩ => ?_) fun _ _ e => e) fun _ _ e => e) hm
  have k := kp_trans k1 k2
  exact wpAny_mono (h3 A hA E s₂ H x y (S.sb.keeps (kp_get k)) (r1.ext (kp_dk k2 H)) r2) (fun z s₃ ⟨k3, r3⟩ => ⟨kp_trans k k3, r3⟩) fun _ _ e => e
theorem pt_cmp {l r : Expr} {op : CmpOp} {pos : Pos} {a b : V} {c : Bool} (h1 : PE B n env ρ st l a) (h2 : PE B n env ρ st r b) (h3 : P2 B n st (compareOp op) a b (.bool c)) (hm : behindInMarks op r = false := by with_unfolding_all rfl) : PT B n env ρ st (.Compare l [op] [r] pos) c := fun A hA E s H S => by
  refine wpAny_isTrue_Compare1 (wpAny_mono (h1 A hA E s H S) (fun x s₁ ⟨k1, r1⟩ => wpAny_mono (h2 A hA E s₁ H (S.keeps (kp_get k1))) (fun y s₂ ⟨k2, r2⟩ => ?_) fun _ _ e => e) fun _ _ e => e) hm
  have k := kp_trans k1 k2
  refine wpAny_mono (h3 A hA E s₂ H x y (S.sb.keeps (kp_get k)) (r1.ext (kp_dk k2 H)) r2) (fun z s₃ ⟨k3, r3⟩ => ?_) fun _ _ e => e
  cases r3
  exact wpAny_truthy_bool ⟨rfl, kp_trans k k3⟩
theorem pe_un {e : Expr} {op : UnaryOp} {pos : Pos} {a c : V} (h1 : PE B n env ρ st e a) (h3 : P1 B n st (unaryOp op) a c) : PE B n env ρ st (.UnaryOp op e pos) c := fun A hA E s H S =>
  wpAny_UnaryOp (wpAny_mono (h1 A hA E s H S) (fun x s₁ ⟨k1, r1⟩ => wpAny_mono (h3 A hA E s₁ H x (S.sb.keeps (kp_get k1)) r1) (fun z s₃ ⟨k3, r3⟩ => ⟨kp_trans k1 k3, r3⟩) fun _ _ e => e) fun _ _ e => e)
theorem pe_ifexp {t a b : Expr} {pos : Pos} {c : Bool} {v : V} (h1 : PT B n env ρ st t c) (h2 : c = true → PE B n env ρ st a v) (h3 : c = false → PE B n env ρ st b v) : PE B n env ρ st (.IfExp t a b pos) v := fun A hA E s H S => by
  refine wpAny_IfExp (wpAny_mono (h1 A hA E s H S) (fun x s₁ ⟨e1, k1⟩ => ?_) fun _ _ e => e)
  subst e1
  cases x with
  | true => exact wpAny_mono (h2 rfl A hA E s₁ H (S.keeps (kp_get k1))) (fun z s₃ ⟨k3, r3⟩ => ⟨kp_trans k1 k3, r3⟩) fun _ _ e => e
  | false => exact wpAny_mono (h3 rfl A hA E s₁ H (S.keeps (kp_get k1))) (fun z s₃ ⟨k3, r3⟩ => ⟨kp_trans k1 k3, r3⟩) fun _ _ e => e
theorem pt_val {e : Expr} {a : V} {b : Bool} (h1 : PE B n env ρ st e a) (h2 : PTr B n st a b) (he : ∀ whole, isTrue e env whole = (do let v ← whole; standAt e.pos; holding [v] (truthy v)) := by intro _; rfl) : PT B n env ρ st e b := fun A hA E s H S =>
  wpAny_isTrue_value (wpAny_mono (h1 A hA E s H S) (fun x s₁ ⟨k1, r1⟩ => wpAny_mono (h2 A hA E s₁ H x (S.sb.keeps (kp_get k1)) r1) (fun z s₂ ⟨e2, k2⟩ => ⟨e2, kp_trans k1 k2⟩) fun _ _ e => e) fun _ _ e => e) (he _)
theorem pt_not {e : Expr} {pos : Pos} {b : Bool} (h1 : PT B n env ρ st e b) : PT B n env ρ st (.UnaryOp .Not e pos) (!b) := fun A hA E s H S =>
  wpAny_isTrue_Not (wpAny_mono (h1 A hA E s H S) (fun x s₁ ⟨e1, k1⟩ => ⟨by rw [e1], k1⟩) fun _ _ e => e)
theorem pt_and {a b : Expr} {pos : Pos} {p q : Bool} (h1 : PT B n env ρ st a p) (h2 : p = true → PT B n env ρ st b q) : PT B n env ρ st (.BoolOp .And [a, b] pos) (p && q) := fun A hA E s H S => by
  refine wpAny_isTrue_BoolOp ?_
  rw [arm_allTrue_cons]
  refine wpAny_bind (wpAny_mono (h1 A hA E s H S) (fun x s₁ ⟨e1, k1⟩ => ?_) fun _ _ e => e)
  subst e1
  cases x with
  | false => exact wpAny_pure ⟨rfl, k1⟩
  | true =>
    rw [arm_allTrue_cons]
    refine wpAny_bind (wpAny_mono (h2 rfl A hA E s₁ H (S.keeps (kp_get k1))) (fun y s₂ ⟨e2, k2⟩ => ?_) fun _ _ e => e)
    subst e2
    cases y <;> exact wpAny_pure ⟨rfl, kp_trans k1 k2⟩
theorem pt_or {a b : Expr} {pos : Pos} {p q : Bool} (h1 : PT B n env ρ st a p) (h2 : p = false → PT B n env ρ st b q) : PT B n env ρ st (.BoolOp .Or [a, b] pos) (p || q) := fun A hA E s H S => by
  refine wpAny_isTrue_BoolOp ?_
  rw [arm_allTrue_cons]
  refine wpAny_bind (wpAny_mono (h1 A hA E s H S) (fun x s₁ ⟨e1, k1⟩ => ?_) fun _ _ e => e)
  subst e1
  cases x with
  | true => exact wpAny_pure ⟨rfl, k1⟩
  | false =>
    rw [arm_allTrue_cons]
    refine wpAny_bind (wpAny_mono (h2 rfl A hA E s₁ H (S.keeps (kp_get k1))) (fun y s₂ ⟨e2, k2⟩ => ?_) fun _ _ e => e)
    subst e2
    cases y <;> exact wpAny_pure ⟨rfl, kp_trans k1 k2⟩

-- int operations
theorem o_add {a b : Int} : P2 B n st (binaryOp .Add) (.int a) (.int b) (.int (a + b)) := fun A _ E s H x y _ rx ry => by cases rx; cases ry; exact add_int ⟨kp_tok .., .int ..⟩
theorem o_sub {a b : Int} : P2 B n st (binaryOp .Sub) (.int a) (.int b) (.int (a - b)) := fun A _ E s H x y _ rx ry => by cases rx; cases ry; exact sub_int ⟨kp_tok .., .int ..⟩
theorem o_mul {a b : Int} (hm : IntMulOk a b) : P2 B n st (binaryOp .Mult) (.int a) (.int b) (.int (a * b)) := fun A _ E s H x y _ rx ry => by cases rx; cases ry; exact mul_int ⟨kp_tok .., .int ..⟩ hm
theorem o_mod {a b : Int} (hb : b ≠ 0) : P2 B n st (binaryOp .Mod) (.int a) (.int b) (.int (a.fmod b)) := fun A _ E s H x y _ rx ry => by cases rx; cases ry; exact mod_int hb ⟨kp_tok .., .int ..⟩
theorem pylongRoom {A : Around} {s : Shared} {H : Hd} (S : SB B st H s.heap) (R : Rm n A) : PylongRoom (model B.prog B.w) A s := by
  obtain ⟨env, l, hf, h1, h2, h3, h4⟩ := R.fr
  exact PylongRoom.of (B.lim.keeps S.base.keep) (by have := R.dp; simp only [Builtin.pylongFrames, recursionLimit]; omega) (SeerAt.of (B.seer.keeps S.base.keep) B.tree hf h1 h2 h3 h4)
theorem o_fdiv {a b : Int} (hb : b ≠ 0) : P2 B n st (binaryOp .FloorDiv) (.int a) (.int b) (.int (a.fdiv b)) := fun A R E s H x y S rx ry => by
  cases rx; cases ry; exact floordiv_int hb ⟨kp_tok .., .int ..⟩ (.inr (pylongRoom S R))
theorem o_lt {a b : Int} : P2 B n st (compareOp .Lt) (.int a) (.int b) (.bool (decide (a < b))) := fun A _ E s H x y _ rx ry => by cases rx; cases ry; exact lt_int ⟨kp_refl _, .bool _⟩
theorem o_le {a b : Int} : P2 B n st (compareOp .LtE) (.int a) (.int b) (.bool (decide (a ≤ b))) := fun A _ E s H x y _ rx ry => by cases rx; cases ry; exact le_int ⟨kp_refl _, .bool _⟩
theorem o_gt {a b : Int} : P2 B n st (compareOp .Gt) (.int a) (.int b) (.bool (decide (b < a))) := fun A _ E s H x y _ rx ry => by cases rx; cases ry; exact gt_int ⟨kp_refl _, .bool _⟩
theorem o_ge {a b : Int} : P2 B n st (compareOp .GtE) (.int a) (.int b) (.bool (decide (b ≤ a))) := fun A _ E s H x y _ rx ry => by cases rx; cases ry; exact ge_int ⟨kp_refl _, .bool _⟩
theorem o_eq {a b : Int} : P2 B n st (compareOp .Eq) (.int a) (.int b) (.bool (a == b)) := fun A _ E s H x y _ rx ry => by cases rx; cases ry; exact eq_int ⟨kp_refl _, .bool _⟩
theorem o_ne {a b : Int} : P2 B n st (compareOp .NotEq) (.int a) (.int b) (.bool (a != b)) := fun A _ E s H x y _ rx ry => by cases rx; cases ry; exact ne_int ⟨kp_refl _, .bool _⟩
theorem o_neg {a : Int} : P1 B n st (unaryOp .USub) (.int a) (.int (-a)) := fun A _ E s H x _ rx => by cases rx; exact neg_int ⟨kp_tok .., .int ..⟩
theorem o_isNone : P2 B n st (compareOp .Is) .none .none (.bool true) := fun A _ E s H x y _ rx ry => by cases rx; cases ry; exact is_none_none ⟨kp_refl _, .bool _⟩
def notNone : V → Bool
  | .none => false
  | .val .none => false
  | _ => true
theorem o_isNotNone {v : V} (hv : notNone v = true) : P2 B n st (compareOp .Is) v .none (.bool false) := fun A _ E s H x y _ rx ry => by
  cases ry
  refine is_none_ne ?_ ⟨kp_refl _, .bool _⟩
  rintro rfl
  cases rx <;> simp [notNone] at hv
theorem tr_int {a : Int} : PTr B n st (.int a) (a != 0) := fun A _ E s H x _ rx => by cases rx; exact truthy_int ⟨rfl, kp_refl _⟩
theorem tr_bool {b : Bool} : PTr B n st (.bool b) b := fun A _ E s H x _ rx => by cases rx; exact wpAny_truthy_bool ⟨rfl, kp_refl _⟩

end
end Mine

-- part Fw3
namespace Mine

/-- the items of a list value -/
def lis (st : Store) : V → Option (List V)
  | .lst l => some l
  | .ref k => st[k]?
  | _ => none

theorem lis_at {B : Bs} {st : Store} {H : Hd} {h : Heap} {x : Value} {v : V} {l : List V} (S : SimH H st h) (r : Rep H h x v) (hl : lis st v = some l) :
    ∃ a vs n, x = .ref a ∧ h.get? a = some (lisObj vs n) ∧ RepAll H h vs.toList l := by
  cases r with
  | lst ha ho hr => cases hl; exact ⟨_, _, _, rfl, ho, hr⟩
  | ref hk =>
    obtain ⟨vs, n, ho, hr⟩ := S.at_ _ _ _ hk hl
    exact ⟨_, vs, n, rfl, ho, hr⟩
  | _ => cases hl

theorem isList_of {h : Heap} {a : Addr} {vs : Array Value} {n : Nat} (ho : h.get? a = some (lisObj vs n)) : h.IsList a vs := ⟨_, ho, rfl, n, rfl⟩
theorem isTup_of {h : Heap} {a : Addr} {vs : Array Value} {n : Nat} (ho : h.get? a = some (tupObj vs n)) : IsTup h a vs := ⟨_, ho, rfl, n, rfl⟩
theorem RepAll.size {H : Hd} {h : Heap} {vs : Array Value} {l : List V} (r : RepAll H h vs.toList l) : vs.size = l.length := by
  have := r.length; simpa using this

/-- the arguments of a call, a display's items -/
def PEs (B : Bs) (n : Nat) (env : Env) (ρ : Str → Option V) (st : Store) (es : List Expr) (vs : List V) : Prop :=
  ∀ A, Rm n A → ∀ E s H pos, Sim B env ρ st H s.heap →
    wpAny (model B.prog B.w) A (spliced (backTo pos (starEach es env))) (fun xs s' => Keeps s s' ∧ RepAll H s'.heap xs vs) E s

theorem notMem_size {H : Hd} {st : Store} {h : Heap} (S : SimH H st h) : ¬ H.has h.objs.size := fun hm => by
  obtain ⟨o, ho, _⟩ := S.live _ hm
  exact Nat.lt_irrefl _ (Heap.lt_size ho)

/-- indices picked out of a list -/
theorem RepAll.pick {H : Hd} {h : Heap} {xs : List Value} {l : List V} (r : RepAll H h xs l) : ∀ ix : List Nat, RepAll H h (ix.filterMap (xs[·]?)) (ix.filterMap (l[·]?))
  | [] => .nil
  | i :: ix => by
    have ih := RepAll.pick r ix
    cases hx : xs[i]? with
    | none =>
      have hl : l[i]? = none := by
        rw [List.getElem?_eq_none_iff] at hx ⊢
        rw [← r.length]; exact hx
      simp only [List.filterMap_cons, hx, hl]; exact ih
    | some x =>
      obtain ⟨v, hv, rv⟩ := r.get' hx
      simp only [List.filterMap_cons, hx, hv]
      exact .cons rv ih

/-- a slice of a list -/
def slc (l : List V) (lo hi st : Option Int) : List V :=
  (sliceRange (sliceBounds lo hi st l.length).1 (sliceBounds lo hi st l.length).2.1 (sliceBounds lo hi st l.length).2.2).filterMap (l[·]?)

theorem RepAll.slice {H : Hd} {h : Heap} {vs : Array Value} {l : List V} (r : RepAll H h vs.toList l) (lo hi st : Option Int) : RepAll H h (slicePick vs lo hi st).toList (slc l lo hi st) := by
  unfold slicePick slc
  rw [r.size]
  have := r.pick (sliceRange (sliceBounds lo hi st l.length).1 (sliceBounds lo hi st l.length).2.1 (sliceBounds lo hi st l.length).2.2)
  simpa using this

def partOf : V → Option (Option Int)
  | .none => some none
  | .int i => some (some i)
  | _ => none
theorem part_at {H : Hd} {h : Heap} {x : Value} {v : V} {k : Option Int} (r : Rep H h x v) (hk : partOf v = some k) : IsPart x k := by
  cases r <;> cases hk <;> first | exact .none | exact .int ..

section
variable {B : Bs} {n : Nat} {env : Env} {ρ : Str → Option V} {st : Store}

theorem pes_nil : PEs B n env ρ st [] [] := fun A _ E s H pos _ => args_nil ⟨kp_refl _, .nil⟩
theorem pes_cons {e : Expr} {es : List Expr} {v : V} {vs : List V} (h1 : PE B n env ρ st e v) (h2 : PEs B n env ρ st es vs)
    (he : starEach (e :: es) env = (false, eval e env) :: starEach es env := by rfl) : PEs B n env ρ st (e :: es) (v :: vs) := fun A hA E s H pos S =>
  args_cons (wpAny_mono (h1 A hA E s H S) (fun x s₁ ⟨k1, r1⟩ => wpAny_mono (h2 A hA E s₁ H pos (S.keeps (kp_get k1))) (fun xs s₂ ⟨k2, r2⟩ => ⟨kp_trans k1 k2, .cons (r1.ext (kp_dk k2 H)) r2⟩) fun _ _ e => e) fun _ _ e => e) he

theorem pe_tuple {es : List Expr} {k : Nat} {pos : Pos} {vs : List V} (h1 : PEs B n env ρ st es vs) (hsz : vs.length ≤ sizeLine := by simp [sizeLine]) : PE B n env ρ st (.Tuple es k pos) (.tup vs) := fun A hA E s H S => by
  refine Tuple_ (wpAny_mono (h1 A hA E s H pos S) (fun xs s₁ ⟨k1, r1⟩ => ?_) fun _ _ e => e)
  have S1 := S.keeps (kp_get k1)
  refine wpAny_newObj_type ⟨kp_trans k1 (kp_push ..), .tup (vs := xs.toArray) (n := 0) (notMem_size S1.sto) (Heap.get?_push_size _ rfl) ?_⟩ (by show xs.toArray.size ≤ sizeLine; rw [List.size_toArray, r1.length]; exact hsz)
  exact r1.ext (kp_dk (kp_push s₁ _) H)
theorem pe_list {es : List Expr} {pos : Pos} {vs : List V} (h1 : PEs B n env ρ st es vs) (hsz : vs.length ≤ sizeLine := by simp [sizeLine]) : PE B n env ρ st (.List es pos) (.lst vs) := fun A hA E s H S => by
  refine List_ (wpAny_mono (h1 A hA E s H pos S) (fun xs s₁ ⟨k1, r1⟩ => ?_) fun _ _ e => e)
  have S1 := S.keeps (kp_get k1)
  refine wpAny_newObj_type ⟨kp_trans k1 (kp_push ..), .lst (vs := xs.toArray) (n := 0) (notMem_size S1.sto) (Heap.get?_push_size _ rfl) ?_⟩ (by show xs.toArray.size ≤ sizeLine; rw [List.size_toArray, r1.length]; exact hsz)
  exact r1.ext (kp_dk (kp_push s₁ _) H)

-- items
theorem pe_sub {e i : Expr} {pos : Pos} {a k c : V} (h1 : PE B n env ρ st e a) (h2 : PE B n env ρ st i k) (h3 : P2 B n st (subscriptTail e i) a k c) : PE B n env ρ st (.Subscript e i pos) c := fun A hA E s H S => by
  refine Subscript_ (wpAny_mono (h1 A hA E s H S) (fun x s₁ ⟨k1, r1⟩ => wpAny_mono (h2 A hA E s₁ H (S.keeps (kp_get k1))) (fun y s₂ ⟨k2, r2⟩ => ?_) fun _ _ e => e) fun _ _ e => e)
  have k := kp_trans k1 k2
  exact wpAny_mono (h3 A hA E s₂ H x y (S.sb.keeps (kp_get k)) (r1.ext (kp_dk k2 H)) r2) (fun z s₃ ⟨k3, r3⟩ => ⟨kp_trans k k3, r3⟩) fun _ _ e => e

theorem o_item {e i : Expr} {a c : V} {l : List V} {k : Int} (hl : lis st a = some l) (h0 : 0 ≤ k) (hx : l[k.toNat]? = some c) (hfit : l.length < 2 ^ 62)
    (hs : ∀ o j, subscripted i false o j = operate [o, j] (getItem o j) := by intro _ _; rfl) : P2 B n st (subscriptTail e i) a (.int k) c := fun A _ E s H x y S rx ry => by
  cases ry
  obtain ⟨ad, vs, m, rfl, ho, hr⟩ := lis_at (B := B) S.sto rx hl
  obtain ⟨z, hz, rz⟩ := hr.get hx
  have hlt : k.toNat < l.length := (List.getElem?_eq_some_iff.mp hx).1
  exact tail_any (isList_of ho).typeIs slot_list_getitem.lookup (wpAny_getItem_list (isList_of ho) h0 (by omega) (by simpa using hz) ⟨kp_refl _, rz⟩) (hs _ _)
theorem o_itemNeg {e i : Expr} {a c : V} {l : List V} {k : Int} (hl : lis st a = some l) (h0 : k < 0) (h1 : -(l.length : Int) ≤ k) (hx : l[(k + l.length).toNat]? = some c) (hfit : l.length < 2 ^ 62)
    (hs : ∀ o j, subscripted i false o j = operate [o, j] (getItem o j) := by intro _ _; rfl) : P2 B n st (subscriptTail e i) a (.int k) c := fun A _ E s H x y S rx ry => by
  cases ry
  obtain ⟨ad, vs, m, rfl, ho, hr⟩ := lis_at (B := B) S.sto rx hl
  have hsz := hr.size
  obtain ⟨z, hz, rz⟩ := hr.get hx
  exact tail_any (isList_of ho).typeIs slot_list_getitem.lookup (wpAny_getItem_list_neg (isList_of ho) h0 (by rw [hsz]; exact h1) (by omega) (by rw [hsz]; simpa using hz) ⟨kp_refl _, rz⟩) (hs _ _)
theorem o_itemTup {e i : Expr} {c : V} {l : List V} {k : Int} {j : Nat} (hj : seqIndex? k l.length = some j) (hx : l[j]? = some c) (hlo : -(2 ^ 63) ≤ k) (hhi : k < 2 ^ 63)
    (hs : ∀ o j, subscripted i false o j = operate [o, j] (getItem o j) := by intro _ _; rfl) : P2 B n st (subscriptTail e i) (.tup l) (.int k) c := fun A _ E s H x y S rx ry => by
  cases ry
  cases rx with
  | tup ha ho hr =>
    obtain ⟨z, hz, rz⟩ := hr.get hx
    exact item_tupleT (l := _) (by simpa using isTup_of ho) hlo hhi (by rw [hr.length]; exact hj) hz ⟨kp_refl _, rz⟩ (hs _ _)

-- slices
theorem pe_partNone {A : Around} {E : Value → Shared → Prop} {s : Shared} {Q : Value → Shared → Prop} (h : Q .none s) : wpAny (model B.prog B.w) A (evalPart none env) Q E s := wpAny_pure h
/-- the parts of a slice -/
def PPart (B : Bs) (n : Nat) (env : Env) (ρ : Str → Option V) (st : Store) (e : Option Expr) (k : Option Int) : Prop :=
  ∀ A, Rm n A → ∀ E s H, Sim B env ρ st H s.heap → wpAny (model B.prog B.w) A (evalPart e env) (fun x s' => Keeps s s' ∧ IsPart x k) E s
theorem pp_none : PPart B n env ρ st none none := fun A _ E s H _ => wpAny_pure ⟨kp_refl _, .none⟩
theorem pp_some {e : Expr} {i : Int} (h : PE B n env ρ st e (.int i)) : PPart B n env ρ st (some e) (some i) := fun A hA E s H S => by
  show wpAny _ A (eval e env) _ _ _
  exact wpAny_mono (h A hA E s H S) (fun x s₁ ⟨k1, r1⟩ => ⟨k1, by cases r1; exact .int ..⟩) fun _ _ e => e
theorem pe_slice {e : Expr} {lo hi stp : Option Expr} {p pos : Pos} {a : V} {l : List V} {i j k : Option Int} (h1 : PE B n env ρ st e a) (hl : lis st a = some l) (h2 : PPart B n env ρ st lo i) (h3 : PPart B n env ρ st hi j) (h4 : PPart B n env ρ st stp k)
    (hk : k ≠ some 0) (hsz : l.length ≤ sizeLine) : PE B n env ρ st (.Subscript e (.Slice lo hi stp p) pos) (.lst (slc l i j k)) := fun A hA E s H S => by
  refine Subscript_ (wpAny_mono (h1 A hA E s H S) (fun x s₁ ⟨k1, r1⟩ => wpAny_Slice (wpAny_mono (h2 A hA E s₁ H (S.keeps (kp_get k1))) (fun y s₂ ⟨k2, r2⟩ => wpAny_mono (h3 A hA E s₂ H (S.keeps (kp_get (kp_trans k1 k2)))) (fun z s₃ ⟨k3, r3⟩ =>
    wpAny_mono (h4 A hA E s₃ H (S.keeps (kp_get (kp_trans k1 (kp_trans k2 k3))))) (fun u s₄ ⟨k4, r4⟩ => ?_) fun _ _ e => e) fun _ _ e => e) fun _ _ e => e)) fun _ _ e => e)
  have kk := kp_trans k1 (kp_trans k2 (kp_trans k3 k4))
  have S4 := S.keeps (kp_get kk)
  have r1' := r1.ext (kp_dk (kp_trans k2 (kp_trans k3 k4)) H)
  obtain ⟨ad, vs, m, rfl, ho, hr⟩ := lis_at (B := B) S4.sto r1' hl
  have ho' := Heap.get?_push_of_some { cls := .type "slice", data := .fields #[y, z, u] } ho
  have S5 := S4.sto.keeps (kp_get (kp_push s₄ { cls := .type "slice", data := .fields #[y, z, u] }))
  refine tail_any (T := "list") (id := "list.__getitem__") (ops := match stp with | none => [Value.ref s₄.heap.objs.size, Value.ref ad] | some _ => [Value.ref ad, Value.ref s₄.heap.objs.size]) (isList_of ho').typeIs slot_list_getitem.lookup (wpAny_getItem_list_slice (isList_of ho') (Heap.IsSliceOf.new ..) r2 r3 r4 hk ⟨kp_trans kk (kp_trans (kp_push ..) (kp_push ..)), ?_⟩ (by rw [hr.size]; exact hsz)) (by cases stp <;> rfl)
  exact .lst (notMem_size S5) (Heap.get?_push_size _ rfl) ((hr.slice i j k).ext (kp_dk (kp_trans (kp_push s₄ _) (kp_push _ _)) H))

-- calls of built-in functions by their names
theorem pe_callB {x : Str} {np pos : Pos} {e : Expr} {es : List Expr} {id : String} {as : List V} {c : V} (hv : (B.mg x).or (B.mb x) = some (.builtin id)) (hk : env.kindOf x = some .globalImplicit) (h1 : PEs B n env ρ st (e :: es) as)
    (h2 : PL B n st (fun xs => call (.builtin id) xs) as c) (hd : (x == ("__debug__" : Str)) = false := by kernel_rfl)
    (he : starEach (e :: es) env = (false, eval e env) :: starEach es env := by rfl) (hplain : ∀ pos, (backTo pos (starEach es env)).any (·.1) = false := by intro _; rfl) :
    PE B n env ρ st (.Call (.Name x np) (e :: es) [] pos) c := fun A hA E s H S => by
  refine wpAny_Call_ofName (ld_glob S hk hv ?_ hd)
  refine callWith_builtin1 (wpAny_mono (h1 A hA E s H pos S) (fun xs s₁ ⟨k1, r1⟩ => ?_) fun _ _ e => e) he (hplain pos)
  exact wpAny_mono (h2 A hA E s₁ H xs (S.sb.keeps (kp_get k1)) r1) (fun z s₂ ⟨k2, r2⟩ => ⟨kp_trans k1 k2, r2⟩) fun _ _ e => e

theorem PL.one {t : List Value → Sem Value} {a c : V} (h : P1 B n st (fun x => t [x]) a c) : PL B n st t [a] c := fun A hA E s H xs S r => by
  cases r with | cons r1 r => cases r; exact h A hA E s H _ S r1
theorem PL.two {t : List Value → Sem Value} {a b c : V} (h : P2 B n st (fun x y => t [x, y]) a b c) : PL B n st t [a, b] c := fun A hA E s H xs S r => by
  cases r with | cons r1 r => cases r with | cons r2 r => cases r; exact h A hA E s H _ _ S r1 r2

theorem o_len {a : V} {l : List V} (hl : lis st a = some l) (hfit : l.length < 2 ^ 62) : PL B n st (fun xs => call (.builtin "len") xs) [a] (.int l.length) := PL.one fun A _ E s H x S rx => by
  obtain ⟨ad, vs, m, rfl, ho, hr⟩ := lis_at (B := B) S.sto rx hl
  refine len_list (isList_of ho) (by rw [hr.size]; omega) ⟨kp_tok .., ?_⟩
  rw [hr.size]; exact .int ..
theorem tr_lis {a : V} {l : List V} (hl : lis st a = some l) (hfit : l.length < 2 ^ 62) : PTr B n st a (!l.isEmpty) := fun A _ E s H x S rx => by
  obtain ⟨ad, vs, m, rfl, ho, hr⟩ := lis_at (B := B) S.sto rx hl
  have hsz := hr.size
  refine wpAny_truthy_list (isList_of ho) (by rw [hsz]; omega) ⟨?_, kp_tok ..⟩
  cases l with
  | nil => have : vs = #[] := by simpa using hsz
           simp [this]
  | cons v l => simp only [List.isEmpty_cons, Bool.not_false, Bool.not_eq_eq_eq_not, Bool.not_true]; rw [Array.isEmpty_eq_false_iff]; rintro rfl; simp at hsz
theorem o_addL {a b : V} {l m : List V} (hl : lis st a = some l) (hm : lis st b = some m) (hsz : l.length + m.length ≤ sizeLine) : P2 B n st (binaryOp .Add) a b (.lst (l ++ m)) := fun A _ E s H x y S rx ry => by
  obtain ⟨ad, vs, q, rfl, ho, hr⟩ := lis_at (B := B) S.sto rx hl
  obtain ⟨bd, ws, q', rfl, ho', hr'⟩ := lis_at (B := B) S.sto ry hm
  refine PySem.P.add_list (n := q) (n2 := q') ho ho' ⟨kp_push .., .lst (notMem_size S.sto) (Heap.get?_push_size _ rfl) ?_⟩ (by have := hr.size; have := hr'.size; omega) 
  have := (hr.append hr').ext (kp_dk (kp_push s { cls := .type "list", data := .seq (vs ++ ws) }) H)
  simpa using this
end
end Mine

-- part Fw4
namespace Mine

def upd (ρ : Str → Option V) (x : Str) (v : V) : Str → Option V := fun y => if y = x then some v else ρ y

/-- what the frame's own names write -/
def wrt (env : Env) (xs : List Str) (b : Addr) : Prop := b = env.locals ∨ ∃ x ∈ xs, env.kindOf x = some .cell ∧ env.cells.lookup x = some b

theorem EnvRep.notSeq {env : Env} {ρ : Str → Option V} {H : Hd} {h : Heap} (x : EnvRep env ρ H h) {xs : List Str} {b : Addr} (hb : wrt env xs b) {o : Obj} (ho : h.get? b = some o) : ¬ IsSeq o := by
  rintro ⟨vs, n, hd⟩
  rcases hb with rfl | ⟨y, _, _, hc⟩
  · obtain ⟨m, ⟨o', es, ep, ho', hd', _⟩, _⟩ := x.loc
    rw [ho] at ho'; cases ho'; rw [hd] at hd'; cases hd'
  · obtain ⟨v, o', ho', hd'⟩ := x.cells y b (mem_of_lookup hc)
    rw [ho] at ho'; cases ho'; rw [hd] at hd'; cases hd'

theorem notSeq_notMem {H : Hd} {st : Store} {h : Heap} (S : SimH H st h) {b : Addr} {o : Obj} (ho : h.get? b = some o) (hs : ¬ IsSeq o) : ¬ H.has b := fun hm => by
  obtain ⟨o', ho', hs'⟩ := S.live _ hm
  rw [ho] at ho'; cases ho'; exact hs hs'

/-- a heap that keeps all but some non-sequences -/
theorem SimH.keepSeq {H : Hd} {st : Store} {h h' : Heap} (S : SimH H st h) (hk : ∀ b o, IsSeq o → h.get? b = some o → h'.get? b = some o) : SimH H st h' :=
  ⟨S.len, S.nd, fun k a l ha hl => let ⟨vs, n, ho, hr⟩ := S.at_ k a l ha hl; ⟨vs, n, hk _ _ (isSeq_lis ..) ho, hr.ext ⟨⟨[], by simp⟩, fun _ h1 h2 => absurd h1 h2, fun b o _ hs e => hk b o hs e⟩⟩, fun a ha => let ⟨o, ho, hs⟩ := S.live a ha; ⟨o, hk _ _ hs ho, hs⟩, S.dj⟩
theorem dk_seq {H : Hd} {h h' : Heap} (hk : ∀ b o, IsSeq o → h.get? b = some o → h'.get? b = some o) : DKeep H h H h' :=
  ⟨⟨[], by simp⟩, fun _ h1 h2 => absurd h1 h2, fun b o _ hs e => hk b o hs e⟩

theorem base_ne {B : Bs} {H : Hd} {h h' : Heap} (x : Base B H h) {W : Addr → Prop} (hk : ∀ b o, ¬ W b → h.get? b = some o → h'.get? b = some o) (hW : ∀ b, W b → B.h₀.get? b = none) : Base B H h' :=
  ⟨fun b o e => hk b o (fun hw => by rw [hW b hw] at e; cases e) (x.keep b o e), x.new⟩

/-- a frame's own objects are new upon the base -/
structure Own (B : Bs) (env : Env) (xs : List Str) : Prop where
  new : ∀ b, wrt env xs b → B.h₀.get? b = none

/-- the assignment of a value to a target: names of the target, the frame afterwards -/
def PA (B : Bs) (n : Nat) (env : Env) (st : Store) (target : Expr) (v : V) (xs : List Str) (ρ ρ' : Str → Option V) : Prop :=
  ∀ A, Rm n A → Own B env xs → ∀ E s H x, Sim B env ρ st H s.heap → Rep H s.heap x v →
    wpAny (model B.prog B.w) A (assign target env x) (fun _ s' => ∃ h' tk, s' = { s with heap := h', toks := tk } ∧ Sim B env ρ' st H h' ∧ ∀ b o, ¬ wrt env xs b → s.heap.get? b = some o → h'.get? b = some o) E s

theorem sim_storeLocal {B : Bs} {env : Env} {ρ : Str → Option V} {st : Store} {H : Hd} {h h' : Heap} {x : Str} {y : Value} {v : V} {m : Str → Option Value} {xs : List Str} (S : Sim B env ρ st H h) (O : Own B env xs)
    (hx : env.kindOf x = some .local) (hm : h.Ns env.locals m) (hr : ∀ x v, env.kindOf x = some .local → ρ x = some v → ∃ y, m x = some y ∧ Rep H h y v) (hn : h'.Ns env.locals (fun z => if z = x then some y else m z)) (hs : Heap.SameBut env.locals h h') (r : Rep H h y v) : Sim B env (upd ρ x v) st H h' := by
  have kp : ∀ b o, ¬ wrt env xs b → h.get? b = some o → h'.get? b = some o := fun b o hb e => hs.extBut b o (fun e' => hb (.inl e')) e
  have ks : ∀ b o, IsSeq o → h.get? b = some o → h'.get? b = some o := fun b o hq e => hs.extBut b o (fun e' => S.en.notSeq (xs := xs) (.inl e') e hq) e
  have kc : ∀ {c : Addr} {v : Option Value}, h.IsCell c v → c ≠ env.locals := fun hc e => by
    subst e
    obtain ⟨o, es, ep, ho, hd, _⟩ := hm
    obtain ⟨o', ho', hd'⟩ := hc
    rw [ho] at ho'; cases ho'; rw [hd] at hd'; cases hd'
  refine ⟨base_ne S.base kp O.new, S.sto.keepSeq ks, S.en.kind, S.en.gl, S.en.bi, ⟨_, hn, fun z w hz hw => ?_⟩, fun z w hz hw => ?_, fun z c hz => ?_, S.en.has, S.en.apart⟩
  · by_cases e : z = x
    · subst e
      simp only [upd, if_true] at hw; cases hw
      exact ⟨y, by simp, r.ext (dk_seq ks)⟩
    · simp only [upd, if_neg e] at hw
      obtain ⟨y', hy', r'⟩ := hr z w hz hw
      exact ⟨y', by simp [e, hy'], r'.ext (dk_seq ks)⟩
  · have e : z ≠ x := by rintro rfl; rw [hx] at hz; rcases hz with hz | hz <;> cases hz
    simp only [upd, if_neg e] at hw
    obtain ⟨c, y', h1, h2, h3⟩ := S.en.cell z w hz hw
    exact ⟨c, y', h1, h2.sameBut hs (kc h2), h3.ext (dk_seq ks)⟩
  · obtain ⟨w, hc⟩ := S.en.cells z c hz
    exact ⟨w, hc.sameBut hs (kc hc)⟩

theorem sim_storeCell {B : Bs} {env : Env} {ρ : Str → Option V} {st : Store} {H : Hd} {h h' : Heap} {x : Str} {y : Value} {v : V} {c : Addr} {v₀ : Option Value} {xs : List Str} (S : Sim B env ρ st H h) (O : Own B env xs) (hxs : x ∈ xs)
    (hx : env.kindOf x = some .cell) (hc : env.cells.lookup x = some c) (hv₀ : h.IsCell c v₀) (hn : h'.IsCell c (some y)) (hs : Heap.SameBut c h h') (r : Rep H h y v) : Sim B env (upd ρ x v) st H h' := by
  have hw : wrt env xs c := .inr ⟨x, hxs, hx, hc⟩
  have kp : ∀ b o, ¬ wrt env xs b → h.get? b = some o → h'.get? b = some o := fun b o hb e => hs.extBut b o (fun e' => hb (e' ▸ hw)) e
  have ks : ∀ b o, IsSeq o → h.get? b = some o → h'.get? b = some o := fun b o hq e => hs.extBut b o (fun e' => S.en.notSeq (xs := xs) (e' ▸ hw) e hq) e
  refine ⟨base_ne S.base kp O.new, S.sto.keepSeq ks, S.en.kind, S.en.gl, S.en.bi, ?_, fun z w hz hw => ?_, fun z c' hz => ?_, S.en.has, S.en.apart⟩
  · obtain ⟨m, hm, hr⟩ := S.en.loc
    refine ⟨m, hm.sameBut hs ?_, fun z w hz hw => ?_⟩
    · rintro rfl
      obtain ⟨o, es, ep, ho, hd, _⟩ := hm
      obtain ⟨o', ho', hd'⟩ := hv₀
      rw [ho] at ho'; cases ho'; rw [hd] at hd'; cases hd'
    · have e : z ≠ x := by rintro rfl; rw [hx] at hz; cases hz
      simp only [upd, if_neg e] at hw
      obtain ⟨y', hy', r'⟩ := hr z w hz hw
      exact ⟨y', hy', r'.ext (dk_seq ks)⟩
  · by_cases e : z = x
    · subst e
      simp only [upd, if_true] at hw; cases hw
      exact ⟨c, y, hc, hn, r.ext (dk_seq ks)⟩
    · simp only [upd, if_neg e] at hw
      obtain ⟨c', y', h1, h2, h3⟩ := S.en.cell z w hz hw
      exact ⟨c', y', h1, h2.sameBut hs (fun e' => e (name_of_addr S.en.apart (mem_of_lookup h1) (e' ▸ mem_of_lookup hc))), h3.ext (dk_seq ks)⟩
  · by_cases e : c' = c
    · subst e; exact ⟨_, hn⟩
    · obtain ⟨w, hc'⟩ := S.en.cells z c' hz
      exact ⟨w, hc'.sameBut hs e⟩

section
variable {B : Bs} {n : Nat} {env : Env} {ρ : Str → Option V} {st : Store}

/-- a store of a name -/
theorem st_name {A : Around} {E : Value → Shared → Prop} {s : Shared} {H : Hd} {x : Str} {y : Value} {v : V} {xs : List Str} {Q : Unit → Shared → Prop} (S : Sim B env ρ st H s.heap) (O : Own B env xs) (hxs : x ∈ xs)
    (hk : env.kindOf x = some .local ∨ env.kindOf x = some .cell) (r : Rep H s.heap y v)
    (h : ∀ h' tk, Sim B env (upd ρ x v) st H h' → (∀ b o, ¬ wrt env xs b → s.heap.get? b = some o → h'.get? b = some o) → Q () { s with heap := h', toks := tk }) :
    wpAny (model B.prog B.w) A (storeName env x y) Q E s := by
  rcases hk with hk | hk
  · obtain ⟨m, hm, hr⟩ := S.en.loc
    refine wpAny_storeName_local hk hm (fun h' hn hs => h h' _ (sim_storeLocal (xs := xs) S O hk hm hr hn hs r) fun b o hb e => hs.extBut b o (fun e' => hb (.inl e')) e) (by rw [S.en.kind]; rfl)
  · obtain ⟨c, hc⟩ := S.en.has x (.inl hk)
    obtain ⟨v₀, hv₀⟩ := S.en.cells x c (mem_of_lookup hc)
    refine wpAny_storeName_cell S.en.kind hk hc hv₀ fun h' hn hs => h h' _ (sim_storeCell S O hxs hk hc hv₀ hn hs r) fun b o hb e => hs.extBut b o (fun e' => hb (e' ▸ .inr ⟨x, hxs, hk, hc⟩)) e

theorem pa_name {x : Str} {pos : Pos} {v : V} {xs : List Str} (hxs : x ∈ xs) (hk : env.kindOf x = some .local ∨ env.kindOf x = some .cell) : PA B n env st (.Name x pos) v xs ρ (upd ρ x v) := fun A _ O E s H y S r =>
  wpAny_assign_Name (st_name S O hxs hk r fun h' tk S' kp => ⟨h', tk, rfl, S', kp⟩)

/-- targets in their order -/
def PAs (B : Bs) (n : Nat) (env : Env) (st : Store) (ts : List Expr) (vs : List V) (xs : List Str) (ρ ρ' : Str → Option V) : Prop :=
  ∀ A, Rm n A → Own B env xs → ∀ E s H ys, Sim B env ρ st H s.heap → RepAll H s.heap ys vs →
    wpAny (model B.prog B.w) A (assignInOrder ((assignEach ts env).map (·.2)) ys) (fun _ s' => ∃ h' tk, s' = { s with heap := h', toks := tk } ∧ Sim B env ρ' st H h' ∧ ∀ b o, ¬ wrt env xs b → s.heap.get? b = some o → h'.get? b = some o) E s

theorem wrt_dk {H : Hd} {h h' : Heap} {xs : List Str} (S : EnvRep env ρ H h) (hk : ∀ b o, ¬ wrt env xs b → h.get? b = some o → h'.get? b = some o) : DKeep H h H h' :=
  dk_seq fun b o hq e => hk b o (fun hw => S.notSeq hw e hq) e

theorem pas_nil {xs : List Str} : PAs B n env st [] [] xs ρ ρ := fun A _ O E s H ys S r => by
  cases r; exact wpAny_assignInOrder_none ⟨s.heap, s.toks, rfl, S, fun _ _ _ e => e⟩
theorem pas_cons {t : Expr} {ts : List Expr} {v : V} {vs : List V} {xs : List Str} {ρ₁ ρ₂ : Str → Option V} (h1 : PA B n env st t v xs ρ ρ₁) (h2 : PAs B n env st ts vs xs ρ₁ ρ₂)
    (he : assignEach (t :: ts) env = (false, assign t env) :: assignEach ts env := by rfl) : PAs B n env st (t :: ts) (v :: vs) xs ρ ρ₂ := fun A hA O E s H ys S r => by
  cases r with
  | cons r1 r2 =>
    rw [he]
    refine wpAny_assignInOrder_more (wpAny_mono (h1 A hA O E s H _ S r1) (fun _ s₁ q1 => ?_) fun _ _ e => e)
    obtain ⟨h', tk, rfl, S', kp⟩ := q1
    refine wpAny_mono (h2 A hA O E _ H _ S' (r2.ext (wrt_dk S.en kp))) (fun _ s₂ q2 => ?_) fun _ _ e => e
    obtain ⟨h'', tk', rfl, S'', kp'⟩ := q2
    exact ⟨h'', tk', rfl, S'', fun b o hb e => kp' b o hb (kp b o hb e)⟩

theorem pa_tuple {ts : List Expr} {k : Nat} {pos : Pos} {vs : List V} {xs : List Str} {ρ' : Str → Option V} (h : PAs B n env st ts vs xs ρ ρ') (hn : (assignEach ts env).length = vs.length := by rfl) (hstar : (assignEach ts env).findIdx? (·.1) = none := by rfl) :
    PA B n env st (.Tuple ts k pos) (.tup vs) xs ρ ρ' := fun A hA O E s H y S r => by
  cases r with
  | tup ha ho hr =>
    refine wpAny_assign_Tuple hA.hd (isTup_of ho) (by rw [hn, hr.size]) hstar fun h' he => ?_
    have kp : ∀ b o, s.heap.get? b = some o → h'.get? b = some o := fun b o e => he b o (Nat.ne_of_lt (Heap.lt_size e)) e
    refine wpAny_mono (h A hA O E { s with heap := h' } H _ (S.keeps kp) (hr.ext (.of_keeps kp))) (fun _ s₁ q => ?_) fun _ _ e => e
    obtain ⟨h'', tk', rfl, S'', kp'⟩ := q
    exact ⟨h'', tk', rfl, S'', fun b o hb e => kp' b o hb (kp b o e)⟩
end
end Mine

-- part Fw5
namespace Mine

/-- an iterator that hands out the values vs one by one; X: opaque sequences of its own; wr: what it writes; fp: what it stands on -/
structure Iter (B : Bs) (n : Nat) (it : Value) (vs : List V) (Cond : Store → Prop) (Tg : Expr → Prop) (X wr fp : List Addr) (St : Hd → Nat → Heap → Prop) : Prop where
  sub : ∀ b ∈ wr, b ∈ fp
  frame : ∀ H H' i h h', St H i h → DKeep H h H' h' → (∀ b ∈ fp, ∀ o, h.get? b = some o → h'.get? b = some o) → St H' i h'
  wrObj : ∀ H i h b, St H i h → b ∈ fp → ∃ o, h.get? b = some o ∧ (b ∈ wr → b ∉ X → ∃ fs, o.data = .fields fs)
  xObj : ∀ H i h b, St H i h → b ∈ X → ∃ o, h.get? b = some o ∧ IsSeq o
  item : ∀ A, Rm n A → ∀ E s H st i v target (Q : Value → Shared → Prop), Cond st → Tg target → SB B st H s.heap → (∀ a ∈ X, H.has a) → St H i s.heap → vs[i]? = some v →
    (∀ x h' tk, St H (i + 1) h' → (∀ b o, b ∉ wr → s.heap.get? b = some o → h'.get? b = some o) → Rep H h' x v → Q x { s with heap := h', toks := tk }) →
    wpAny (model B.prog B.w) A (pyNext it) (fun r s₁ => ∃ x, r = some x ∧ wpAny (model B.prog B.w) A (letOwnedTupleGo target it x) (fun _ s₂ => Q x s₂) E s₁) E s
  done : ∀ A, Rm n A → ∀ E s H st (Q : Shared → Prop), Cond st → SB B st H s.heap → (∀ a ∈ X, H.has a) → St H vs.length s.heap →
    (∀ h' tk, (∀ b o, b ∉ wr → s.heap.get? b = some o → h'.get? b = some o) → Q { s with heap := h', toks := tk }) →
    wpAny (model B.prog B.w) A (pyNext it) (fun r s₁ => r = none ∧ Q s₁) E s
  self : ∀ A, Rm n A → ∀ E s H i (Q : Value → Shared → Prop), St H i s.heap → Q it s → wpAny (model B.prog B.w) A (pyIter it) Q E s

def AnyT : Expr → Prop := fun _ => True
def IsTupT : Expr → Prop := fun t => ∃ es k p, t = .Tuple es k p

theorem iter_list {B : Bs} {n : Nat} {I ad : Addr} {a : V} {l : List V} : Iter B n (.ref I) l (fun st => lis st a = some l) AnyT [] [I] [I]
    (fun H i h => h.IsListIter I ad i ∧ Rep H h (.ref ad) a) where
  sub := fun b hb => hb
  frame := fun H H' i h h' ⟨hi, hr⟩ dk hk => ⟨hi.at fun o e => hk I (by simp) o e, hr.ext dk⟩
  wrObj := fun H i h b ⟨hi, _⟩ hb => by
    obtain ⟨o, ho, hc, hd⟩ := hi
    cases List.mem_singleton.mp hb
    exact ⟨o, ho, fun _ _ => ⟨_, hd⟩⟩
  xObj := fun H i h b _ hb => by simp at hb
  item := fun A hA E s H st i v target Q hc _ S _ ⟨hi, hr⟩ hv hQ => by
    obtain ⟨ad', vs, m, e, ho, hrs⟩ := lis_at (B := B) S.sto hr hc
    cases e
    obtain ⟨x, hx, rx⟩ := hrs.get hv
    refine wpAny_pyNext_list_item hi (isList_of ho) (by simpa using hx) fun h' hi' hs => ⟨x, rfl, letGo_listiter hi' ?_⟩
    have kp : ∀ b o, b ∉ [I] → s.heap.get? b = some o → h'.get? b = some o := fun b o hb e => hs.extBut b o (by simpa using hb) e
    have dk : DKeep H s.heap H h' := dk_seq fun b o hq e => kp b o (by
      intro hb
      cases List.mem_singleton.mp hb
      obtain ⟨o', ho', _, hd'⟩ := hi
      rw [e] at ho'; cases ho'
      obtain ⟨_, _, hq⟩ := hq
      rw [hq] at hd'; cases hd') e
    exact hQ x h' s.toks ⟨hi', hr.ext dk⟩ kp (rx.ext dk)
  done := fun A hA E s H st Q hc S _ ⟨hi, hr⟩ hQ => by
    obtain ⟨ad', vs, m, e, ho, hrs⟩ := lis_at (B := B) S.sto hr hc
    cases e
    refine wpAny_pyNext_list_end hA.hd hi (isList_of ho) (by have := hrs.size; simp [this]) fun h' hs => ⟨rfl, hQ h' s.toks fun b o hb e => hs b o (by simpa using hb) e⟩
  self := fun A hA E s H i Q ⟨hi, _⟩ hQ => wpAny_pyIter_listiter hi hQ

theorem letGo_rangeiter {prog : Program} {w : World} {A : Around} {E : Value → Shared → Prop} {target : Expr} {I : Addr} {x left step : Int} {v : Value} {Q' : Unit → Shared → Prop} {s' : Shared} (hit : IsRangeIter s'.heap I x left step) (h : Q' () s') :
    wpAny (model prog w) A (letOwnedTupleGo target (.ref I) v) Q' E s' := by
  unfold letOwnedTupleGo
  cases target <;> first
    | exact wpAny_pure h
    | (cases v <;> first
        | exact wpAny_pure h
        | (refine wpAny_bind (wpAny_load hit ?_)
           exact wpAny_pure h))

/-- the ints of a range -/
def rng (a c : Int) (m : Nat) : List Int := (List.range m).map fun (k : Nat) => a + (k : Int) * c

theorem iter_range {B : Bs} {n : Nat} {I : Addr} {a c : Int} {m : Nat} : Iter B n (.ref I) ((rng a c m).map V.int) (fun _ => True) AnyT [] [I] [I]
    (fun H i h => IsRangeIter h I (a + (i : Int) * c) ((m : Int) - i) c) where
  sub := fun b hb => hb
  frame := fun H H' i h h' hi dk hk => hk I (by simp) _ hi
  wrObj := fun H i h b hi hb => by
    cases List.mem_singleton.mp hb
    exact ⟨_, hi, fun _ _ => ⟨_, rfl⟩⟩
  xObj := fun H i h b _ hb => by simp at hb
  item := fun A hA E s H st i v target Q hc _ S _ hi hv hQ => by
    have hlt : i < m := by
      have := (List.getElem?_eq_some_iff.mp hv).1
      simpa [rng] using this
    have hv' : v = .int (a + (i : Int) * c) := by
      simp [rng, hlt] at hv; exact hv.symm
    subst hv'
    refine wpAny_pyNext_range_item hi (by omega) fun h' hi' hs => ⟨_, rfl, letGo_rangeiter hi' ?_⟩
    have kp : ∀ b o, b ∉ [I] → s.heap.get? b = some o → h'.get? b = some o := fun b o hb e => hs.extBut b o (by simpa using hb) e
    refine hQ _ h' _ ?_ kp (.int ..)
    have e1 : a + (i : Int) * c + c = a + ((i + 1 : Nat) : Int) * c := by rw [Int.natCast_succ, Int.add_mul]; omega
    have e2 : (m : Int) - (i : Int) - 1 = (m : Int) - ((i + 1 : Nat) : Int) := by omega
    rw [e1, e2] at hi'
    exact hi'
  done := fun A hA E s H st Q hc S _ hi hQ => by
    refine wpAny_pyNext_range_end hA.hd hi (by simp [rng]) fun h' hs => ⟨rfl, hQ h' s.toks fun b o hb e => hs b o (by simpa using hb) e⟩
  self := fun A hA E s H i Q hi hQ => wpAny_pyIter_rangeiter hi hQ

/-- the iterable of a for or of a comprehension, and its iterator -/
def PI (B : Bs) (n : Nat) (env : Env) (ρ : Str → Option V) (st : Store) (e : Expr) (vs : List V) (Cond : Store → Prop) (Tg : Expr → Prop) (plain : Bool) : Prop :=
  ∀ A, Rm n A → ∀ E s H, Sim B env ρ st H s.heap →
    wpAny (model B.prog B.w) A (eval e env) (fun x s₁ => Keeps s s₁ ∧ wpAny (model B.prog B.w) A (pyIter x) (fun it s₂ => Keeps s s₂ ∧
      ∃ X wr fp St, Iter B n it vs Cond Tg X wr fp St ∧ Cond st ∧ (plain = true → X = []) ∧ St ⟨H.hs, X ++ H.xs⟩ 0 s₂.heap ∧ ∀ b, b ∈ fp ∨ b ∈ X → s.heap.get? b = none) E s₁) E s

section
variable {B : Bs} {n : Nat} {env : Env} {ρ : Str → Option V} {st : Store}

theorem new_none {s s' : Shared} (k : Keeps s s') {a : Addr} (ha : s'.heap.objs.size ≤ a) : s.heap.get? a = none := by
  cases e : s.heap.get? a with
  | none => rfl
  | some o => exact absurd (Heap.lt_size (kp_get k _ _ e)) (Nat.not_lt.mpr ha)

theorem pi_list {e : Expr} {a : V} {l : List V} (h1 : PE B n env ρ st e a) (hl : lis st a = some l) : PI B n env ρ st e l (fun st => lis st a = some l) AnyT true := fun A hA E s H S => by
  refine wpAny_mono (h1 A hA E s H S) (fun x s₁ ⟨k1, r1⟩ => ⟨k1, ?_⟩) fun _ _ e => e
  obtain ⟨ad, vs, m, rfl, ho, hr⟩ := lis_at (B := B) (S.keeps (kp_get k1)).sto r1 hl
  refine wpAny_pyIter_list (isList_of ho) ⟨kp_trans k1 (kp_push ..), [], _, _, _, iter_list (ad := ad), hl, fun _ => rfl, ⟨⟨_, Heap.get?_push_size _ rfl, rfl, rfl⟩, r1.ext (kp_dk (kp_push s₁ _) H)⟩, fun b hb => ?_⟩
  rcases hb with hb | hb
  · cases List.mem_singleton.mp hb; exact new_none k1 (Nat.le_refl _)
  · simp at hb
end
end Mine

-- part Fw6
namespace Mine

section
variable {B : Bs} {n : Nat} {env : Env} {ρ : Str → Option V} {st : Store}

/-- the call of a class of the interpreter's by its name: what is shown of the class's call -/
theorem callT {A : Around} (hA : Rm n A) {E : Value → Shared → Prop} {s : Shared} {H : Hd} {x : Str} {np pos : Pos} {e : Expr} {es : List Expr} {T : String} {as : List V} {Q : Value → Shared → Prop} (S : Sim B env ρ st H s.heap)
    (hv : (B.mg x).or (B.mb x) = some (.type T)) (hk : env.kindOf x = some .globalImplicit) (h1 : PEs B n env ρ st (e :: es) as)
    (h2 : ∀ xs s₁, Keeps s s₁ → RepAll H s₁.heap xs as → wpAny (model B.prog B.w) A (call (.type T) xs) Q E s₁) (hd : (x == ("__debug__" : Str)) = false := by kernel_rfl)
    (he : starEach (e :: es) env = (false, eval e env) :: starEach es env := by rfl) (hplain : ∀ pos, (backTo pos (starEach es env)).any (·.1) = false := by intro _; rfl) :
    wpAny (model B.prog B.w) A (eval (.Call (.Name x np) (e :: es) [] pos) env) Q E s := by
  refine wpAny_Call_ofName (ld_glob S hk hv ?_ hd)
  exact callWith_type1 (wpAny_mono (h1 A hA E s H pos S) (fun xs s₁ ⟨k1, r1⟩ => h2 xs s₁ k1 r1) fun _ _ e => e) he (hplain pos)

theorem rangeSize_one (a b : Int) : Builtin.Range.rangeSize a b 1 = ((b - a).toNat : Int) := by
  unfold Builtin.Range.rangeSize
  simp only [show (1 : Int) > 0 from by decide, if_true]
  split <;> omega

/-- a range object's iterator -/
theorem range_iter {A : Around} (hA : Rm n A) {E : Value → Shared → Prop} {s s₁ : Shared} {H : Hd} {r : Addr} {a b c : Int} {t u v : Tok} {m : Nat} (k1 : Keeps s s₁) (hr : IsRange s₁.heap r a b c t u v) (hsmall : Builtin.Range.small a b c = true) (hm : Builtin.Range.rangeSize a b c = m) :
    wpAny (model B.prog B.w) A (pyIter (.ref r)) (fun it s₂ => Keeps s s₂ ∧
      ∃ X wr fp St, Iter B n it ((rng a c m).map V.int) (fun _ => True) AnyT X wr fp St ∧ True ∧ (true = true → X = []) ∧ St ⟨H.hs, X ++ H.xs⟩ 0 s₂.heap ∧ ∀ b, b ∈ fp ∨ b ∈ X → s.heap.get? b = none) E s₁ := by
  refine wpAny_pyIter_range hr hsmall ⟨kp_trans k1 (kp_push ..), [], _, _, _, iter_range, trivial, fun _ => rfl, ?_, fun b hb => ?_⟩
  · show IsRangeIter _ _ _ _ _
    rw [hm]
    simpa using Heap.get?_push_size _ rfl
  · rcases hb with hb | hb
    · cases List.mem_singleton.mp hb; exact new_none k1 (Nat.le_refl _)
    · simp at hb

theorem kp_pushT (s : Shared) (o : Obj) (k : Nat) : Keeps s { s with heap := s.heap.push o, toks := k } := ⟨_, _, rfl, fun _ _ e => Heap.get?_push_of_some _ e⟩

theorem pi_range1 {np pos : Pos} {e : Expr} {b : Int} (h1 : PE B n env ρ st e (.int b)) (hb : -(2 ^ 62) ≤ b ∧ b < 2 ^ 62)
    (hv : (B.mg "range").or (B.mb "range") = some (.type "range")) (hk : env.kindOf "range" = some .globalImplicit)
    (he : starEach [e] env = [(false, eval e env)] := by rfl) :
    PI B n env ρ st (.Call (.Name "range" np) [e] [] pos) ((rng 0 1 b.toNat).map V.int) (fun _ => True) AnyT true := fun A hA E s H S => by
  refine callT hA S hv hk (pes_cons h1 pes_nil he) (fun xs s₁ k1 r1 => ?_) (by decide) he (fun _ => rfl)
  cases r1 with
  | cons r1 r => cases r; cases r1; exact call_range_1 ⟨kp_trans k1 (kp_pushT ..), range_iter hA (kp_trans k1 (kp_pushT ..)) (Heap.get?_push_size _ rfl) (small_one (by omega) (by omega) hb.1 hb.2) (by rw [rangeSize_one]; simp)⟩
theorem pi_range2 {np pos : Pos} {e f : Expr} {a b : Int} (h1 : PE B n env ρ st e (.int a)) (h2 : PE B n env ρ st f (.int b)) (ha : -(2 ^ 62) ≤ a ∧ a < 2 ^ 62) (hb : -(2 ^ 62) ≤ b ∧ b < 2 ^ 62)
    (hv : (B.mg "range").or (B.mb "range") = some (.type "range")) (hk : env.kindOf "range" = some .globalImplicit)
    (he : starEach [e, f] env = [(false, eval e env), (false, eval f env)] := by rfl) (he' : starEach [f] env = [(false, eval f env)] := by rfl) :
    PI B n env ρ st (.Call (.Name "range" np) [e, f] [] pos) ((rng a 1 (b - a).toNat).map V.int) (fun _ => True) AnyT true := fun A hA E s H S => by
  refine callT hA S hv hk (pes_cons h1 (pes_cons h2 pes_nil he') (by rw [he, he'])) (fun xs s₁ k1 r1 => ?_) (by decide) (by rw [he, he']) (fun _ => by rw [he']; rfl)
  cases r1 with
  | cons r1 r => cases r with | cons r2 r => cases r; cases r1; cases r2; exact call_range_2 ⟨kp_trans k1 (kp_pushT ..), range_iter hA (kp_trans k1 (kp_pushT ..)) (Heap.get?_push_size _ rfl) (small_one ha.1 ha.2 hb.1 hb.2) (by rw [rangeSize_one])⟩

def zipV (l m : List V) : List V := List.zipWith (fun a b => V.tup [a, b]) l m

theorem iter_zip {z TI TO i1 i2 l1 l2 : Addr} {a1 a2 : V} {l m : List V} (D : ZipApart z TI TO i1 i2 l1 l2) : Iter B n (.ref z) (zipV l m) (fun st => lis st a1 = some l ∧ lis st a2 = some m) IsTupT [TO] [z, TO, i1, i2] [z, TO, i1, i2, TI]
    (fun H i h => IsZip h z TI TO .none ∧ IsPair h TI (.ref i1) (.ref i2) ∧ (∃ a b, IsPair h TO a b) ∧ h.IsListIter i1 l1 i ∧ h.IsListIter i2 l2 i ∧ Rep H h (.ref l1) a1 ∧ Rep H h (.ref l2) a2) where
  sub := fun b hb => by simp only [List.mem_cons] at hb ⊢; rcases hb with h | h | h | h | h <;> simp_all
  frame := fun H H' i h h' ⟨c1, c2, ⟨a, b, c3⟩, c4, c5, c6, c7⟩ dk hk => ⟨hk z (by simp) _ c1, hk TI (by simp) _ c2, ⟨a, b, hk TO (by simp) _ c3⟩, c4.at fun o e => hk i1 (by simp) o e, c5.at fun o e => hk i2 (by simp) o e, c6.ext dk, c7.ext dk⟩
  wrObj := fun H i h b ⟨c1, c2, ⟨x, y, c3⟩, ⟨o4, c4, _, d4⟩, ⟨o5, c5, _, d5⟩, c6, c7⟩ hb => by
    simp only [List.mem_cons, List.not_mem_nil, or_false] at hb
    rcases hb with rfl | rfl | rfl | rfl | rfl
    · exact ⟨_, c1, fun _ _ => ⟨_, rfl⟩⟩
    · exact ⟨_, c3, fun _ hx => absurd (List.mem_singleton.mpr rfl) hx⟩
    · exact ⟨_, c4, fun _ _ => ⟨_, d4⟩⟩
    · exact ⟨_, c5, fun _ _ => ⟨_, d5⟩⟩
    · refine ⟨_, c2, fun hw hx => ?_⟩
      simp only [List.mem_cons, List.not_mem_nil, or_false] at hw
      rcases hw with e | e | e | e
      · exact absurd e D.TIz
      · exact absurd e D.TITO
      · exact absurd e D.TIi1
      · exact absurd e D.TIi2
  xObj := fun H i h b ⟨c1, c2, ⟨x, y, c3⟩, _⟩ hb => by
    cases List.mem_singleton.mp hb
    exact ⟨_, c3, _, _, rfl⟩
  item := fun A hA E s H st i v target Q hc htg S hX ⟨c1, c2, ⟨x, y, c3⟩, c4, c5, c6, c7⟩ hv hQ => by
    obtain ⟨ad1, vs1, m1, e, ho1, hr1⟩ := lis_at (B := B) S.sto c6 hc.1
    cases e
    obtain ⟨ad2, vs2, m2, e, ho2, hr2⟩ := lis_at (B := B) S.sto c7 hc.2
    cases e
    obtain ⟨es, k, p, rfl⟩ := htg
    have hv' : ∃ a b, l[i]? = some a ∧ m[i]? = some b ∧ v = .tup [a, b] := by
      rw [zipV, List.getElem?_zipWith] at hv
      cases hl : l[i]? with
      | none => rw [hl] at hv; simp at hv
      | some a =>
        cases hm : m[i]? with
        | none => rw [hl, hm] at hv; simp at hv
        | some b => rw [hl, hm] at hv; simp at hv; exact ⟨a, b, rfl, rfl, hv.symm⟩
    obtain ⟨a, b, hla, hmb, rfl⟩ := hv'
    obtain ⟨xa, hxa, ra⟩ := hr1.get hla
    obtain ⟨xb, hxb, rb⟩ := hr2.get hmb
    refine wpAny_pyNext_zip_item D c1 c2 c3 c4 c5 (isList_of ho1) (isList_of ho2) (by simpa using hxa) (by simpa using hxb) fun h' d1 d2 d3 d4 d5 d6 kp => ⟨_, rfl, ?_⟩
    refine wpAny_letOwnedTupleGo_zip d1 fun h'' g1 hs => ?_
    have kp2 : ∀ b o, b ∉ [z, TO, i1, i2] → s.heap.get? b = some o → h''.get? b = some o := fun b o hb e => by
      simp only [List.mem_cons, List.not_mem_nil, or_false, not_or] at hb
      exact hs.extBut b o hb.1 (kp b o hb.1 hb.2.1 hb.2.2.1 hb.2.2.2 e)
    have dk : DKeep H s.heap H h'' := ⟨⟨[], by simp⟩, fun _ h1 h2 => absurd h1 h2, fun b o hb hq e => kp2 b o (by
      simp only [List.mem_cons, List.not_mem_nil, or_false, not_or]
      refine ⟨?_, ?_, ?_, ?_⟩
      · rintro rfl; rw [c1] at e; cases e; obtain ⟨_, _, hq⟩ := hq; cases hq
      · rintro rfl; exact hb (hX _ (by simp))
      · rintro rfl; obtain ⟨o', ho', _, hd'⟩ := c4; rw [e] at ho'; cases ho'; obtain ⟨_, _, hq⟩ := hq; rw [hq] at hd'; cases hd'
      · rintro rfl; obtain ⟨o', ho', _, hd'⟩ := c5; rw [e] at ho'; cases ho'; obtain ⟨_, _, hq⟩ := hq; rw [hq] at hd'; cases hd') e⟩
    have hzs : s.heap.objs.size ≠ z := Nat.ne_of_gt (Heap.lt_size c1)
    refine hQ _ h'' s.toks ⟨g1, hs.extBut _ _ D.TIz (kp _ _ D.TIz D.TITO D.TIi1 D.TIi2 c2), ⟨_, _, hs.extBut _ _ D.TOz d2⟩, d3.extBut hs.extBut D.i1z, d4.extBut hs.extBut D.i2z, c6.ext dk, c7.ext dk⟩ kp2 ?_
    exact .tup (vs := #[xa, xb]) (n := 0) (notMem_size S.sto) (hs.extBut _ _ hzs d5) (.cons (ra.ext dk) (.cons (rb.ext dk) .nil))
  done := fun A hA E s H st Q hc S hX ⟨c1, c2, ⟨x, y, c3⟩, c4, c5, c6, c7⟩ hQ => by
    obtain ⟨ad1, vs1, m1, e, ho1, hr1⟩ := lis_at (B := B) S.sto c6 hc.1
    cases e
    obtain ⟨ad2, vs2, m2, e, ho2, hr2⟩ := lis_at (B := B) S.sto c7 hc.2
    cases e
    have e1 := hr1.size
    have e2 := hr2.size
    refine wpAny_pyNext_zip_end hA.hd D c1 c2 c3 c4 c5 (isList_of ho1) (isList_of ho2) ?_ fun h' kp => ⟨rfl, hQ h' s.toks fun b o hb e => ?_⟩
    · simp only [zipV, List.length_zipWith]
      rcases Nat.le_total l.length m.length with h | h
      · left; simp; omega
      · right; simp; omega
    · simp only [List.mem_cons, List.not_mem_nil, or_false, not_or] at hb
      exact kp b o hb.1 hb.2.1 hb.2.2.1 hb.2.2.2 e
  self := fun A hA E s H i Q ⟨c1, _⟩ hQ => wpAny_pyIter_zip c1 hQ

theorem pi_zip {np pos : Pos} {e f : Expr} {a b : V} {l m : List V} (h1 : PE B n env ρ st e a) (h2 : PE B n env ρ st f b) (hl : lis st a = some l) (hm : lis st b = some m)
    (hv : (B.mg "zip").or (B.mb "zip") = some (.type "zip")) (hk : env.kindOf "zip" = some .globalImplicit)
    (he : starEach [e, f] env = [(false, eval e env), (false, eval f env)] := by rfl) (he' : starEach [f] env = [(false, eval f env)] := by rfl) :
    PI B n env ρ st (.Call (.Name "zip" np) [e, f] [] pos) (zipV l m) (fun st => lis st a = some l ∧ lis st b = some m) IsTupT false := fun A hA E s H S => by
  refine callT hA S hv hk (pes_cons h1 (pes_cons h2 pes_nil he') (by rw [he, he'])) (fun xs s₁ k1 r1 => ?_) (by decide) (by rw [he, he']) (fun _ => by rw [he']; rfl)
  cases r1 with
  | cons r1 r =>
    cases r with
    | cons r2 r =>
      cases r
      have S1 := S.keeps (kp_get k1)
      obtain ⟨ad1, vs1, m1, rfl, ho1, hr1⟩ := lis_at (B := B) S1.sto r1 hl
      obtain ⟨ad2, vs2, m2, rfl, ho2, hr2⟩ := lis_at (B := B) S1.sto r2 hm
      have q1 := Nat.lt_of_lt_of_le (Heap.lt_size ho1) (Nat.le_refl _)
      have q2 := Nat.lt_of_lt_of_le (Heap.lt_size ho2) (Nat.le_refl _)
      refine call_zip_2 (isList_of ho1) (isList_of ho2) fun h' c1 c2 c3 c4 c5 c6 kp => ?_
      have k2 : Keeps s₁ { s₁ with heap := h' } := kp_heap kp
      refine ⟨kp_trans k1 k2, wpAny_pyIter_zip c1 ⟨kp_trans k1 k2, [s₁.heap.objs.size + 3], _, _, _, iter_zip (z := s₁.heap.objs.size + 4) (TI := s₁.heap.objs.size + 2) (TO := s₁.heap.objs.size + 3) (i1 := s₁.heap.objs.size) (i2 := s₁.heap.objs.size + 1) (l1 := ad1) (l2 := ad2) (a1 := a) (a2 := b) ?_, ⟨hl, hm⟩, fun h => (nomatch h), ?_, fun b hb => ?_⟩⟩
      · constructor <;> first | exact Nat.ne_of_lt (by omega) | exact Nat.ne_of_gt (by omega)
      · have dk : DKeep H s₁.heap ⟨H.hs, [s₁.heap.objs.size + 3] ++ H.xs⟩ h' := ⟨⟨[], by simp⟩, fun a ha hn => by
          rcases ha with ha | ha
          · exact absurd (.inl ha) hn
          · rcases List.mem_cons.mp ha with e | ha
            · subst e
              cases e : s₁.heap.get? (s₁.heap.objs.size + 3) with
              | none => rfl
              | some o => exact absurd (Heap.lt_size e) (Nat.not_lt.mpr (by omega))
            · exact absurd (.inr ha) hn, fun b o _ _ e => kp b o e⟩
        exact ⟨c1, c2, ⟨_, _, c3⟩, c4, c5, r1.ext dk, r2.ext dk⟩
      · refine new_none k1 ?_
        simp only [List.mem_cons, List.not_mem_nil, or_false] at hb
        rcases hb with (rfl | rfl | rfl | rfl | rfl) | rfl <;> first | exact Nat.le_refl _ | exact Nat.le_add_right _ _
end
end Mine

-- part Fw7
namespace Mine

def nodupB : List Str → Bool
  | [] => true
  | x :: r => !r.contains x && nodupB r
def okScope (env : Env) (scope : Scope) : Bool :=
  scope.kind == .function && nodupB (scope.names.map (·.1)) && scope.names.all (fun x => x.2 != .free || env.kindOf x.1 == some .cell || env.kindOf x.1 == some .free)

theorem nodupB_iff : ∀ {l : List Str}, nodupB l = true → l.Nodup
  | [], _ => List.nodup_nil
  | x :: r, h => by
    simp only [nodupB, Bool.and_eq_true, Bool.not_eq_eq_eq_not, Bool.not_true] at h
    refine List.nodup_cons.mpr ⟨fun hm => ?_, nodupB_iff h.2⟩
    rw [List.contains_iff_mem.mpr hm] at h; cases h.1

/-- of distinct names the lookup finds each -/
theorem lookup_of_mem : ∀ {l : List (Str × NameKind)} {x : Str} {k : NameKind}, (l.map (·.1)).Nodup → (x, k) ∈ l → l.lookup x = some k
  | (y, j) :: r, x, k, hn, hm => by
    simp only [List.map_cons, List.nodup_cons] at hn
    rcases List.mem_cons.mp hm with e | hm
    · cases e; simp [List.lookup_cons]
    · have hne : x ≠ y := fun e => hn.1 (e ▸ List.mem_map.mpr ⟨(x, k), hm, rfl⟩)
      rw [List.lookup_cons, beq_false_of_ne hne]
      exact lookup_of_mem hn.2 hm

def closOf (env : Env) : List (Str × NameKind) → List (Str × Addr) → List (Str × Addr)
  | [], acc => acc
  | (n, k) :: r, acc => if k == .free then closOf env r ((n, (env.cells.lookup n).getD 0) :: acc) else closOf env r acc

theorem closureFor_eq {env : Env} {scope : Scope} (h : ∀ x ∈ scope.names, x.2 = .free → ∃ c, env.cells.lookup x.1 = some c) : closureFor scope env = pure (closOf env scope.names []) := by
  unfold closureFor
  have key : ∀ (l : List (Str × NameKind)) (acc : List (Str × Addr)), (∀ x ∈ l, x.2 = .free → ∃ c, env.cells.lookup x.1 = some c) →
      (forIn l acc (fun x r => if (x.2 == NameKind.free) = true then (do let a ← cellOf env x.1; pure (ForInStep.yield ((x.1, a) :: r))) else (do pure PUnit.unit; pure (ForInStep.yield r)) : Str × NameKind → List (Str × Addr) → Sem (ForInStep (List (Str × Addr))))) = pure (closOf env l acc) := by
    intro l
    induction l with
    | nil => intro acc _; rfl
    | cons x r ih =>
      intro acc hx
      obtain ⟨m, k⟩ := x
      rw [List.forIn_cons]
      by_cases hk : (k == NameKind.free) = true
      · have : k = .free := by simpa using hk
        subst this
        obtain ⟨c, hc⟩ := hx (m, .free) (by simp) rfl
        simp only [hk, if_true, closOf, hc, Option.getD_some]
        have : cellOf env m = pure c := by unfold cellOf; rw [hc]
        rw [this]
        show (forIn r ((m, c) :: acc) _ : Sem _) = _
        exact ih _ fun y hy => hx y (List.mem_cons_of_mem _ hy)
      · simp only [hk, closOf]
        exact ih _ fun y hy => hx y (List.mem_cons_of_mem _ hy)
  have := key scope.names [] h
  first
    | exact this
    | (simp only [bind_pure_comp] at this ⊢; simpa using this)
    | simpa using this

theorem closOf_app (env : Env) : ∀ (l : List (Str × NameKind)) (acc : List (Str × Addr)), closOf env l acc = closOf env l [] ++ acc
  | [], acc => rfl
  | (m, k) :: r, acc => by
    unfold closOf
    split
    · rw [closOf_app env r (_ :: acc), closOf_app env r [_], List.append_assoc]; rfl
    · exact closOf_app env r acc

theorem closOf_mem {env : Env} : ∀ {l : List (Str × NameKind)} {x : Str} {c : Addr}, (x, c) ∈ closOf env l [] → (x, NameKind.free) ∈ l ∧ c = (env.cells.lookup x).getD 0
  | (m, k) :: r, x, c, h => by
    unfold closOf at h
    split at h
    · rename_i hk
      have : k = .free := by simpa using hk
      subst this
      rw [closOf_app] at h
      rcases List.mem_append.mp h with h | h
      · exact ⟨List.mem_cons_of_mem _ (closOf_mem h).1, (closOf_mem h).2⟩
      · cases List.mem_singleton.mp h; exact ⟨List.mem_cons_self, rfl⟩
    · exact ⟨List.mem_cons_of_mem _ (closOf_mem h).1, (closOf_mem h).2⟩

theorem closOf_lookup {env : Env} : ∀ {l : List (Str × NameKind)} {x : Str}, (l.map (·.1)).Nodup → (x, NameKind.free) ∈ l → (closOf env l []).lookup x = some ((env.cells.lookup x).getD 0)
  | (m, k) :: r, x, hn, h => by
    simp only [List.map_cons, List.nodup_cons] at hn
    unfold closOf
    rcases List.mem_cons.mp h with e | h
    · obtain ⟨e1, e2⟩ := Prod.mk.inj e
      subst e1; subst e2
      simp only [beq_self_eq_true, if_true]
      rw [closOf_app, List.lookup_append]
      have : (closOf env r []).lookup x = none := by
        cases hq : (closOf env r []).lookup x with
        | none => rfl
        | some c => exact absurd (List.mem_map.mpr ⟨(x, .free), (closOf_mem (mem_of_lookup hq)).1, rfl⟩) hn.1
      rw [this]; simp [List.lookup_cons]
    · split
      · rw [closOf_app, List.lookup_append, closOf_lookup hn.2 h]; rfl
      · exact closOf_lookup hn.2 h

theorem cellsFrom_app : ∀ (m : Nat) (l : List (Str × NameKind)) (acc : List (Str × Addr)), cellsFrom m l acc = cellsFrom m l [] ++ acc
  | m, [], acc => rfl
  | m, (x, k) :: r, acc => by
    unfold cellsFrom
    split
    · rw [cellsFrom_app (m + 1) r (_ :: acc), cellsFrom_app (m + 1) r [_], List.append_assoc]; rfl
    · exact cellsFrom_app m r acc
theorem cellsFrom_mem : ∀ {m : Nat} {l : List (Str × NameKind)} {x : Str} {c : Addr}, (x, c) ∈ cellsFrom m l [] → (x, NameKind.cell) ∈ l
  | m, (y, k) :: r, x, c, h => by
    unfold cellsFrom at h
    split at h
    · rename_i hk
      have : k = .cell := by simpa using hk
      subst this
      rw [cellsFrom_app] at h
      rcases List.mem_append.mp h with h | h
      · exact List.mem_cons_of_mem _ (cellsFrom_mem h)
      · cases List.mem_singleton.mp h; exact List.mem_cons_self
    · exact List.mem_cons_of_mem _ (cellsFrom_mem h)
theorem cellsFrom_has : ∀ {m : Nat} {l : List (Str × NameKind)} {x : Str}, (x, NameKind.cell) ∈ l → ∃ c, (cellsFrom m l []).lookup x = some c
  | m, (y, k) :: r, x, h => by
    unfold cellsFrom
    rcases List.mem_cons.mp h with e | h
    · obtain ⟨e1, e2⟩ := Prod.mk.inj e
      subst e1; subst e2
      simp only [beq_self_eq_true, if_true]
      rw [cellsFrom_app, List.lookup_append]
      cases hq : (cellsFrom (m + 1) r []).lookup x with
      | none => exact ⟨m, by simp [List.lookup_cons]⟩
      | some c => exact ⟨c, rfl⟩
    · split
      · obtain ⟨c, hc⟩ := cellsFrom_has (m := m + 1) h
        rw [cellsFrom_app, List.lookup_append, hc]; exact ⟨c, rfl⟩
      · exact cellsFrom_has h

/-- the names that a comprehension sees of the frame around it -/
def restr (scope : Scope) (ρ : Str → Option V) : Str → Option V := fun x => if scope.names.lookup x = some .free then ρ x else none

/-- a comprehension's frame -/
def cEnv (scope : Scope) (C : Addr) (env : Env) : Env :=
  { scope := relabel scope env, locals := C, globals := env.globals, cells := cellsFrom (C + 1) scope.names (closOf env scope.names []), qual := env.qual, func := none, code := env.code, frame := env.frame, builtins := env.builtins }

theorem relabel_lookup {scope : Scope} {env : Env} : ∀ {x : Str} {k : NameKind}, (relabel scope env).names.lookup x = some k → k ≠ .cell → scope.names.lookup x = some k := by
  unfold relabel
  generalize scope.names = l
  intro x k
  induction l with
  | nil => intro h; simp at h
  | cons y r ih =>
    obtain ⟨m, j⟩ := y
    intro h hk
    by_cases hx : (x == m) = true
    · rw [List.map_cons, List.lookup_cons] at h
      rw [List.lookup_cons, hx]
      by_cases hc : (j == NameKind.free && env.scope.kind == .function && env.kindOf m == some .cell) = true
      · simp only [hc, if_true, hx] at h; cases h; exact absurd rfl hk
      · simp only [hc, Bool.false_eq_true, if_false, hx] at h; simpa using h
    · have hx' : (x == m) = false := by simpa using hx
      rw [List.lookup_cons, hx']
      refine ih ?_ hk
      rw [List.map_cons, List.lookup_cons] at h
      by_cases hc : (j == NameKind.free && env.scope.kind == .function && env.kindOf m == some .cell) = true
      · simp only [hc, if_true, hx'] at h; exact h
      · simp only [hc, Bool.false_eq_true, if_false, hx'] at h; exact h
theorem relabel_cell {scope : Scope} {env : Env} : ∀ {x : Str}, (relabel scope env).names.lookup x = some .cell → scope.names.lookup x = some .cell ∨ scope.names.lookup x = some .free := by
  unfold relabel
  generalize scope.names = l
  intro x
  induction l with
  | nil => intro h; simp at h
  | cons y r ih =>
    obtain ⟨m, j⟩ := y
    intro h
    by_cases hx : (x == m) = true
    · rw [List.map_cons, List.lookup_cons] at h
      simp only [List.lookup_cons, hx]
      by_cases hc : (j == NameKind.free && env.scope.kind == .function && env.kindOf m == some .cell) = true
      · simp only [Bool.and_eq_true, beq_iff_eq] at hc
        right; rw [hc.1.1]
      · simp only [hc, Bool.false_eq_true, if_false, hx] at h; left; simpa using h
    · have hx' : (x == m) = false := by simpa using hx
      simp only [List.lookup_cons, hx']
      refine ih ?_
      rw [List.map_cons, List.lookup_cons] at h
      by_cases hc : (j == NameKind.free && env.scope.kind == .function && env.kindOf m == some .cell) = true
      · simp only [hc, if_true, hx'] at h; exact h
      · simp only [hc, Bool.false_eq_true, if_false, hx'] at h; exact h

theorem mem_of_lookupK : ∀ {l : List (Str × NameKind)} {x : Str} {k : NameKind}, l.lookup x = some k → (x, k) ∈ l := fun h => mem_of_lookup h

theorem okScope_facts {env : Env} {scope : Scope} (h : okScope env scope = true) : scope.kind = .function ∧ (scope.names.map (·.1)).Nodup ∧ ∀ x, (x, NameKind.free) ∈ scope.names → env.kindOf x = some .cell ∨ env.kindOf x = some .free := by
  simp only [okScope, Bool.and_eq_true, beq_iff_eq, List.all_eq_true] at h
  refine ⟨h.1.1, nodupB_iff h.1.2, fun x hx => ?_⟩
  have := h.2 _ hx
  simpa using this

theorem env_comp {env : Env} {scope : Scope} {ρ : Str → Option V} {H : Hd} {h h' : Heap} {C : Addr} (E : EnvRep env ρ H h) (ok : okScope env scope = true) (hk : ∀ b o, h.get? b = some o → h'.get? b = some o) (hC : h.objs.size ≤ C)
    (hn : h'.Ns C (fun _ => none)) (hcs : CellsOk h' (C + 1) (cellsFrom (C + 1) scope.names [])) : EnvRep (cEnv scope C env) (restr scope ρ) H h' := by
  obtain ⟨f1, f2, f3⟩ := okScope_facts ok
  have E' := E.keeps hk
  have clo : ∀ x c, (x, c) ∈ closOf env scope.names [] → env.cells.lookup x = some c ∧ ∃ v, h.IsCell c v := fun x c hm => by
    obtain ⟨h1, h2⟩ := closOf_mem hm
    obtain ⟨c', hc'⟩ := E.has x (f3 x h1)
    rw [hc'] at h2
    have : c = c' := h2
    subst this
    exact ⟨hc', E.cells x c (mem_of_lookup hc')⟩
  have loo : ∀ x, scope.names.lookup x = some .free → (cEnv scope C env).cells.lookup x = env.cells.lookup x := fun x hx => by
    show (cellsFrom (C + 1) scope.names (closOf env scope.names [])).lookup x = _
    rw [cellsFrom_app, List.lookup_append]
    have h1 : (cellsFrom (C + 1) scope.names []).lookup x = none := by
      cases hq : (cellsFrom (C + 1) scope.names []).lookup x with
      | none => rfl
      | some c =>
        have := lookup_of_mem f2 (cellsFrom_mem (mem_of_lookup hq))
        rw [hx] at this; cases this
    rw [h1, closOf_lookup f2 (mem_of_lookup hx)]
    obtain ⟨c', hc'⟩ := E.has x (f3 x (mem_of_lookup hx))
    rw [hc']; rfl
  refine ⟨by simp [cEnv, relabel, f1], E.gl, E.bi, ⟨_, hn, fun x v hx hv => ?_⟩, fun x v hx hv => ?_, fun x c hm => ?_, fun x hx => ?_, ?_⟩
  · have : scope.names.lookup x = some .local := relabel_lookup hx (by simp)
    simp [restr, this] at hv
  · have hf : scope.names.lookup x = some .free := by
      unfold restr at hv
      split at hv
      · assumption
      · cases hv
    simp only [restr, hf, if_true] at hv
    obtain ⟨c, y, h1, h2, h3⟩ := E'.cell x v (f3 x (mem_of_lookup hf)) hv
    exact ⟨c, y, (loo x hf).trans h1, h2, h3⟩
  · have hm : (x, c) ∈ cellsFrom (C + 1) scope.names (closOf env scope.names []) := hm
    rw [cellsFrom_app] at hm
    rcases List.mem_append.mp hm with hm | hm
    · exact ⟨_, (hcs.empty x c hm).1⟩
    · obtain ⟨_, v, hv⟩ := clo x c hm
      exact ⟨v, hv.keeps hk⟩
  · have hx' : scope.names.lookup x = some .cell ∨ scope.names.lookup x = some .free := by
      rcases hx with hx | hx
      · exact relabel_cell hx
      · exact .inr (relabel_lookup hx (by simp))
    rcases hx' with hx' | hx'
    · obtain ⟨c, hc⟩ := cellsFrom_has (m := C + 1) (mem_of_lookup hx')
      refine ⟨c, ?_⟩
      show (cellsFrom (C + 1) scope.names (closOf env scope.names [])).lookup x = _
      rw [cellsFrom_app, List.lookup_append, hc]; rfl
    · obtain ⟨c, hc⟩ := E.has x (f3 x (mem_of_lookup hx'))
      exact ⟨c, (loo x hx').trans hc⟩
  · show (cellsFrom (C + 1) scope.names (closOf env scope.names [])).Pairwise _
    rw [cellsFrom_app]
    refine List.pairwise_append.mpr ⟨hcs.apart, ?_, fun x hx y hy e => ?_⟩
    · have : ∀ (l : List (Str × NameKind)) (acc : List (Str × Addr)), (l.map (·.1)).Nodup → (∀ x ∈ l, x ∈ scope.names) → acc.Pairwise (fun x y => x.2 ≠ y.2) → (∀ p ∈ acc, p.1 ∉ l.map (·.1) ∧ env.cells.lookup p.1 = some p.2) → (closOf env l acc).Pairwise (fun x y => x.2 ≠ y.2) := by
        intro l
        induction l with
        | nil => intro acc _ _ hp _; exact hp
        | cons y r ih =>
          obtain ⟨m, k⟩ := y
          intro acc hn hs hp ha
          simp only [List.map_cons, List.nodup_cons] at hn
          unfold closOf
          split
          · rename_i hk'
            have : k = .free := by simpa using hk'
            subst this
            obtain ⟨c, hc⟩ := E.has m (f3 m (hs _ List.mem_cons_self))
            rw [hc]
            refine ih _ hn.2 (fun z hz => hs z (List.mem_cons_of_mem _ hz)) (List.pairwise_cons.mpr ⟨fun z hz e => ?_, hp⟩) fun p hp' => ?_
            · obtain ⟨z1, z2⟩ := ha z hz
              have e' : c = z.2 := e
              have := name_of_addr E.apart (mem_of_lookup hc) (e' ▸ mem_of_lookup z2)
              exact z1 (by rw [← this]; simp)
            · rcases List.mem_cons.mp hp' with rfl | hp'
              · exact ⟨hn.1, hc⟩
              · exact ⟨fun hm => (ha p hp').1 (by simp [hm]), (ha p hp').2⟩
          · exact ih acc hn.2 (fun z hz => hs z (List.mem_cons_of_mem _ hz)) hp fun p hp' => ⟨fun hm => (ha p hp').1 (by simp [hm]), (ha p hp').2⟩
      exact this scope.names [] f2 (fun x hx => hx) List.Pairwise.nil fun p hp => (nomatch hp)
    · obtain ⟨_, h1⟩ := hcs.empty x.1 x.2 hx
      obtain ⟨_, v, hv⟩ := clo y.1 y.2 hy
      have := hv.lt
      exact absurd (Nat.lt_of_lt_of_le this hC) (Nat.not_lt.mpr (Nat.le_trans (Nat.le_succ C) (e ▸ h1)))
end Mine

-- part Fw8
namespace Mine

theorem turn_b (elt t0 i0 t1 i1 : Expr) (f0 f1 : List Expr) (scope : Scope) (pos : Pos) (it acc : Value) (env : Env) :
    compTurn (.ListComp elt [⟨t0, i0, f0, 0⟩, ⟨t1, i1, f1, 0⟩] scope pos) 1 it acc env = (do
      standAt i1.pos
      match ← pyNext it with
      | none => pure (.done .next)
      | some v =>
        letOwnedTupleGo t1 it v
        assign t1 env v
        let mut ok := true
        for c in f1 do
          if ok then ok ← isTrue c env (eval c env)
        if ok then
          (do let _ ← call (.builtin "list.append") [acc, ← eval elt env])
        again (.compLoop (.ListComp elt [⟨t0, i0, f0, 0⟩, ⟨t1, i1, f1, 0⟩] scope pos) 1 it acc env)) := by rfl

theorem turn_c (elt t0 i0 t1 i1 : Expr) (f0 f1 : List Expr) (scope : Scope) (pos : Pos) (it acc : Value) (env : Env) :
    compTurn (.ListComp elt [⟨t0, i0, f0, 0⟩, ⟨t1, i1, f1, 0⟩] scope pos) 0 it acc env = (do
      standAt i0.pos
      match ← pyNext it with
      | none => pure (.done .next)
      | some v =>
        letOwnedTupleGo t0 it v
        assign t0 env v
        let mut ok := true
        for c in f0 do
          if ok then ok ← isTrue c env (eval c env)
        if ok then
          let x ← eval i1 env
          standAt i1.pos
          let x ← foldedSetIterable i1 env x
          let _ ← runOwn (.compStart (.ListComp elt [⟨t0, i0, f0, 0⟩, ⟨t1, i1, f1, 0⟩] scope pos) 1 (← holding [x] (pyIter x)) acc env) env
        again (.compLoop (.ListComp elt [⟨t0, i0, f0, 0⟩, ⟨t1, i1, f1, 0⟩] scope pos) 0 it acc env)) := by rfl

/-- the list that grows -/
def AccAt (D : Addr) (ys : List V) (H : Hd) (h : Heap) : Prop := ∃ vs n, h.get? D = some (lisObj vs n) ∧ RepAll H h vs.toList ys

/-- the tests of a comprehension's clause -/
def PTs (B : Bs) (n : Nat) (env : Env) (ρ : Str → Option V) (st : Store) (ifs : List Expr) (b : Bool) : Prop :=
  ∀ A, Rm n A → ∀ E s H, Sim B env ρ st H s.heap →
    wpAny (model B.prog B.w) A (forIn ifs true fun c r => if r = true then do let ok ← isTrue c env (eval c env); pure (ForInStep.yield ok) else pure (ForInStep.yield r)) (fun x s' => x = b ∧ Keeps s s') E s

/-- what a turn does behind the assignment of its target: it puts `out` onto the list D -/
def CBody (B : Bs) (n : Nat) (cenv : Env) (xs : List Str) (D : Addr) (st : Store) (ρ ρ₀ : Str → Option V) (t : Sem Unit) (out : List V) : Prop :=
  ∀ A, Rm n A → Own B cenv xs → ∀ E s H ys, D ∈ H.xs → ¬ wrt cenv xs D → Sim B cenv ρ st H s.heap → AccAt D ys H s.heap → ys.length + out.length ≤ sizeLine →
    wpAny (model B.prog B.w) A t (fun _ s' => ∃ h' tk, s' = { s with heap := h', toks := tk } ∧ Sim B cenv ρ₀ st H h' ∧ AccAt D (ys ++ out) H h' ∧ ∀ b o, b ≠ D → ¬ wrt cenv xs b → s.heap.get? b = some o → h'.get? b = some o) E s

theorem EnvRep.weaken {env : Env} {ρ ρ₀ : Str → Option V} {H : Hd} {h : Heap} (x : EnvRep env ρ H h) (hw : ∀ y v, ρ₀ y = some v → ρ y = some v) : EnvRep env ρ₀ H h :=
  ⟨x.kind, x.gl, x.bi, let ⟨m, hm, hr⟩ := x.loc; ⟨m, hm, fun y v hy hv => hr y v hy (hw y v hv)⟩, fun y v hy hv => x.cell y v hy (hw y v hv), x.cells, x.has, x.apart⟩
theorem Sim.weaken {B : Bs} {env : Env} {ρ ρ₀ : Str → Option V} {st : Store} {H : Hd} {h : Heap} (x : Sim B env ρ st H h) (hw : ∀ y v, ρ₀ y = some v → ρ y = some v) : Sim B env ρ₀ st H h := ⟨x.base, x.sto, x.en.weaken hw⟩

/-- only non-sequences and opaque things were written -/
theorem sim_wr {B : Bs} {env : Env} {ρ : Str → Option V} {st : Store} {H : Hd} {h h' : Heap} {X wr : List Addr} (S : Sim B env ρ st H h) (hX : ∀ a ∈ X, a ∈ H.xs ∧ a ∉ H.hs)
    (hwr : ∀ b ∈ wr, b ∉ X → ∃ o fs, h.get? b = some o ∧ o.data = .fields fs) (hXl : ∀ b ∈ X, (∃ o, h.get? b = some o ∧ IsSeq o) ∧ ∃ o, h'.get? b = some o ∧ IsSeq o) (hnew : ∀ b ∈ wr, B.h₀.get? b = none)
    (kp : ∀ b o, b ∉ wr → h.get? b = some o → h'.get? b = some o) : Sim B env ρ st H h' ∧ DKeep H h H h' := by
  have noF : ∀ b o, h.get? b = some o → b ∉ X → (∀ fs, o.data ≠ .fields fs) → b ∉ wr := fun b o ho hb hn hw => by
    obtain ⟨o', fs, ho', hd⟩ := hwr b hw hb
    rw [ho] at ho'; cases ho'; exact hn fs hd
  have seqNF : ∀ {o : Obj}, IsSeq o → ∀ fs, o.data ≠ .fields fs := fun ⟨_, _, e⟩ fs e' => by rw [e] at e'; cases e'
  have dk : DKeep H h H h' := ⟨⟨[], by simp⟩, fun _ h1 h2 => absurd h1 h2, fun b o hb hq e => kp b o (noF b o e (fun hx => hb (.inr (hX b hx).1)) (seqNF hq)) e⟩
  have notX : ∀ {b : Addr} {o : Obj}, h.get? b = some o → ¬ IsSeq o → b ∉ X := fun ho hn hx => by
    obtain ⟨⟨o', ho', hs'⟩, _⟩ := hXl _ hx
    rw [ho] at ho'; cases ho'; exact hn hs'
  have kc : ∀ {c : Addr} {v : Option Value}, h.IsCell c v → h'.IsCell c v := fun ⟨o, ho, hd⟩ => ⟨o, kp _ o (noF _ o ho (notX ho (by rintro ⟨_, _, e⟩; rw [hd] at e; cases e)) (by intro fs e; rw [hd] at e; cases e)) ho, hd⟩
  refine ⟨⟨⟨fun b o e => kp b o (fun hw => by rw [hnew b hw] at e; cases e) (S.base.keep b o e), S.base.new⟩, ⟨S.sto.len, S.sto.nd, fun k a l ha hl => ?_, fun a ha => ?_, S.sto.dj⟩, S.en.kind, S.en.gl, S.en.bi, ?_, fun y v hy hv => ?_, fun y c hc => ?_, S.en.has, S.en.apart⟩, dk⟩
  · obtain ⟨vs, m, ho, hr⟩ := S.sto.at_ k a l ha hl
    exact ⟨vs, m, kp a _ (noF a _ ho (fun hx => (hX a hx).2 (List.mem_of_getElem? ha)) (seqNF (isSeq_lis ..))) ho, hr.ext dk⟩
  · obtain ⟨o, ho, hs⟩ := S.sto.live a ha
    by_cases hx : a ∈ X
    · exact (hXl a hx).2
    · exact ⟨o, kp a o (noF a o ho hx (seqNF hs)) ho, hs⟩
  · obtain ⟨m, hm, hr⟩ := S.en.loc
    refine ⟨m, hm.at' fun o e => kp _ o ?_ e, fun y v hy hv => let ⟨z, hz, r⟩ := hr y v hy hv; ⟨z, hz, r.ext dk⟩⟩
    obtain ⟨o', es, ep, ho', hd, _⟩ := hm
    rw [e] at ho'; cases ho'
    exact noF _ o e (notX e (by rintro ⟨_, _, e⟩; rw [hd] at e; cases e)) (by intro fs e; rw [hd] at e; cases e)
  · obtain ⟨c, z, h1, h2, h3⟩ := S.en.cell y v hy hv
    exact ⟨c, z, h1, kc h2, h3.ext dk⟩
  · obtain ⟨v, hv⟩ := S.en.cells y c hc
    exact ⟨v, kc hv⟩

-- fewer opaque things
mutual
theorem Rep.less {H H' : Hd} {h : Heap} (e : H'.hs = H.hs) (hx : ∀ a ∈ H'.xs, a ∈ H.xs) : ∀ {y : Value} {v : V}, Rep H h y v → Rep H' h y v
  | _, _, .none => .none
  | _, _, .bool b => .bool b
  | _, _, .int i t => .int i t
  | _, _, .str s t => .str s t
  | _, _, .tup ha ho hr => .tup (fun hm => ha (hm.elim (fun h => .inl (e ▸ h)) fun h => .inr (hx _ h))) ho (RepAll.less e hx hr)
  | _, _, .lst ha ho hr => .lst (fun hm => ha (hm.elim (fun h => .inl (e ▸ h)) fun h => .inr (hx _ h))) ho (RepAll.less e hx hr)
  | _, _, .ref hk => .ref (e ▸ hk)
  | _, _, .val y => .val y
theorem RepAll.less {H H' : Hd} {h : Heap} (e : H'.hs = H.hs) (hx : ∀ a ∈ H'.xs, a ∈ H.xs) : ∀ {ys : List Value} {vs : List V}, RepAll H h ys vs → RepAll H' h ys vs
  | _, _, .nil => .nil
  | _, _, .cons hy hr => .cons (Rep.less e hx hy) (RepAll.less e hx hr)
end

theorem Rep.dropX {H : Hd} {X : List Addr} {h : Heap} {y : Value} {v : V} (r : Rep ⟨H.hs, X ++ H.xs⟩ h y v) : Rep H h y v := Rep.less (H := ⟨H.hs, X ++ H.xs⟩) (H' := H) rfl (fun _ ha => List.mem_append_right _ ha) r
theorem RepAll.dropX {H : Hd} {X : List Addr} {h : Heap} {y : List Value} {v : List V} (r : RepAll ⟨H.hs, X ++ H.xs⟩ h y v) : RepAll H h y v := RepAll.less (H := ⟨H.hs, X ++ H.xs⟩) (H' := H) rfl (fun _ ha => List.mem_append_right _ ha) r

/-- as sim_wr, the opaque things are dropped -/
theorem sim_wr0 {B : Bs} {env : Env} {ρ : Str → Option V} {st : Store} {H : Hd} {h h' : Heap} {X wr : List Addr} (S : Sim B env ρ st ⟨H.hs, X ++ H.xs⟩ h) (hX : ∀ a ∈ X, ¬ H.has a)
    (hwr : ∀ b ∈ wr, b ∉ X → ∃ o fs, h.get? b = some o ∧ o.data = .fields fs) (hnew : ∀ b ∈ wr, B.h₀.get? b = none)
    (kp : ∀ b o, b ∉ wr → h.get? b = some o → h'.get? b = some o) : Sim B env ρ st H h' ∧ DKeep ⟨H.hs, X ++ H.xs⟩ h ⟨H.hs, X ++ H.xs⟩ h' := by
  have noF : ∀ b o, h.get? b = some o → b ∉ X → (∀ fs, o.data ≠ .fields fs) → b ∉ wr := fun b o ho hb hn hw => by
    obtain ⟨o', fs, ho', hd⟩ := hwr b hw hb
    rw [ho] at ho'; cases ho'; exact hn fs hd
  have seqNF : ∀ {o : Obj}, IsSeq o → ∀ fs, o.data ≠ .fields fs := fun ⟨_, _, e⟩ fs e' => by rw [e] at e'; cases e'
  have dk : DKeep ⟨H.hs, X ++ H.xs⟩ h ⟨H.hs, X ++ H.xs⟩ h' := ⟨⟨[], by simp⟩, fun _ h1 h2 => absurd h1 h2, fun b o hb hq e => kp b o (noF b o e (fun hx => hb (.inr (List.mem_append_left _ hx))) (seqNF hq)) e⟩
  have le : ∀ a ∈ H.xs, a ∈ X ++ H.xs := fun a ha => List.mem_append_right _ ha
  have notX : ∀ {b : Addr} {o : Obj}, h.get? b = some o → ¬ IsSeq o → b ∉ X := fun ho hn hx => by
    obtain ⟨o', ho', hs'⟩ := S.sto.live _ (.inr (List.mem_append_left _ hx))
    rw [ho] at ho'; cases ho'; exact hn hs'
  have kc : ∀ {c : Addr} {v : Option Value}, h.IsCell c v → h'.IsCell c v := fun ⟨o, ho, hd⟩ => ⟨o, kp _ o (noF _ o ho (notX ho (by rintro ⟨_, _, e⟩; rw [hd] at e; cases e)) (by intro fs e; rw [hd] at e; cases e)) ho, hd⟩
  refine ⟨⟨⟨fun b o e => kp b o (fun hw => by rw [hnew b hw] at e; cases e) (S.base.keep b o e), fun a ha => S.base.new a (ha.elim .inl fun h => .inr (le a h))⟩, ⟨S.sto.len, S.sto.nd, fun k a l ha hl => ?_, fun a ha => ?_, fun a ha => S.sto.dj a (le a ha)⟩, S.en.kind, S.en.gl, S.en.bi, ?_, fun y v hy hv => ?_, fun y c hc => ?_, S.en.has, S.en.apart⟩, dk⟩
  · obtain ⟨vs, m, ho, hr⟩ := S.sto.at_ k a l ha hl
    exact ⟨vs, m, kp a _ (noF a _ ho (fun hx => hX a hx (.inl (List.mem_of_getElem? ha))) (seqNF (isSeq_lis ..))) ho, (hr.ext dk).dropX⟩
  · obtain ⟨o, ho, hs⟩ := S.sto.live a (ha.elim .inl fun h => .inr (le a h))
    exact ⟨o, kp a o (noF a o ho (fun hx => hX a hx ha) (seqNF hs)) ho, hs⟩
  · obtain ⟨m, hm, hr⟩ := S.en.loc
    refine ⟨m, hm.at' fun o e => kp _ o ?_ e, fun y v hy hv => let ⟨z, hz, r⟩ := hr y v hy hv; ⟨z, hz, (r.ext dk).dropX⟩⟩
    obtain ⟨o', es, ep, ho', hd, _⟩ := hm
    rw [e] at ho'; cases ho'
    exact noF _ o e (notX e (by rintro ⟨_, _, e⟩; rw [hd] at e; cases e)) (by intro fs e; rw [hd] at e; cases e)
  · obtain ⟨c, z, h1, h2, h3⟩ := S.en.cell y v hy hv
    exact ⟨c, z, h1, kc h2, (h3.ext dk).dropX⟩
  · obtain ⟨v, hv⟩ := S.en.cells y c hc
    exact ⟨v, kc hv⟩

/-- more opaque things -/
theorem sim_more {B : Bs} {st : Store} {H : Hd} {h h' : Heap} {Y : List Addr} (S : SB B st H h) (kp : ∀ b o, h.get? b = some o → h'.get? b = some o) (hnew : ∀ a ∈ Y, h.get? a = none) (hlive : ∀ a ∈ Y, ∃ o, h'.get? a = some o ∧ IsSeq o) :
    SB B st ⟨H.hs, Y ++ H.xs⟩ h' ∧ DKeep H h ⟨H.hs, Y ++ H.xs⟩ h' := by
  have dk : DKeep H h ⟨H.hs, Y ++ H.xs⟩ h' := ⟨⟨[], by simp⟩, fun a ha hn => by
    rcases ha with ha | ha
    · exact absurd (.inl ha) hn
    · rcases List.mem_append.mp ha with ha | ha
      · exact hnew a ha
      · exact absurd (.inr ha) hn, fun b o _ _ e => kp b o e⟩
  refine ⟨⟨⟨fun b o e => kp b o (S.base.keep b o e), fun a ha => ?_⟩, S.sto.len, S.sto.nd, fun k a l ha hl => ?_, fun a ha => ?_, fun a ha => ?_⟩, dk⟩
  · rcases ha with ha | ha
    · exact S.base.new a (.inl ha)
    · rcases List.mem_append.mp ha with ha | ha
      · cases e : B.h₀.get? a with
        | none => rfl
        | some o => have := S.base.keep a o e; rw [hnew a ha] at this; cases this
      · exact S.base.new a (.inr ha)
  · obtain ⟨vs, m, ho, hr⟩ := S.sto.at_ k a l ha hl
    exact ⟨vs, m, kp a _ ho, hr.ext dk⟩
  · rcases ha with ha | ha
    · obtain ⟨o, ho, hs⟩ := S.sto.live a (.inl ha); exact ⟨o, kp _ _ ho, hs⟩
    · rcases List.mem_append.mp ha with ha | ha
      · exact hlive a ha
      · obtain ⟨o, ho, hs⟩ := S.sto.live a (.inr ha); exact ⟨o, kp _ _ ho, hs⟩
  · rcases List.mem_append.mp ha with ha | ha
    · intro hm
      obtain ⟨o, ho, _⟩ := S.sto.live a (.inl hm)
      rw [hnew a ha] at ho; cases ho
    · exact S.sto.dj a ha
theorem EnvRep.ext {env : Env} {ρ : Str → Option V} {H H' : Hd} {h h' : Heap} (x : EnvRep env ρ H h) (kp : ∀ b o, h.get? b = some o → h'.get? b = some o) (dk : DKeep H h H' h') : EnvRep env ρ H' h' :=
  ⟨x.kind, x.gl, x.bi, let ⟨m, hm, hr⟩ := x.loc; ⟨m, hm.keeps kp, fun n v hn hv => let ⟨y, hy, r⟩ := hr n v hn hv; ⟨y, hy, r.ext dk⟩⟩,
    fun n v hn hv => let ⟨c, y, h1, h2, h3⟩ := x.cell n v hn hv; ⟨c, y, h1, h2.keeps kp, h3.ext dk⟩, fun n c hn => let ⟨v, h2⟩ := x.cells n c hn; ⟨v, h2.keeps kp⟩, x.has, x.apart⟩

theorem upd_lis {h : Heap} {l : Addr} {vs : Array Value} {n : Nat} (ho : h.get? l = some (lisObj vs n)) (f : Array Value → Array Value) : ∃ n', (h.update l (Obj.mapSeq f)).get? l = some (lisObj (f vs) n') :=
  ⟨_, Heap.get?_update_self _ ho rfl⟩

theorem wpAny_append_lis {prog : Program} {w : World} {A : Around} {E : Value → Shared → Prop} {s : Shared} {l : Addr} {items : Array Value} {n : Nat} {x : Value} {Q : Value → Shared → Prop} (ho : s.heap.get? l = some (lisObj items n)) (hsz : items.size ≤ sizeLine)
    (hQ : ∀ h' n', h'.get? l = some (lisObj (items.push x) n') → Heap.SameBut l s.heap h' → Q .none { s with heap := h' }) :
    wpAny (model prog w) A (call (.builtin "list.append") [.ref l, x]) Q E s := by
  refine wpAny_call_entry slot_list_append (isList_of ho).typeIs entry_list_append ?_ (args_list_append _ _)
  show wpAny _ _ (updateSeq l (·.push x) >>= fun _ => ret .none) _ _ s
  refine wpAny_bind ?_
  obtain ⟨n', hn'⟩ := upd_lis ho (·.push x)
  exact wpAny_updateSeq ho rfl (wpAny_pure ⟨.none, rfl, hQ _ n' hn' (Heap.SameBut.update ..)⟩)

/-- an opaque list was changed -/
theorem sim_acc {B : Bs} {env : Env} {ρ : Str → Option V} {st : Store} {H : Hd} {h h' : Heap} {D : Addr} {vs ws : Array Value} {n m : Nat} (S : Sim B env ρ st H h) (hD : D ∈ H.xs) (ho : h.get? D = some (lisObj vs n)) (ho' : h'.get? D = some (lisObj ws m))
    (kp : ∀ b o, b ≠ D → h.get? b = some o → h'.get? b = some o) : Sim B env ρ st H h' := by
  have dk : DKeep H h H h' := ⟨⟨[], by simp⟩, fun _ h1 h2 => absurd h1 h2, fun b o hb hq e => kp b o (fun e' => hb (e' ▸ .inr hD)) e⟩
  have ne : ∀ {b : Addr} {o : Obj}, h.get? b = some o → ¬ IsSeq o → b ≠ D := fun hb hn e => by subst e; rw [ho] at hb; cases hb; exact hn (isSeq_lis ..)
  have kc : ∀ {c : Addr} {v : Option Value}, h.IsCell c v → h'.IsCell c v := fun ⟨o, ho, hd⟩ => ⟨o, kp _ o (ne ho (by rintro ⟨_, _, e⟩; rw [hd] at e; cases e)) ho, hd⟩
  refine ⟨⟨fun b o e => kp b o (fun e' => by subst e'; rw [S.base.new _ (.inr hD)] at e; cases e) (S.base.keep b o e), S.base.new⟩, ⟨S.sto.len, S.sto.nd, fun k a l ha hl => ?_, fun a ha => ?_, S.sto.dj⟩, S.en.kind, S.en.gl, S.en.bi, ?_, fun y v hy hv => ?_, fun y c hc => ?_, S.en.has, S.en.apart⟩
  · obtain ⟨us, q, ho, hr⟩ := S.sto.at_ k a l ha hl
    exact ⟨us, q, kp a _ (fun e => S.sto.dj _ hD (e ▸ List.mem_of_getElem? ha)) ho, hr.ext dk⟩
  · by_cases e : a = D
    · subst e; exact ⟨_, ho', isSeq_lis ..⟩
    · obtain ⟨o, ho, hs⟩ := S.sto.live a ha; exact ⟨o, kp a o e ho, hs⟩
  · obtain ⟨q, hm, hr⟩ := S.en.loc
    refine ⟨q, hm.at' fun o e => kp _ o ?_ e, fun y v hy hv => let ⟨z, hz, r⟩ := hr y v hy hv; ⟨z, hz, r.ext dk⟩⟩
    obtain ⟨o', es, ep, ho', hd, _⟩ := hm
    rw [e] at ho'; cases ho'
    exact ne e (by rintro ⟨_, _, e⟩; rw [hd] at e; cases e)
  · obtain ⟨c, z, h1, h2, h3⟩ := S.en.cell y v hy hv
    exact ⟨c, z, h1, kc h2, h3.ext dk⟩
  · obtain ⟨v, hv⟩ := S.en.cells y c hc
    exact ⟨v, kc hv⟩

theorem new_comp {prog : Program} {w : World} {A : Around} {E : Value → Shared → Prop} {s : Shared} {scope : Scope} {env : Env} {cl : List (Str × Addr)} {Q : Env → Shared → Prop}
    (hQ : ∀ h', h'.Ns s.heap.objs.size (fun _ => none) → CellsOk h' (s.heap.objs.size + 1) (cellsFrom (s.heap.objs.size + 1) scope.names []) → (∀ b o, s.heap.get? b = some o → h'.get? b = some o) →
      Q { scope, locals := s.heap.objs.size, globals := env.globals, cells := cellsFrom (s.heap.objs.size + 1) scope.names cl, qual := env.qual, func := none, code := env.code, frame := env.frame, builtins := env.builtins } { s with heap := h' }) :
    wpAny (model prog w) A (newFunctionEnv scope env.globals cl [] env.qual none .none (some env)) Q E s := by
  simp only [newFunctionEnv, Option.isSome_some, if_true]
  refine wpAny_bind (wpAny_alloc ?_)
  refine wpAny_bind (wpAny_layCells _ (fun name kind cells => by cases hkc : kind == NameKind.cell <;> simp [hkc]) _ _ _ _ ?_)
  have ok := cellsFrom_ok scope.names (s.heap.push { cls := .type "dict", data := .dict #[] }) (s.heap.objs.size + 1) [] ⟨fun _ _ hm => (nomatch hm), List.Pairwise.nil⟩ (by rw [Heap.size_push]; exact Nat.le_refl _)
  rw [Heap.size_push] at ok
  rw [show ({ s with heap := s.heap.push { cls := .type "dict", data := .dict #[] } } : Shared).heap.objs.size = s.heap.objs.size + 1 from Heap.size_push ..]
  refine wpAny_bind ?_
  rw [List.forIn_nil]
  refine wpAny_pure (wpAny_pure (hQ _ ((Heap.Ns.new s.heap (.type "dict")).keeps (pushCells_keeps _ _)) ok fun b o e => pushCells_keeps _ _ b o (Heap.get?_push_of_some _ e)))
end Mine

-- part Fw9
namespace Mine

/-- as CBody, the turn's rest with its `again` -/
def RBody (B : Bs) (n : Nat) (cenv : Env) (xs : List Str) (D : Addr) (st : Store) (ρ ρ₀ : Str → Option V) (t : Sem PySem.Fin) (c : Code) (out : List V) : Prop :=
  ∀ A, Rm n A → Own B cenv xs → ∀ E s H ys, D ∈ H.xs → ¬ wrt cenv xs D → Sim B cenv ρ st H s.heap → AccAt D ys H s.heap → ys.length + out.length ≤ sizeLine →
    wpAny (model B.prog B.w) A t (fun fin s' => fin = .again c ∧ ∃ h' tk, s' = { s with heap := h', toks := tk } ∧ Sim B cenv ρ₀ st H h' ∧ AccAt D (ys ++ out) H h' ∧ ∀ b o, b ≠ D → ¬ wrt cenv xs b → s.heap.get? b = some o → h'.get? b = some o) E s

section
variable {B : Bs} {n : Nat} {st : Store}

theorem AccAt.ext {D : Addr} {ys : List V} {H : Hd} {h h' : Heap} (x : AccAt D ys H h) (dk : DKeep H h H h') (hD : ∀ o, h.get? D = some o → h'.get? D = some o) : AccAt D ys H h' :=
  let ⟨vs, m, ho, hr⟩ := x; ⟨vs, m, hD _ ho, hr.ext dk⟩

theorem comp_loop {A : Around} (hA : Rm n A) {R : Result → Shared → Prop} {s : Shared} {c : Code} {p : Pos} {target : Expr} {it : Value} {cenv : Env} {rest : Sem PySem.Fin} {vs : List V} {Cond : Store → Prop} {Tg : Expr → Prop} {X wr fp : List Addr} {St : Hd → Nat → Heap → Prop} {xs : List Str} {D : Addr} {H : Hd} {ρ₀ : Str → Option V} {ys₀ : List V}
    (hq : c.quiet = true)
    (hden : ∀ (Q : PySem.Fin → Shared → Prop) (E : Value → Shared → Prop) s, wpAny (model B.prog B.w) A ((do
      standAt p
      match ← pyNext it with
      | none => pure (.done .next)
      | some v => do
        letOwnedTupleGo target it v
        assign target cenv v
        rest : Sem PySem.Fin).onRaise (fun x => do noteFrame x cenv; theTreesLotGoes x)) Q E s → wpAny (model B.prog B.w) (A.under c) ((model B.prog B.w).den c) Q E s)
    (IT : Iter B n it vs Cond Tg X wr fp St) (hc : Cond st) (htg : Tg target) (outs : List (List V)) (hlen : outs.length = vs.length)
    (turn : ∀ (i : Nat) v out, vs[i]? = some v → outs[i]? = some out → ∃ ρ', PA B n cenv st target v xs ρ₀ ρ' ∧ RBody B n cenv xs D st ρ' ρ₀ rest c out)
    (O : Own B cenv xs) (hD : D ∈ H.xs) (hDw : ¬ wrt cenv xs D) (hDfp : D ∉ fp) (hX : ∀ a ∈ X, ¬ H.has a) (hfpw : ∀ b ∈ fp, ¬ wrt cenv xs b) (hnew : ∀ b ∈ wr, B.h₀.get? b = none)
    (S : Sim B cenv ρ₀ st ⟨H.hs, X ++ H.xs⟩ s.heap) (acc : AccAt D ys₀ ⟨H.hs, X ++ H.xs⟩ s.heap) (hst : St ⟨H.hs, X ++ H.xs⟩ 0 s.heap) (hsz : (ys₀ ++ outs.flatten).length ≤ sizeLine)
    (hR : ∀ h' tk, Sim B cenv ρ₀ st H h' → AccAt D (ys₀ ++ outs.flatten) H h' → (∀ b o, b ≠ D → b ∉ wr → ¬ wrt cenv xs b → s.heap.get? b = some o → h'.get? b = some o) → R (.ok .next) { s with heap := h', toks := tk }) :
    codeAny (model B.prog B.w) A c R s := by
  refine codeAny_loop hq (fun k s' => ∃ h tk i, s' = { s with heap := h, toks := tk } ∧ k = vs.length + 1 - i ∧ i ≤ vs.length ∧ Sim B cenv ρ₀ st ⟨H.hs, X ++ H.xs⟩ h ∧ St ⟨H.hs, X ++ H.xs⟩ i h ∧ AccAt D (ys₀ ++ (outs.take i).flatten) ⟨H.hs, X ++ H.xs⟩ h ∧
    ∀ b o, b ≠ D → b ∉ wr → ¬ wrt cenv xs b → s.heap.get? b = some o → h.get? b = some o) ?_ (vs.length + 1) ⟨s.heap, s.toks, 0, rfl, rfl, Nat.zero_le _, S, hst, by simpa using acc, fun _ _ _ _ _ e => e⟩
  rintro k s' ⟨h, tk, i, rfl, rfl, hi, S', hst', acc', kp⟩
  refine hden _ _ _ (wpAny_noted (wpAny_bind (wpAny_standAt (wpAny_bind ?_))))
  have hwr : ∀ b ∈ wr, b ∉ X → ∃ o fs, h.get? b = some o ∧ o.data = .fields fs := fun b hb hx => by
    obtain ⟨o, ho, hf⟩ := IT.wrObj _ _ _ b hst' (IT.sub b hb)
    obtain ⟨fs, hfs⟩ := hf hb hx
    exact ⟨o, fs, ho, hfs⟩
  have hDwr : D ∉ wr := fun hw => hDfp (IT.sub D hw)
  have hXH : ∀ a ∈ X, (⟨H.hs, X ++ H.xs⟩ : Hd).has a := fun a ha => .inr (List.mem_append_left _ ha)
  have le : ∀ a ∈ H.xs, a ∈ X ++ H.xs := fun a ha => List.mem_append_right _ ha
  cases hv : vs[i]? with
  | none =>
    have hlen : i = vs.length := Nat.le_antisymm hi (List.getElem?_eq_none_iff.mp hv)
    subst hlen
    refine wpAny_mono (IT.done A hA _ { s with heap := h, toks := tk } ⟨H.hs, X ++ H.xs⟩ st (fun s₁ => R (.ok .next) s₁) hc S'.sb hXH hst' fun h' tk' kp' => ?_) (fun r s₁ ⟨e, q⟩ => ?_) fun _ _ e => e
    · obtain ⟨S₁, dk⟩ := sim_wr0 S' hX hwr hnew kp'
      refine hR h' tk' S₁ ?_ fun b o hb hw ht e => kp' b o hw (kp b o hb hw ht e)
      obtain ⟨zs, m, ho, hr⟩ := acc'
      rw [← hlen, List.take_length] at hr
      exact ⟨zs, m, kp' D _ hDwr ho, (hr.ext dk).dropX⟩
    · subst e; exact wpAny_pure q
  | some v =>
    have hlt : i < vs.length := (List.getElem?_eq_some_iff.mp hv).1
    have hout : outs[i]? = some (outs[i]'(hlen ▸ hlt)) := List.getElem?_eq_getElem _
    generalize outs[i]'(hlen ▸ hlt) = out at hout
    obtain ⟨ρ', pa, rb⟩ := turn i v out hv hout
    have htake : outs.take (i + 1) = outs.take i ++ [out] := by rw [List.take_add_one, hout]; rfl
    have key : ∀ (Post : PySem.Fin → Shared → Prop) (EE : Value → Shared → Prop), (∀ h₃ tk₃, Sim B cenv ρ₀ st ⟨H.hs, X ++ H.xs⟩ h₃ → St ⟨H.hs, X ++ H.xs⟩ (i + 1) h₃ → AccAt D (ys₀ ++ (outs.take (i + 1)).flatten) ⟨H.hs, X ++ H.xs⟩ h₃ →
        (∀ b o, b ≠ D → b ∉ wr → ¬ wrt cenv xs b → h.get? b = some o → h₃.get? b = some o) → Post (.again c) { s with heap := h₃, toks := tk₃ }) →
        wpAny (model B.prog B.w) A (pyNext it) (fun r s₁ => ∃ x, r = some x ∧ wpAny (model B.prog B.w) A (letOwnedTupleGo target it x) (fun _ s₂ => wpAny (model B.prog B.w) A (assign target cenv x) (fun _ s₃ => wpAny (model B.prog B.w) A rest Post EE s₃) EE s₂) EE s₁) EE { s with heap := h, toks := tk } := by
      intro Post EE hp
      refine IT.item A hA EE { s with heap := h, toks := tk } ⟨H.hs, X ++ H.xs⟩ st i v target (fun x s₂ => wpAny (model B.prog B.w) A (assign target cenv x) (fun _ s₃ => wpAny (model B.prog B.w) A rest Post EE s₃) EE s₂) hc htg S'.sb hXH hst' hv fun x h₁ tk₁ hst₁ kp₁ r₁ => ?_
      have hXl : ∀ b ∈ X, (∃ o, h.get? b = some o ∧ IsSeq o) ∧ ∃ o, h₁.get? b = some o ∧ IsSeq o := fun b hb => ⟨IT.xObj _ _ _ b hst' hb, IT.xObj _ _ _ b hst₁ hb⟩
      obtain ⟨S₁, dk₁⟩ := sim_wr S' (X := X) (fun a ha => ⟨List.mem_append_left _ ha, fun hm => hX a ha (.inl hm)⟩) hwr hXl hnew kp₁
      have acc₁ := acc'.ext dk₁ (fun o e => kp₁ D o hDwr e)
      refine wpAny_mono (pa A hA O _ _ _ x S₁ r₁) (fun _ s₂ q₂ => ?_) fun _ _ e => e
      obtain ⟨h₂, tk₂, rfl, S₂, kp₂⟩ := q₂
      have dk₂ := wrt_dk S₁.en kp₂
      have acc₂ := acc₁.ext dk₂ (fun o e => kp₂ D o hDw e)
      have hst₂ := IT.frame _ _ _ _ _ hst₁ dk₂ fun b hb o e => kp₂ b o (hfpw b hb) e
      refine wpAny_mono (rb A hA O _ _ _ _ (le D hD) hDw S₂ acc₂ ?_) (fun fin s₃ q₃ => ?_) fun _ _ e => e
      · have e1 : (outs.flatten).length = ((outs.take (i + 1)).flatten).length + ((outs.drop (i + 1)).flatten).length := by
          rw [← List.length_append, ← List.flatten_append, List.take_append_drop]
        rw [htake, List.flatten_append, List.length_append] at e1
        simp only [List.flatten_cons, List.flatten_nil, List.append_nil, List.length_append] at e1 hsz ⊢
        omega
      · obtain ⟨rfl, h₃, tk₃, rfl, S₃, acc₃, kp₃⟩ := q₃
        refine hp h₃ tk₃ S₃ ?_ ?_ fun b o hb hw ht e => kp₃ b o hb ht (kp₂ b o ht (kp₁ b o hw e))
        · refine IT.frame _ _ _ _ _ hst₂ ?_ fun b hb o e => kp₃ b o (fun e' => hDfp (e' ▸ hb)) (hfpw b hb) e
          exact ⟨⟨[], by simp⟩, fun _ h1 h2 => absurd h1 h2, fun b o hb hq e => kp₃ b o (fun e' => hb (e' ▸ .inr (le D hD))) (fun hw => S₂.en.notSeq hw e hq) e⟩
        · rw [htake, List.flatten_append, ← List.append_assoc]
          simpa using acc₃
    have key2 := key (fun fin s' => ∃ h₃ tk₃, fin = .again c ∧ s' = { s with heap := h₃, toks := tk₃ } ∧ Sim B cenv ρ₀ st ⟨H.hs, X ++ H.xs⟩ h₃ ∧ St ⟨H.hs, X ++ H.xs⟩ (i + 1) h₃ ∧ AccAt D (ys₀ ++ (outs.take (i + 1)).flatten) ⟨H.hs, X ++ H.xs⟩ h₃ ∧ (∀ b o, b ≠ D → b ∉ wr → ¬ wrt cenv xs b → h.get? b = some o → h₃.get? b = some o)) (notedBy (model B.prog B.w) A cenv fun e s' => R (Except.error e) s') fun h₃ tk₃ S₃ hst₃ acc₃ kp₃ => ⟨h₃, tk₃, rfl, rfl, S₃, hst₃, acc₃, kp₃⟩
    refine wpAny_mono key2 (fun r s₁ hr => ?_) fun _ _ e => e
    obtain ⟨x, e, q⟩ := hr
    subst e
    refine wpAny_bind (wpAny_mono q (fun _ s₂ q₂ => wpAny_bind (wpAny_mono q₂ (fun _ s₃ q₃ => wpAny_mono q₃ (fun fin s₄ q₄ => ?_) fun _ _ e => e) fun _ _ e => e)) fun _ _ e => e)
    obtain ⟨h₃, tk₃, rfl, rfl, S₃, hst₃, acc₃, kp₃⟩ := q₄
    exact ⟨rfl, vs.length + 1 - (i + 1), by omega, h₃, tk₃, i + 1, rfl, rfl, hlt, S₃, hst₃, acc₃, fun b o hb hw ht e => kp₃ b o hb hw ht (kp b o hb hw ht e)⟩

/-- tests, then the element is put onto the list -/
theorem rb_emit {cenv : Env} {xs : List Str} {D : Addr} {ρ ρ₀ : Str → Option V} {ifs : List Expr} {elt : Expr} {c : Code} {p : Bool} {v : V} (h1 : PTs B n cenv ρ st ifs p) (h2 : p = true → PE B n cenv ρ st elt v) (hw : ∀ y v, ρ₀ y = some v → ρ y = some v) :
    RBody B n cenv xs D st ρ ρ₀ (do
        let mut ok := true
        for c in ifs do
          if ok then ok ← isTrue c cenv (eval c cenv)
        if ok then
          (do let _ ← call (.builtin "list.append") [.ref D, ← eval elt cenv])
        again c) c (if p then [v] else []) := fun A hA O E s H ys hD hDw S acc hsz => by
  refine wpAny_bind (wpAny_mono (h1 A hA _ s H S) (fun ok s₁ ⟨e, k1⟩ => ?_) fun _ _ e => e)
  subst e
  have S₁ := S.keeps (kp_get k1)
  have acc₁ := acc.ext (kp_dk k1 H) (fun o e => kp_get k1 _ _ e)
  cases ok with
  | false =>
    obtain ⟨h', tk, rfl, kp⟩ := k1
    exact wpAny_pure ⟨rfl, h', tk, rfl, S₁.weaken hw, by simpa using acc₁, fun b o _ _ e => kp b o e⟩
  | true =>
    refine wpAny_bind (wpAny_bind (wpAny_mono (h2 rfl A hA _ s₁ H S₁) (fun x s₂ ⟨k2, r2⟩ => ?_) fun _ _ e => e))
    have S₂ := S₁.keeps (kp_get k2)
    obtain ⟨vs, m, ho, hr⟩ := acc₁.ext (kp_dk k2 H) (fun o e => kp_get k2 _ _ e)
    have hsize := hr.size
    have ho' : s₂.heap.IsList D vs := isList_of ho
    have hszv : vs.size ≤ sizeLine := by simp at hsz; omega
    refine wpAny_bind (wpAny_append_lis ho hszv fun h₃ m' ho₃ hs₃ => wpAny_pure (wpAny_pure ⟨rfl, ?_⟩))
    obtain ⟨h₂, tk₂, e2, kp⟩ := kp_trans k1 k2
    subst e2
    have dk : DKeep H h₂ H h₃ := ⟨⟨[], by simp⟩, fun _ h1 h2 => absurd h1 h2, fun b o hb hq e => hs₃.extBut b o (fun e' => hb (e' ▸ .inr hD)) e⟩
    have kp3 : ∀ b o, b ≠ D → h₂.get? b = some o → h₃.get? b = some o := fun b o hb e => hs₃.extBut b o hb e
    refine ⟨h₃, tk₂, rfl, ?_, ?_, fun b o hb _ e => kp3 b o hb (kp b o e)⟩
    · exact (sim_acc S₂ hD ho ho₃ kp3).weaken hw
    · exact ⟨vs.push x, m', ho₃, by simpa using (hr.append (RepAll.one r2)).ext dk⟩
end
end Mine

-- part Fw10
namespace Mine

theorem relabel_own {scope : Scope} {env : Env} {x : Str} {k : NameKind} (hx : scope.names.lookup x = some k) (hk : k ≠ .free) : (relabel scope env).names.lookup x = some k := by
  unfold relabel
  revert hx
  generalize scope.names = l
  induction l with
  | nil => intro h; simp at h
  | cons y r ih =>
    obtain ⟨m, j⟩ := y
    intro h
    by_cases hx : (x == m) = true
    · rw [List.lookup_cons, hx] at h
      cases h
      have hj : (k == NameKind.free && env.scope.kind == .function && env.kindOf m == some .cell) = false := by
        have : (k == NameKind.free) = false := by simpa using hk
        rw [this]; rfl
      rw [List.map_cons]
      simp only [hj, Bool.false_eq_true, if_false, List.lookup_cons, hx]
    · have hx' : (x == m) = false := by simpa using hx
      rw [List.lookup_cons, hx'] at h
      rw [List.map_cons]
      by_cases hc : (j == NameKind.free && env.scope.kind == .function && env.kindOf m == some .cell) = true
      · simp only [hc, if_true, List.lookup_cons, hx']; exact ih h
      · simp only [hc, Bool.false_eq_true, if_false, List.lookup_cons, hx']; exact ih h

theorem wrt_comp {scope : Scope} {env : Env} {C : Addr} {xs : List Str} (f2 : (scope.names.map (·.1)).Nodup) (hxs : ∀ x ∈ xs, scope.names.lookup x = some .local ∨ scope.names.lookup x = some .cell) {h' : Heap} (hcs : CellsOk h' (C + 1) (cellsFrom (C + 1) scope.names [])) {b : Addr}
    (hb : wrt (cEnv scope C env) xs b) : C ≤ b := by
  rcases hb with e | ⟨x, hx, hk, hc⟩
  · exact e ▸ Nat.le_refl _
  · rcases hxs x hx with h | h
    · have : (cEnv scope C env).kindOf x = some .local := relabel_own h (by simp)
      rw [hk] at this; cases this
    · have hc' : (cellsFrom (C + 1) scope.names (closOf env scope.names [])).lookup x = some b := hc
      rw [cellsFrom_app, List.lookup_append] at hc'
      obtain ⟨c, hcc⟩ := cellsFrom_has (m := C + 1) (mem_of_lookup h)
      rw [hcc] at hc'
      cases hc'
      exact Nat.le_trans (Nat.le_succ _) (hcs.empty x b (mem_of_lookup hcc)).2

section
variable {B : Bs} {n : Nat} {env : Env} {ρ : Str → Option V} {st : Store}

/-- a comprehension with one clause, up to its end -/
theorem comp_block1 {A : Around} (hA : Rm n A) {E : Value → Shared → Prop} {s : Shared} {H : Hd} {elt target iter : Expr} {ifs : List Expr} {scope : Scope} {pos : Pos} {RR : Value → Addr → Result → Shared → Prop} {vs : List V} {Cond : Store → Prop} {Tg : Expr → Prop} {pl : Bool} {xs : List Str}
    (S : Sim B env ρ st H s.heap) (hiter : PI B n env ρ st iter vs Cond Tg pl) (htg : Tg target) (ok : okScope env scope = true) (hxs : ∀ x ∈ xs, scope.names.lookup x = some .local ∨ scope.names.lookup x = some .cell) (outs : List (List V)) (hlen : outs.length = vs.length)
    (hturn : ∀ (i : Nat) v out, vs[i]? = some v → outs[i]? = some out → ∀ C, ∃ ρ' p w, PA B n (cEnv scope C env) st target v xs (restr scope ρ) ρ' ∧ PTs B n (cEnv scope C env) ρ' st ifs p ∧ (p = true → PE B n (cEnv scope C env) ρ' st elt w) ∧ out = (if p then [w] else []) ∧ ∀ y u, restr scope ρ y = some u → ρ' y = some u)
    (hsz : (outs.flatten).length ≤ sizeLine)
    (hRR : ∀ D C h' tk m, s.heap.get? D = none → s.heap.get? C = none → D ≠ C → h'.Ns C m → AccAt D (outs.flatten) ⟨H.hs, [D] ++ H.xs⟩ h' → (∀ b o, s.heap.get? b = some o → h'.get? b = some o) → RR (.ref D) C (.ok .next) { s with heap := h', toks := tk }) :
    wpAny (model B.prog B.w) A (eval iter env) (fun xv s₁ => wpAny (model B.prog B.w) A (pyIter xv) (fun it s₂ => wpAny (model B.prog B.w) A (newList []) (fun acc s₃ => wpAny (model B.prog B.w) A (newFunctionEnv scope env.globals (closOf env scope.names []) [] env.qual none .none (some env)) (fun cenv s₄ =>
      codeAny (model B.prog B.w) A (.compStart (.ListComp elt [⟨target, iter, ifs, 0⟩] scope pos) 0 it acc { cenv with scope := relabel scope env }) (RR acc cenv.locals) s₄) E s₃) E s₂) E s₁) E s := by
  refine wpAny_mono (hiter A hA E s H S) (fun xv s₁ ⟨k1, q1⟩ => wpAny_mono q1 (fun it s₂ q2 => ?_) fun _ _ e => e) fun _ _ e => e
  obtain ⟨k2, X, wr, fp, St, IT, hc, _, hst, hnew⟩ := q2
  obtain ⟨f1, f2, f3⟩ := okScope_facts ok
  refine wpAny_newObj_type (new_comp fun h₄ hns hcs kp4 => ?_) (Nat.zero_le _)
  have k3 := kp_push s₂ { cls := .type "list", data := .seq ([] : List Value).toArray }
  have hszp : (s₂.heap.push { cls := .type "list", data := .seq ([] : List Value).toArray }).objs.size = s₂.heap.objs.size + 1 := Heap.size_push ..
  generalize hC : (s₂.heap.push { cls := .type "list", data := .seq ([] : List Value).toArray }).objs.size = C at hns hcs hszp ⊢
  have kp24 : ∀ b o, s₂.heap.get? b = some o → h₄.get? b = some o := fun b o e => kp4 b o (Heap.get?_push_of_some _ e)
  have kp04 : ∀ b o, s.heap.get? b = some o → h₄.get? b = some o := fun b o e => kp24 b o (kp_get k2 b o e)
  have hDacc : h₄.get? s₂.heap.objs.size = some (lisObj #[] 0) := kp4 _ _ (Heap.get?_push_size _ rfl)
  have none2 : ∀ a, s₂.heap.objs.size ≤ a → s.heap.get? a = none := fun a ha => new_none k2 ha
  have lt2 : ∀ b o, s₂.heap.get? b = some o → b ≠ s₂.heap.objs.size ∧ b < C := fun b o e => ⟨Nat.ne_of_lt (Heap.lt_size e), by rw [hszp]; exact Nat.lt_succ_of_lt (Heap.lt_size e)⟩
  -- the store with the iterator's opaque things and the growing list
  have live2 : ∀ b, b ∈ fp ∨ b ∈ X → ∃ o, s₂.heap.get? b = some o := fun b hb => by
    rcases hb with hb | hb
    · obtain ⟨o, ho, _⟩ := IT.wrObj _ _ _ b hst hb; exact ⟨o, ho⟩
    · obtain ⟨o, ho, _⟩ := IT.xObj _ _ _ b hst hb; exact ⟨o, ho⟩
  have dist : ∀ b, b ∈ fp ∨ b ∈ X → b ≠ s₂.heap.objs.size ∧ b < C := fun b hb => by
    obtain ⟨o, ho⟩ := live2 b hb; exact lt2 b o ho
  obtain ⟨SB1, dk1⟩ := sim_more (Y := X ++ [s₂.heap.objs.size]) S.sb kp04 (fun a ha => by
      rcases List.mem_append.mp ha with ha | ha
      · exact hnew a (.inr ha)
      · cases List.mem_singleton.mp ha; exact none2 _ (Nat.le_refl _)) (fun a ha => by
      rcases List.mem_append.mp ha with ha | ha
      · obtain ⟨o, ho, hs⟩ := IT.xObj _ _ _ a hst ha
        exact ⟨o, kp24 _ _ ho, hs⟩
      · cases List.mem_singleton.mp ha; exact ⟨_, hDacc, isSeq_lis ..⟩)
  rw [List.append_assoc] at SB1 dk1
  have E1 : EnvRep (cEnv scope C env) (restr scope ρ) ⟨H.hs, X ++ ([s₂.heap.objs.size] ++ H.xs)⟩ h₄ := by
    have e0 := env_comp (C := C) (h := s₂.heap) (h' := h₄) (S.en.keeps (kp_get k2)) ok kp24 (by rw [hszp]; exact Nat.le_succ _) hns hcs
    have dk4 : DKeep H h₄ ⟨H.hs, X ++ ([s₂.heap.objs.size] ++ H.xs)⟩ h₄ → EnvRep (cEnv scope C env) (restr scope ρ) ⟨H.hs, X ++ ([s₂.heap.objs.size] ++ H.xs)⟩ h₄ := fun dk => e0.ext (fun _ _ e => e) dk
    refine env_comp (C := C) (h := s₂.heap) (h' := h₄) (H := ⟨H.hs, X ++ ([s₂.heap.objs.size] ++ H.xs)⟩) (S.en.ext (kp_get k2) ?_) ok kp24 (by rw [hszp]; exact Nat.le_succ _) hns hcs
    exact ⟨dk1.pre, dk1.new, fun b o _ _ e => kp_get k2 b o e⟩
  have hcenv : ({ scope := relabel scope env, locals := C, globals := env.globals, cells := cellsFrom (C + 1) scope.names (closOf env scope.names []), qual := env.qual, func := none, code := env.code, frame := env.frame, builtins := env.builtins } : Env) = cEnv scope C env := rfl
  have own : Own B (cEnv scope C env) xs := ⟨fun b hb => by
    have hge := wrt_comp f2 hxs hcs hb
    cases e : B.h₀.get? b with
    | none => rfl
    | some o => exact absurd (Nat.lt_of_lt_of_le (lt2 b o (kp_get k2 _ _ (S.base.keep b o e))).2 hge) (Nat.lt_irrefl _)⟩
  have hDw : ¬ wrt (cEnv scope C env) xs s₂.heap.objs.size := fun hb => by
    have hge := wrt_comp f2 hxs hcs hb
    rw [hszp] at hge
    exact Nat.not_succ_le_self _ hge
  have hst4 : St ⟨H.hs, X ++ ([s₂.heap.objs.size] ++ H.xs)⟩ 0 h₄ := by
    refine IT.frame _ _ _ _ _ hst ?_ fun b hb o e => kp24 b o e
    refine ⟨⟨[], by simp⟩, fun a ha hn => ?_, fun b o _ _ e => kp24 b o e⟩
    rcases ha with ha | ha
    · exact absurd (.inl ha) hn
    · rcases List.mem_append.mp ha with ha | ha
      · exact absurd (.inr (List.mem_append_left _ ha)) hn
      · rcases List.mem_append.mp ha with ha | ha
        · cases List.mem_singleton.mp ha
          cases e : s₂.heap.get? s₂.heap.objs.size with
          | none => rfl
          | some o => exact absurd (Heap.lt_size e) (Nat.lt_irrefl _)
        · exact absurd (.inr (List.mem_append_right _ ha)) hn
  have loop : ∀ s₄ : Shared, s₄ = { s₂ with heap := h₄ } → codeAny (model B.prog B.w) A (.compLoop (.ListComp elt [⟨target, iter, ifs, 0⟩] scope pos) 0 it (.ref s₂.heap.objs.size) (cEnv scope C env)) (RR (.ref s₂.heap.objs.size) C) s₄ := by
    rintro s₄ rfl
    refine comp_loop (H := ⟨H.hs, [s₂.heap.objs.size] ++ H.xs⟩) (ys₀ := []) (D := s₂.heap.objs.size) (ρ₀ := restr scope ρ) (cenv := cEnv scope C env) (xs := xs) hA rfl (p := iter.pos) (rest := do
        let mut ok := true
        for c in ifs do
          if ok then ok ← isTrue c (cEnv scope C env) (eval c (cEnv scope C env))
        if ok then
          (do let _ ← call (.builtin "list.append") [.ref s₂.heap.objs.size, ← eval elt (cEnv scope C env)])
        again (.compLoop (.ListComp elt [⟨target, iter, ifs, 0⟩] scope pos) 0 it (.ref s₂.heap.objs.size) (cEnv scope C env))) (fun Q E s h => ?_) IT hc htg outs hlen (fun i v out hv ho => ?_) own (List.mem_append_left _ (List.mem_singleton.mpr rfl)) hDw (fun hm => (dist _ (.inl hm)).1 rfl) (fun a ha hh => ?_) (fun b hb hw => ?_) (fun b hb => ?_) ⟨SB1.base, SB1.sto, E1⟩ ⟨#[], 0, hDacc, .nil⟩ hst4 (by simpa using hsz) (fun h' tk S' acc' kp' => ?_)
    · show wpAny _ A ((compTurn (.ListComp elt [⟨target, iter, ifs, 0⟩] scope pos) 0 it (.ref s₂.heap.objs.size) (cEnv scope C env)).onRaise (fun x => do noteFrame x (cEnv scope C env); theTreesLotGoes x)) _ _ _
      rw [compTurn_list]
      exact h
    · obtain ⟨ρ', p, w, h1, h2, h3, h4, h5⟩ := hturn i v out hv ho C
      exact ⟨ρ', h1, h4 ▸ rb_emit h2 h3 h5⟩
    · have d := dist a (.inr ha)
      have n := hnew a (.inr ha)
      rcases hh with hh | hh
      · obtain ⟨o, ho, _⟩ := S.sto.live a (.inl hh); rw [n] at ho; cases ho
      · rcases List.mem_append.mp hh with hh | hh
        · exact d.1 (List.mem_singleton.mp hh)
        · obtain ⟨o, ho, _⟩ := S.sto.live a (.inr hh); rw [n] at ho; cases ho
    · exact absurd (Nat.lt_of_lt_of_le (dist b (.inl hb)).2 (wrt_comp f2 hxs hcs hw)) (Nat.lt_irrefl _)
    · cases e : B.h₀.get? b with
      | none => rfl
      | some o => have := S.base.keep b o e; rw [hnew b (.inl (IT.sub b hb))] at this; cases this
    · obtain ⟨m, hm, _⟩ := S'.en.loc
      obtain ⟨h2', tk2, e2, _⟩ := id k2
      subst e2
      refine hRR _ C h' tk m (none2 _ (Nat.le_refl _)) (none2 _ (by rw [hszp]; exact Nat.le_succ _)) (by rw [hszp]; exact Nat.ne_of_lt (Nat.lt_succ_self _)) hm (by simpa using acc') fun b o e => ?_
      have e4 := kp04 b o e
      have l2 := lt2 b o (kp_get k2 _ _ e)
      refine kp' b o l2.1 (fun hw => ?_) (fun hw => ?_) e4
      · rw [hnew b (.inl (IT.sub b hw))] at e; cases e
      · exact absurd (Nat.lt_of_lt_of_le l2.2 (wrt_comp f2 hxs hcs hw)) (Nat.lt_irrefl _)
  show codeAny (model B.prog B.w) A (.compStart (.ListComp elt [⟨target, iter, ifs, 0⟩] scope pos) 0 it (.ref s₂.heap.objs.size) (cEnv scope C env)) _ _
  refine codeAny_compStart_list (loop _ rfl) (IT.self A hA _ _ ⟨H.hs, X ++ ([s₂.heap.objs.size] ++ H.xs)⟩ 0 _ hst4 (loop _ rfl))

theorem hnames_of {scope : Scope} (f2 : (scope.names.map (·.1)).Nodup) : ∀ x ∈ scope.names, x.2 = .local → scope.names.lookup x.1 = some .local := fun x hx hk => by
  obtain ⟨y, k⟩ := x
  have : k = .local := hk
  subst this
  exact lookup_of_mem f2 hx

theorem hclos_of {scope : Scope} {H : Hd} {h : Heap} (e : EnvRep env ρ H h) (ok : okScope env scope = true) : closureFor scope env = pure (closOf env scope.names []) :=
  closureFor_eq fun x hx hk => by
    obtain ⟨y, k⟩ := x
    have : k = .free := hk
    subst this
    exact e.has y ((okScope_facts ok).2.2 y hx)

theorem accAt_end {H : Hd} {s : Shared} {st : Store} {D C : Addr} {h' h'' : Heap} {m : Str → Option Value} {out : List V} (S : SimH H st s.heap) (hD : s.heap.get? D = none) (hDC : D ≠ C) (hn : h'.Ns C m) (acc : AccAt D out ⟨H.hs, [D] ++ H.xs⟩ h') (hs : Heap.SameBut C h' h'') :
    AccAt D out ⟨H.hs, [D] ++ H.xs⟩ h'' ∧ ¬ H.has D := by
  obtain ⟨vs, q, ho, hr⟩ := acc
  refine ⟨⟨vs, q, hs.extBut _ _ hDC ho, hr.ext ⟨⟨[], by simp⟩, fun _ h1 h2 => absurd h1 h2, fun b o _ hq e => hs.extBut b o (fun e' => ?_) e⟩⟩, fun hh => ?_⟩
  · subst e'
    obtain ⟨o', es, ep, ho', hd, _⟩ := hn
    rw [e] at ho'; cases ho'
    obtain ⟨_, _, hq⟩ := hq
    rw [hd] at hq; cases hq
  · obtain ⟨o, ho, _⟩ := S.live D hh
    rw [hD] at ho; cases ho

/-- a list comprehension with one clause -/
theorem pe_comp0 {elt target iter : Expr} {ifs : List Expr} {scope : Scope} {pos : Pos} {vs : List V} {Cond : Store → Prop} {Tg : Expr → Prop} {pl : Bool} {xs : List Str} (hiter : PI B n env ρ st iter vs Cond Tg pl) (htg : Tg target) (ok : okScope env scope = true) (hxs : ∀ x ∈ xs, scope.names.lookup x = some .local ∨ scope.names.lookup x = some .cell)
    (outs : List (List V)) (hlen : outs.length = vs.length)
    (hturn : ∀ (i : Nat) v out, vs[i]? = some v → outs[i]? = some out → ∀ C, ∃ ρ' p w, PA B n (cEnv scope C env) st target v xs (restr scope ρ) ρ' ∧ PTs B n (cEnv scope C env) ρ' st ifs p ∧ (p = true → PE B n (cEnv scope C env) ρ' st elt w) ∧ out = (if p then [w] else []) ∧ ∀ y u, restr scope ρ y = some u → ρ' y = some u)
    (hsz : (outs.flatten).length ≤ sizeLine) (hs : ∀ x, foldedSetIterable iter env x = pure x := by intro _; rfl) :
    PE B n env ρ st (.ListComp elt [⟨target, iter, ifs, 0⟩] scope pos) (.lst outs.flatten) := fun A hA E s H S => by
  obtain ⟨f1, f2, f3⟩ := okScope_facts ok
  rw [eval_ListComp]
  refine wpAny_comprehension_free (use := none) rfl hs (hclos_of S.en ok) f1 (hnames_of f2) (comp_block1 (RR := fun acc C => compPost (model B.prog B.w) A E none _ acc C) hA S hiter htg ok hxs outs hlen hturn hsz ?_)
  intro D C h' tk m hD hC hDC hn acc kp
  refine ⟨m, hn, fun h'' hs'' => ?_⟩
  obtain ⟨⟨vs', q, ho, hr⟩, hDH⟩ := accAt_end S.sto hD hDC hn acc hs''
  exact ⟨⟨h'', tk, rfl, fun b o e => hs''.extBut b o (fun e' => by subst e'; rw [hC] at e; cases e) (kp b o e)⟩, .lst hDH ho hr.dropX⟩

theorem pts_nil : PTs B n env ρ st [] true := fun A _ E s H _ => wpAny_tests_nil ⟨rfl, kp_refl _⟩
theorem pts_one {c : Expr} {b : Bool} (h : PT B n env ρ st c b) : PTs B n env ρ st [c] b := fun A hA E s H S => wpAny_tests_one (h A hA E s H S)

theorem flatten_if {α : Type} (p : α → Bool) (f : α → V) : ∀ as : List α, (as.map fun a => if p a then [f a] else []).flatten = (as.filter p).map f
  | [] => rfl
  | a :: as => by
    rw [List.map_cons, List.flatten_cons, flatten_if p f as]
    cases h : p a <;> simp [h]

/-- a comprehension over things of a type, with a test -/
theorem pe_compIf {α : Type} {elt target iter : Expr} {ifs : List Expr} {scope : Scope} {pos : Pos} {Cond : Store → Prop} {Tg : Expr → Prop} {pl : Bool} (xs : List Str) (as : List α) (c : α → V) (ρ' : α → Str → Option V) (p : α → Bool) (f : α → V) {vs : List V} (hiter : PI B n env ρ st iter vs Cond Tg pl) (hvs : vs = as.map c) (htg : Tg target) (ok : okScope env scope = true)
    (hxs : ∀ x ∈ xs, scope.names.lookup x = some .local ∨ scope.names.lookup x = some .cell)
    (hpa : ∀ a ∈ as, ∀ C, PA B n (cEnv scope C env) st target (c a) xs (restr scope ρ) (ρ' a)) (hw : ∀ a ∈ as, ∀ y u, restr scope ρ y = some u → ρ' a y = some u)
    (hp : ∀ a ∈ as, ∀ C, PTs B n (cEnv scope C env) (ρ' a) st ifs (p a)) (hf : ∀ a ∈ as, p a = true → ∀ C, PE B n (cEnv scope C env) (ρ' a) st elt (f a))
    (hsz : as.length ≤ sizeLine) (hs : ∀ x, foldedSetIterable iter env x = pure x := by intro _; rfl) :
    PE B n env ρ st (.ListComp elt [⟨target, iter, ifs, 0⟩] scope pos) (.lst ((as.filter p).map f)) := by
  subst hvs
  rw [← flatten_if]
  refine pe_comp0 hiter htg ok hxs _ (by simp) (fun i v out hv ho C => ?_) ?_ hs
  · rw [List.getElem?_map] at hv ho
    cases ha : as[i]? with
    | none => rw [ha] at hv; cases hv
    | some a =>
      rw [ha] at hv ho
      cases hv; cases ho
      have hm := List.mem_of_getElem? ha
      exact ⟨ρ' a, p a, f a, hpa a hm C, hp a hm C, fun h => hf a hm h C, rfl, hw a hm⟩
  · rw [flatten_if, List.length_map]; exact Nat.le_trans (List.length_filter_le _ _) hsz

theorem upd_weak {scope : Scope} {x : Str} {v : V} (hx : scope.names.lookup x = some .local ∨ scope.names.lookup x = some .cell) {ρ' : Str → Option V} (h : ∀ y u, restr scope ρ y = some u → ρ' y = some u) : ∀ y u, restr scope ρ y = some u → upd ρ' x v y = some u := fun y u hy => by
  unfold upd
  by_cases e : y = x
  · subst e
    unfold restr at hy
    rcases hx with hx | hx <;> simp [hx] at hy
  · rw [if_neg e]; exact h y u hy

theorem kind_comp {scope : Scope} {x : Str} {C : Addr} (hx : scope.names.lookup x = some .local ∨ scope.names.lookup x = some .cell) : (cEnv scope C env).kindOf x = some .local ∨ (cEnv scope C env).kindOf x = some .cell := by
  rcases hx with h | h
  · exact .inl (relabel_own h (by simp))
  · exact .inr (relabel_own h (by simp))

/-- one name as the target -/
theorem pe_compName {α : Type} {elt iter : Expr} {x : Str} {px : Pos} {ifs : List Expr} {scope : Scope} {pos : Pos} {Cond : Store → Prop} {Tg : Expr → Prop} {pl : Bool} (as : List α) (c : α → V) (p : α → Bool) (f : α → V) {vs : List V} (hiter : PI B n env ρ st iter vs Cond Tg pl) (hvs : vs = as.map c) (htg : Tg (.Name x px)) (ok : okScope env scope = true)
    (hx : scope.names.lookup x = some .local ∨ scope.names.lookup x = some .cell)
    (hp : ∀ a ∈ as, ∀ C, PTs B n (cEnv scope C env) (upd (restr scope ρ) x (c a)) st ifs (p a)) (hf : ∀ a ∈ as, p a = true → ∀ C, PE B n (cEnv scope C env) (upd (restr scope ρ) x (c a)) st elt (f a))
    (hsz : as.length ≤ sizeLine) (hs : ∀ x, foldedSetIterable iter env x = pure x := by intro _; rfl) :
    PE B n env ρ st (.ListComp elt [⟨.Name x px, iter, ifs, 0⟩] scope pos) (.lst ((as.filter p).map f)) :=
  pe_compIf [x] as c (fun a => upd (restr scope ρ) x (c a)) p f hiter hvs htg ok (fun y hy => by cases List.mem_singleton.mp hy; exact hx) (fun a _ C => pa_name (List.mem_singleton.mpr rfl) (kind_comp hx)) (fun a _ => upd_weak hx fun _ _ h => h) hp hf hsz hs
/-- two names as the target -/
theorem pe_compTwo {α : Type} {elt iter : Expr} {x y : Str} {px py pt : Pos} {kt : Nat} {ifs : List Expr} {scope : Scope} {pos : Pos} {Cond : Store → Prop} {Tg : Expr → Prop} {pl : Bool} (as : List α) (c d : α → V) (p : α → Bool) (f : α → V) {vs : List V} (hiter : PI B n env ρ st iter vs Cond Tg pl) (hvs : vs = as.map fun a => V.tup [c a, d a]) (htg : Tg (.Tuple [.Name x px, .Name y py] kt pt)) (ok : okScope env scope = true)
    (hx : scope.names.lookup x = some .local ∨ scope.names.lookup x = some .cell) (hy : scope.names.lookup y = some .local ∨ scope.names.lookup y = some .cell)
    (hp : ∀ a ∈ as, ∀ C, PTs B n (cEnv scope C env) (upd (upd (restr scope ρ) x (c a)) y (d a)) st ifs (p a)) (hf : ∀ a ∈ as, p a = true → ∀ C, PE B n (cEnv scope C env) (upd (upd (restr scope ρ) x (c a)) y (d a)) st elt (f a))
    (hsz : as.length ≤ sizeLine) (hs : ∀ x, foldedSetIterable iter env x = pure x := by intro _; rfl) :
    PE B n env ρ st (.ListComp elt [⟨.Tuple [.Name x px, .Name y py] kt pt, iter, ifs, 0⟩] scope pos) (.lst ((as.filter p).map f)) :=
  pe_compIf [x, y] as _ (fun a => upd (upd (restr scope ρ) x (c a)) y (d a)) p f hiter hvs htg ok (fun z hz => by simp at hz; rcases hz with rfl | rfl <;> assumption)
    (fun a _ C => pa_tuple (pas_cons (pa_name (by simp) (kind_comp hx)) (pas_cons (pa_name (by simp) (kind_comp hy)) pas_nil))) (fun a _ => upd_weak hy (upd_weak hx fun _ _ h => h)) hp hf hsz hs
end
end Mine

-- part Fw11
namespace Mine

/-- a call's or an expression's change: the handles from m on may be written -/
structure CS (m : Nat) (H : Hd) (h : Heap) (H' : Hd) (h' : Heap) : Prop where
  pre : ∃ N, H'.hs = H.hs ++ N
  xs : H'.xs = H.xs
  new : ∀ a, H'.has a → ¬ H.has a → h.get? a = none
  keep : ∀ b o, (∀ k, m ≤ k → H.hs[k]? ≠ some b) → h.get? b = some o → h'.get? b = some o

def own (env : Env) : List Addr := env.locals :: env.cells.map (·.2)

/-- a statement's change -/
structure ES (env : Env) (m : Nat) (H : Hd) (h : Heap) (H' : Hd) (h' : Heap) : Prop where
  pre : ∃ N, H'.hs = H.hs ++ N
  xs : H'.xs = H.xs
  new : ∀ a, H'.has a → ¬ H.has a → h.get? a = none
  keep : ∀ b o, b ∉ own env → (∀ k, m ≤ k → H.hs[k]? ≠ some b) → h.get? b = some o → h'.get? b = some o

theorem CS.refl (m : Nat) (H : Hd) (h : Heap) : CS m H h H h := ⟨⟨[], by simp⟩, rfl, fun _ a b => absurd a b, fun _ _ _ e => e⟩
theorem CS.of_keeps {m : Nat} {H : Hd} {h h' : Heap} (kp : ∀ b o, h.get? b = some o → h'.get? b = some o) : CS m H h H h' := ⟨⟨[], by simp⟩, rfl, fun _ a b => absurd a b, fun b o _ e => kp b o e⟩
theorem CS.es {env : Env} {m : Nat} {H H' : Hd} {h h' : Heap} (x : CS m H h H' h') : ES env m H h H' h' := ⟨x.pre, x.xs, x.new, fun b o _ hm e => x.keep b o hm e⟩
theorem CS.dk {m : Nat} {H H' : Hd} {h h' : Heap} (x : CS m H h H' h') : DKeep H h H' h' := ⟨x.pre, x.new, fun b o hb _ e => x.keep b o (fun k _ hk => hb (.inl (List.mem_of_getElem? hk))) e⟩

theorem later {m : Nat} {H H' : Hd} {h h' : Heap} {st' : Store} (pre : ∃ N, H'.hs = H.hs ++ N) (xs : H'.xs = H.xs) (new : ∀ a, H'.has a → ¬ H.has a → h.get? a = none) (S : SimH H' st' h') {b : Addr} {o : Obj} (hm : ∀ k, m ≤ k → H.hs[k]? ≠ some b) (e : h.get? b = some o) : ∀ k, m ≤ k → H'.hs[k]? ≠ some b := fun k hk he => by
  obtain ⟨N, hN⟩ := pre
  by_cases hlt : k < H.hs.length
  · rw [hN, List.getElem?_append_left hlt] at he; exact hm k hk he
  · have hb' : b ∉ H.hs := fun hb => by
      obtain ⟨j, hj⟩ := List.getElem?_of_mem hb
      have hjl := (List.getElem?_eq_some_iff.mp hj).1
      have hj' : H'.hs[j]? = some b := by rw [hN, List.getElem?_append_left hjl]; exact hj
      have hkl := (List.getElem?_eq_some_iff.mp he).1
      have := (List.getElem?_inj hkl S.nd).mp (he.trans hj'.symm)
      omega
    have hx : b ∉ H.xs := fun hx => S.dj b (xs ▸ hx) (List.mem_of_getElem? he)
    have := new b (.inl (List.mem_of_getElem? he)) (fun hh => hh.elim hb' hx)
    rw [e] at this; cases this

theorem CS.trans {m : Nat} {H H' H'' : Hd} {h h' h'' : Heap} {st' : Store} (x : CS m H h H' h') (y : CS m H' h' H'' h'') (S : SimH H' st' h') : CS m H h H'' h'' := by
  refine ⟨?_, y.xs.trans x.xs, fun a ha hn => ?_, fun b o hm e => y.keep b o (later x.pre x.xs x.new S hm e) (x.keep b o hm e)⟩
  · obtain ⟨N, e⟩ := x.pre
    obtain ⟨N', e'⟩ := y.pre
    exact ⟨N ++ N', by rw [e', e, List.append_assoc]⟩
  · by_cases h1 : H'.has a
    · exact x.new a h1 hn
    · have q := y.new a ha h1
      cases e : h.get? a with
      | none => rfl
      | some o =>
        have := x.keep a o (fun k _ hk => hn (.inl (List.mem_of_getElem? hk))) e
        rw [q] at this; cases this

theorem ES.trans {env : Env} {m : Nat} {H H' H'' : Hd} {h h' h'' : Heap} {st' : Store} (x : ES env m H h H' h') (y : ES env m H' h' H'' h'') (S : SimH H' st' h') (lv : ∀ a ∈ own env, ∃ o, h'.get? a = some o) : ES env m H h H'' h'' := by
  refine ⟨?_, y.xs.trans x.xs, fun a ha hn => ?_, fun b o hb hm e => y.keep b o hb (later x.pre x.xs x.new S hm e) (x.keep b o hb hm e)⟩
  · obtain ⟨N, e⟩ := x.pre
    obtain ⟨N', e'⟩ := y.pre
    exact ⟨N ++ N', by rw [e', e, List.append_assoc]⟩
  · by_cases h1 : H'.has a
    · exact x.new a h1 hn
    · have q := y.new a ha h1
      by_cases ho : a ∈ own env
      · obtain ⟨o, e⟩ := lv a ho
        rw [q] at e; cases e
      · cases e : h.get? a with
        | none => rfl
        | some o =>
          have := x.keep a o ho (fun k _ hk => hn (.inl (List.mem_of_getElem? hk))) e
          rw [q] at this; cases this

theorem EnvRep.live {env : Env} {ρ : Str → Option V} {H : Hd} {h : Heap} (x : EnvRep env ρ H h) : ∀ a ∈ own env, ∃ o, h.get? a = some o := fun a ha => by
  rcases List.mem_cons.mp ha with rfl | ha
  · obtain ⟨m, ⟨o, _, _, ho, _⟩, _⟩ := x.loc; exact ⟨o, ho⟩
  · obtain ⟨p, hp, rfl⟩ := List.mem_map.mp ha
    obtain ⟨v, o, ho, _⟩ := x.cells p.1 p.2 hp
    exact ⟨o, ho⟩
theorem EnvRep.ownNotSeq {env : Env} {ρ : Str → Option V} {H : Hd} {h : Heap} (x : EnvRep env ρ H h) {b : Addr} (hb : b ∈ own env) {o : Obj} (ho : h.get? b = some o) : ¬ IsSeq o := by
  rintro ⟨vs, n, hd⟩
  rcases List.mem_cons.mp hb with rfl | hb
  · obtain ⟨m, ⟨o', es, ep, ho', hd', _⟩, _⟩ := x.loc
    rw [ho] at ho'; cases ho'; rw [hd] at hd'; cases hd'
  · obtain ⟨p, hp, rfl⟩ := List.mem_map.mp hb
    obtain ⟨v, o', ho', hd'⟩ := x.cells p.1 p.2 hp
    rw [ho] at ho'; cases ho'; rw [hd] at hd'; cases hd'
theorem ES.dk {env : Env} {ρ : Str → Option V} {m : Nat} {H H' : Hd} {h h' : Heap} (x : ES env m H h H' h') (e : EnvRep env ρ H h) : DKeep H h H' h' :=
  ⟨x.pre, x.new, fun b o hb hq e' => x.keep b o (fun ho => e.ownNotSeq ho e' hq) (fun k _ hk => hb (.inl (List.mem_of_getElem? hk))) e'⟩

theorem wrt_own {env : Env} {xs : List Str} {b : Addr} (h : wrt env xs b) : b ∈ own env := by
  rcases h with rfl | ⟨x, _, _, hc⟩
  · exact List.mem_cons_self
  · exact List.mem_cons_of_mem _ (List.mem_map.mpr ⟨_, mem_of_lookup hc, rfl⟩)

/-- the frame's objects are new upon the base -/
def OwnF (B : Bs) (env : Env) : Prop := ∀ b ∈ own env, B.h₀.get? b = none
theorem OwnF.own {B : Bs} {env : Env} (h : OwnF B env) (xs : List Str) : Own B env xs := ⟨fun b hb => h b (wrt_own hb)⟩

inductive Fl where
  | next | brk | cont
  | ret (v : V)
inductive FlRep (H : Hd) (h : Heap) : Flow → Fl → Prop
  | next : FlRep H h .next .next
  | brk : FlRep H h .brk .brk
  | cont : FlRep H h .cont .cont
  | ret {x v} : Rep H h x v → FlRep H h (.ret x) (.ret v)

abbrev Nm := Str → Option V

/-- an expression that may make or change mutable lists -/
def PM (B : Bs) (n : Nat) (env : Env) (m : Nat) (ρ : Nm) (st : Store) (e : Expr) (Ψ : V → Store → Prop) : Prop :=
  ∀ A, Rm n A → ∀ E s H, Sim B env ρ st H s.heap →
    wpAny (model B.prog B.w) A (eval e env) (fun x s' => ∃ v st' H' h' tk, s' = { s with heap := h', toks := tk } ∧ Ψ v st' ∧ Sim B env ρ st' H' h' ∧ CS m H s.heap H' h' ∧ Rep H' h' x v) E s

/-- a statement -/
def EX1 (B : Bs) (n : Nat) (env : Env) (m : Nat) (ρ : Nm) (st : Store) (c : Stmt) (Φ : Fl → Nm → Store → Prop) : Prop :=
  ∀ A, Rm n A → OwnF B env → ∀ E s H, Sim B env ρ st H s.heap →
    wpAny (model B.prog B.w) A (exec c env) (fun f s' => ∃ fl ρ' st' H' h' tk, s' = { s with heap := h', toks := tk } ∧ Φ fl ρ' st' ∧ FlRep H' h' f fl ∧ Sim B env ρ' st' H' h' ∧ ES env m H s.heap H' h') E s
/-- statements -/
def EX (B : Bs) (n : Nat) (env : Env) (m : Nat) (ρ : Nm) (st : Store) (cs : List Stmt) (Φ : Fl → Nm → Store → Prop) : Prop :=
  ∀ A, Rm n A → OwnF B env → ∀ E s H, Sim B env ρ st H s.heap →
    wpAny (model B.prog B.w) A (execs cs env) (fun f s' => ∃ fl ρ' st' H' h' tk, s' = { s with heap := h', toks := tk } ∧ Φ fl ρ' st' ∧ FlRep H' h' f fl ∧ Sim B env ρ' st' H' h' ∧ ES env m H s.heap H' h') E s

section
variable {B : Bs} {n : Nat} {env : Env} {m : Nat} {ρ : Nm} {st : Store} {Φ : Fl → Nm → Store → Prop}

theorem ES.refl (env : Env) (m : Nat) (H : Hd) (h : Heap) : ES env m H h H h := (CS.refl m H h).es

theorem PE.pm {e : Expr} {v : V} {Ψ : V → Store → Prop} (h : PE B n env ρ st e v) (hp : Ψ v st) : PM B n env m ρ st e Ψ := fun A hA E s H S => by
  refine wpAny_mono (h A hA E s H S) (fun x s₁ ⟨k, r⟩ => ?_) fun _ _ e => e
  have S₁ := S.keeps (kp_get k)
  obtain ⟨h', tk, rfl, kp⟩ := k
  exact ⟨v, st, H, h', tk, rfl, hp, S₁, .of_keeps kp, r⟩

theorem ex_nil (h : Φ .next ρ st) : EX B n env m ρ st [] Φ := fun A hA O E s H S => wpAny_execs_nil ⟨.next, ρ, st, H, s.heap, s.toks, rfl, h, .next, S, .refl ..⟩

/-- what follows a statement -/
def Then (B : Bs) (n : Nat) (env : Env) (m : Nat) (rest : List Stmt) (Φ : Fl → Nm → Store → Prop) : Fl → Nm → Store → Prop
  | .next, ρ, st => EX B n env m ρ st rest Φ
  | f, ρ, st => Φ f ρ st

theorem ex_cons {c : Stmt} {rest : List Stmt} (h : EX1 B n env m ρ st c (Then B n env m rest Φ)) : EX B n env m ρ st (c :: rest) Φ := fun A hA O E s H S => by
  refine wpAny_execs_cons (wpAny_mono (h A hA O E s H S) (fun f s₁ q => ?_) fun _ _ e => e)
  obtain ⟨fl, ρ', st', H', h', tk, rfl, hp, hf, S', es⟩ := q
  cases hf with
  | next =>
    refine wpAny_mono (hp A hA O E _ H' S') (fun f s₂ q => ?_) fun _ _ e => e
    obtain ⟨fl, ρ'', st'', H'', h'', tk', rfl, hp', hf', S'', es'⟩ := q
    exact ⟨fl, ρ'', st'', H'', h'', tk', rfl, hp', hf', S'', es.trans es' S'.sto S'.en.live⟩
  | brk => exact ⟨_, ρ', st', H', h', tk, rfl, hp, .brk, S', es⟩
  | cont => exact ⟨_, ρ', st', H', h', tk, rfl, hp, .cont, S', es⟩
  | ret r => exact ⟨_, ρ', st', H', h', tk, rfl, hp, .ret r, S', es⟩

theorem EX.mono {cs : List Stmt} {Φ' : Fl → Nm → Store → Prop} (h : EX B n env m ρ st cs Φ) (hp : ∀ f ρ st, Φ f ρ st → Φ' f ρ st) : EX B n env m ρ st cs Φ' := fun A hA O E s H S =>
  wpAny_mono (h A hA O E s H S) (fun f s₁ ⟨fl, ρ', st', H', h', tk, e, hq, r⟩ => ⟨fl, ρ', st', H', h', tk, e, hp _ _ _ hq, r⟩) fun _ _ e => e

theorem x_pass {pos : Pos} (h : Φ .next ρ st) : EX1 B n env m ρ st (.Pass pos) Φ := fun A hA O E s H S =>
  wpAny_bind (wpAny_standAt (wpAny_pure ⟨.next, ρ, st, H, s.heap, s.toks, rfl, h, .next, S, .refl ..⟩))
theorem x_continue {pos : Pos} (h : Φ .cont ρ st) : EX1 B n env m ρ st (.Continue pos) Φ := fun A hA O E s H S =>
  wpAny_bind (wpAny_standAt (wpAny_pure ⟨.cont, ρ, st, H, s.heap, s.toks, rfl, h, .cont, S, .refl ..⟩))
theorem x_break {pos : Pos} (h : Φ .brk ρ st) : EX1 B n env m ρ st (.Break pos) Φ := fun A hA O E s H S =>
  wpAny_bind (wpAny_standAt (wpAny_pure ⟨.brk, ρ, st, H, s.heap, s.toks, rfl, h, .brk, S, .refl ..⟩))
theorem x_return {e : Expr} {pos : Pos} (h : PM B n env m ρ st e (fun v st' => Φ (.ret v) ρ st')) : EX1 B n env m ρ st (.Return (some e) pos) Φ := fun A hA O E s H S => by
  refine wpAny_Return_some (wpAny_mono (h A hA E s H S) (fun x s₁ q => ?_) fun _ _ e => e)
  obtain ⟨v, st', H', h', tk, rfl, hp, S', cs, r⟩ := q
  exact ⟨.ret v, ρ, st', H', h', tk, rfl, hp, .ret r, S', cs.es⟩
theorem x_return0 {pos : Pos} (h : Φ (.ret .none) ρ st) : EX1 B n env m ρ st (.Return none pos) Φ := fun A hA O E s H S =>
  wpAny_Return_none ⟨.ret .none, ρ, st, H, s.heap, s.toks, rfl, h, .ret .none, S, .refl ..⟩

theorem x_if {t : Expr} {b o : List Stmt} {pos : Pos} {c : Bool} (h1 : PT B n env ρ st t c) (h2 : c = true → EX B n env m ρ st b Φ) (h3 : c = false → EX B n env m ρ st o Φ) : EX1 B n env m ρ st (.If t b o pos) Φ := fun A hA O E s H S => by
  refine wpAny_If (wpAny_mono (h1 A hA E s H S) (fun x s₁ ⟨e1, k1⟩ => ?_) fun _ _ e => e)
  subst e1
  have S₁ := S.keeps (kp_get k1)
  obtain ⟨h', tk, rfl, kp⟩ := k1
  have fin : ∀ cs, EX B n env m ρ st cs Φ → wpAny (model B.prog B.w) A (execs cs env) (fun f s' => ∃ fl ρ' st' H' h' tk, s' = { s with heap := h', toks := tk } ∧ Φ fl ρ' st' ∧ FlRep H' h' f fl ∧ Sim B env ρ' st' H' h' ∧ ES env m H s.heap H' h') E { s with heap := h', toks := tk } := fun cs hx =>
    wpAny_mono (hx A hA O E _ H S₁) (fun f s₂ q => by
      obtain ⟨fl, ρ'', st'', H'', h'', tk', rfl, hp', hf', S'', es'⟩ := q
      exact ⟨fl, ρ'', st'', H'', h'', tk', rfl, hp', hf', S'', (CS.of_keeps kp).es.trans es' S₁.sto S₁.en.live⟩) fun _ _ e => e
  cases x with
  | true => exact fin b (h2 rfl)
  | false => exact fin o (h3 rfl)

/-- a store of a name -/
theorem es_wrt {H : Hd} {h h' : Heap} {xs : List Str} (kp : ∀ b o, ¬ wrt env xs b → h.get? b = some o → h'.get? b = some o) : ES env m H h H h' :=
  ⟨⟨[], by simp⟩, rfl, fun _ a b => absurd a b, fun b o hb _ e => kp b o (fun hw => hb (wrt_own hw)) e⟩

theorem x_assign {x : Str} {px pos : Pos} {e : Expr} (h : PM B n env m ρ st e (fun v st' => Φ .next (upd ρ x v) st')) (hk : env.kindOf x = some .local ∨ env.kindOf x = some .cell) (hs : swapsWith e (some (.Name x px)) pos.line env = pure false := by rfl) :
    EX1 B n env m ρ st (.Assign [.Name x px] e pos) Φ := fun A hA O E s H S => by
  refine wpAny_Assign_Name (wpAny_mono (h A hA E s H S) (fun y s₁ q => ?_) fun _ _ e => e) hs
  obtain ⟨v, st', H', h', tk, rfl, hp, S', cs, r⟩ := q
  exact st_name (xs := [x]) S' (O.own _) (by simp) hk r fun h'' tk' S'' kp => ⟨.next, _, st', H', h'', tk', rfl, hp, .next, S'', cs.es.trans (es_wrt kp) S'.sto S'.en.live⟩

/-- targets that are no plain name, and the value's own store -/
theorem x_assignT {t : Expr} {pos : Pos} {e : Expr} {xs : List Str} (h : PM B n env m ρ st e (fun v st' => ∃ ρ', PA B n env st' t v xs ρ ρ' ∧ Φ .next ρ' st'))
    (he : (assignEach [t] env).map (·.2) = [assign t env] := by rfl) (hs : swapsWithSole [t] e pos.line env = pure false := by rfl) (hw : swappedStores [t] e env = pure none := by rfl) : EX1 B n env m ρ st (.Assign [t] e pos) Φ := fun A hA O E s H S => by
  refine wpAny_Assign_stores (wpAny_mono (h A hA E s H S) (fun y s₁ q => ?_) fun _ _ e => e) hs hw
  obtain ⟨v, st', H', h', tk, rfl, ⟨ρ', pa, hp⟩, S', cs, r⟩ := q
  rw [he]
  show wpAny _ A (assign t env y) _ _ _
  refine wpAny_mono (pa A hA (O.own _) E _ H' y S' r) (fun _ s₂ q => ?_) fun _ _ e => e
  obtain ⟨h'', tk', rfl, S'', kp⟩ := q
  exact ⟨.next, _, st', H', h'', tk', rfl, hp, .next, S'', cs.es.trans (es_wrt kp) S'.sto S'.en.live⟩

/-- a while by an invariant and a measure -/
theorem x_while {t : Expr} {body : List Stmt} {pos : Pos} (I : Nm → Store → Prop) (μ : Nm → Store → Nat) (h0 : I ρ st)
    (turn : ∀ ρ st, I ρ st → ∃ c, PT B n env ρ st t c ∧ (c = true → EX B n env m ρ st body (fun f ρ' st' => match f with | .next | .cont => I ρ' st' ∧ μ ρ' st' < μ ρ st | .brk => Φ .next ρ' st' | .ret v => Φ (.ret v) ρ' st')) ∧ (c = false → Φ .next ρ st)) :
    EX1 B n env m ρ st (.While t body [] pos) Φ := fun A hA O E s H S => by
  refine wpAny_While (codeAny_whileLoop (fun k s' => ∃ ρ' st' H' h' tk, s' = { s with heap := h', toks := tk } ∧ I ρ' st' ∧ k = μ ρ' st' ∧ Sim B env ρ' st' H' h' ∧ ES env m H s.heap H' h') ?_ (μ ρ st) ⟨ρ, st, H, s.heap, s.toks, rfl, h0, rfl, S, .refl ..⟩)
  rintro k s' ⟨ρ', st', H', h', tk, rfl, hI, rfl, S', es⟩
  obtain ⟨c, h1, h2, h3⟩ := turn ρ' st' hI
  refine wpAny_mono (h1 A hA _ _ H' S') (fun b s₁ ⟨e1, k1⟩ => ?_) fun _ _ e => e
  subst e1
  have S₁ := S'.keeps (kp_get k1)
  obtain ⟨h₁, tk₁, rfl, kp⟩ := k1
  have es₁ := es.trans ((CS.of_keeps kp).es) S'.sto S'.en.live
  cases b with
  | false => exact wpAny_execs_nil ⟨.next, ρ', st', H', h₁, tk₁, rfl, h3 rfl, .next, S₁, es₁⟩
  | true =>
    refine wpAny_mono (h2 rfl A hA O _ _ H' S₁) (fun f s₂ q => ?_) fun _ _ e => e
    obtain ⟨fl, ρ'', st'', H'', h'', tk', rfl, hp', hf', S'', es'⟩ := q
    have es₂ := es₁.trans es' S₁.sto S₁.en.live
    cases hf' with
    | next => exact ⟨_, hp'.2, ρ'', st'', H'', h'', tk', rfl, hp'.1, rfl, S'', es₂⟩
    | cont => exact ⟨_, hp'.2, ρ'', st'', H'', h'', tk', rfl, hp'.1, rfl, S'', es₂⟩
    | brk => exact ⟨.next, ρ'', st'', H'', h'', tk', rfl, hp', .next, S'', es₂⟩
    | ret r => exact ⟨_, ρ'', st'', H'', h'', tk', rfl, hp', .ret r, S'', es₂⟩
end
end Mine

-- part Fw12
namespace Mine

theorem codeAny_forT {prog : Program} {w : World} {A : Around} {s : Shared} {R : Result → Shared → Prop} {target : Expr} {it : Value} {body orelse : List Stmt} {env : Env} (I : Nat → Shared → Prop)
    (turn : ∀ n s, I n s → wpAny (model prog w) A (pyNext it) (fun r s₁ => match r with
      | none => wpAny (model prog w) A (execs orelse env) (fun f s₃ => R (.ok f) s₃) (notedBy (model prog w) A env fun e s' => R (.error e) s') s₁
      | some v => wpAny (model prog w) A (letOwnedTupleGo target it v) (fun _ s₁ => wpAny (model prog w) A (assign target env v) (fun _ s₂ => wpAny (model prog w) A (execs body env) (fun f s₃ => match f with
          | .next | .cont => ∃ m, m < n ∧ I m s₃
          | .brk => R (.ok .next) s₃
          | .ret v => R (.ok (.ret v)) s₃) (notedBy (model prog w) A env fun e s' => R (.error e) s') s₂) (notedBy (model prog w) A env fun e s' => R (.error e) s') s₁) (notedBy (model prog w) A env fun e s' => R (.error e) s') s₁) (notedBy (model prog w) A env fun e s' => R (.error e) s') s)
    (n : Nat) (h : I n s) : codeAny (model prog w) A (.forLoop target it body orelse env) R s := by
  refine codeAny_loop' rfl I (fun n s hI => ?_) n h
  show wpAny _ _ ((forTurn target it body orelse env).onRaise (fun x => do noteFrame x env; theTreesLotGoes x)) _ _ s
  refine wpAny_noted ?_
  simp only [forTurn]
  refine wpAny_bind (wpAny_standAt (wpAny_bind (wpAny_onRaise (wpAny_mono (turn n s hI) (fun r s₁ h₁ => ?_) fun _ _ h' => wpAny_standAt h'))))
  cases r with
  | none => exact wpAny_pure (.inr ⟨rfl, codeAny_block h₁⟩)
  | some v =>
    refine wpAny_bind (wpAny_mono h₁ (fun _ s₂ h₁ => wpAny_bind (wpAny_mono h₁ (fun _ s₂ h₂ => wpAny_bind (wpAny_mono h₂ (fun f s₃ h₃ => ?_) fun _ _ h' => h')) fun _ _ h' => h')) fun _ _ h' => h')
    cases f with
    | next => exact wpAny_pure (.inl ⟨rfl, h₃⟩)
    | cont => exact wpAny_pure (.inl ⟨rfl, h₃⟩)
    | brk => exact wpAny_pure h₃
    | ret v => exact wpAny_pure h₃

-- an opaque thing becomes a handle
mutual
theorem Rep.move {H : Hd} {a : Addr} {h : Heap} : ∀ {y : Value} {v : V}, Rep ⟨H.hs, [a] ++ H.xs⟩ h y v → Rep ⟨H.hs ++ [a], H.xs⟩ h y v
  | _, _, .none => .none
  | _, _, .bool b => .bool b
  | _, _, .int i t => .int i t
  | _, _, .str s t => .str s t
  | _, _, .tup ha ho hr => .tup (fun hm => ha (hm.elim (fun h => (List.mem_append.mp h).elim .inl fun h => .inr (List.mem_append_left _ h)) fun h => .inr (List.mem_append_right _ h))) ho (RepAll.move hr)
  | _, _, .lst ha ho hr => .lst (fun hm => ha (hm.elim (fun h => (List.mem_append.mp h).elim .inl fun h => .inr (List.mem_append_left _ h)) fun h => .inr (List.mem_append_right _ h))) ho (RepAll.move hr)
  | _, _, .ref hk => .ref (by
      have hk' : H.hs[_]? = some _ := hk
      have := (List.getElem?_eq_some_iff.mp hk').1
      show (H.hs ++ [a])[_]? = _
      rw [List.getElem?_append_left this]; exact hk')
  | _, _, .val y => .val y
theorem RepAll.move {H : Hd} {a : Addr} {h : Heap} : ∀ {ys : List Value} {vs : List V}, RepAll ⟨H.hs, [a] ++ H.xs⟩ h ys vs → RepAll ⟨H.hs ++ [a], H.xs⟩ h ys vs
  | _, _, .nil => .nil
  | _, _, .cons hy hr => .cons (Rep.move hy) (RepAll.move hr)
end

section
variable {B : Bs} {n : Nat} {env : Env} {m : Nat} {ρ : Nm} {st : Store} {Φ : Fl → Nm → Store → Prop}

/-- a for over a list or a range, by an invariant -/
theorem x_for {target iter : Expr} {body : List Stmt} {pos : Pos} {vs : List V} {Cond : Store → Prop} {Tg : Expr → Prop} {xs : List Str} (hiter : PI B n env ρ st iter vs Cond Tg true) (htg : Tg target) (I : Nat → Nm → Store → Prop) (h0 : I 0 ρ st)
    (turn : ∀ i v ρ st, vs[i]? = some v → I i ρ st → Cond st ∧ ∃ ρ', PA B n env st target v xs ρ ρ' ∧ EX B n env m ρ' st body (fun f ρ' st' => match f with | .next | .cont => I (i + 1) ρ' st' | .brk => Φ .next ρ' st' | .ret v => Φ (.ret v) ρ' st'))
    (done : ∀ ρ st, I vs.length ρ st → Cond st ∧ Φ .next ρ st) (hs : ∀ x, foldedSetIterable iter env x = pure x := by intro _; rfl) :
    EX1 B n env m ρ st (.For target iter body [] pos) Φ := fun A hA O E s H S => by
  refine wpAny_For (wpAny_mono (hiter A hA E s H S) (fun xv s₁ ⟨k1, q1⟩ => wpAny_mono q1 (fun it s₂ q2 => ?_) fun _ _ e => e) fun _ _ e => e) hs
  obtain ⟨k2, X, wr, fp, St, IT, hc, hX, hst, hnew⟩ := q2
  have hX := hX rfl
  subst hX
  have hnewB : ∀ b ∈ fp, B.h₀.get? b = none := fun b hb => by
    cases e : B.h₀.get? b with
    | none => rfl
    | some o => have := S.base.keep b o e; rw [hnew b (.inl hb)] at this; cases this
  have hst0 : St H 0 s₂.heap := hst
  have S₂ := S.keeps (kp_get k2)
  have hfpown : ∀ b ∈ fp, b ∉ own env := fun b hb ho => by
    obtain ⟨o, e⟩ := S.en.live b ho
    rw [hnew b (.inl hb)] at e; cases e
  have hfpH : ∀ b ∈ fp, ¬ H.has b := fun b hb ho => by
    obtain ⟨o, e, _⟩ := S.sto.live b ho
    rw [hnew b (.inl hb)] at e; cases e
  obtain ⟨h₂, tk₂, rfl, kp2⟩ := k2
  have es0 : ES env m H s.heap H h₂ := (CS.of_keeps kp2).es
  refine codeAny_forT (fun k s' => ∃ i ρ' st' H' h' tk, s' = { s with heap := h', toks := tk } ∧ k = vs.length + 1 - i ∧ i ≤ vs.length ∧ I i ρ' st' ∧ Sim B env ρ' st' H' h' ∧ St H' i h' ∧ ES env m H s.heap H' h' ∧ (∀ b ∈ fp, ¬ H'.has b)) ?_ (vs.length + 1) ⟨0, ρ, st, H, h₂, tk₂, rfl, rfl, Nat.zero_le _, h0, S₂, hst0, es0, hfpH⟩
  rintro k s' ⟨i, ρ', st', H', h', tk, rfl, rfl, hi, hI, S', hst', es, hfpH'⟩
  have hwr : ∀ b ∈ wr, b ∉ ([] : List Addr) → ∃ o fs, h'.get? b = some o ∧ o.data = .fields fs := fun b hb hx => by
    obtain ⟨o, ho, hf⟩ := IT.wrObj _ _ _ b hst' (IT.sub b hb)
    obtain ⟨fs, hfs⟩ := hf hb hx
    exact ⟨o, fs, ho, hfs⟩
  have esw : ∀ {h₁ : Heap}, (∀ b o, b ∉ wr → h'.get? b = some o → h₁.get? b = some o) → ES env m H s.heap H' h₁ := fun {h₁} kp' =>
    ⟨es.pre, es.xs, es.new, fun b o hb hm e => kp' b o (fun hw => by rw [hnew b (.inl (IT.sub b hw))] at e; cases e) (es.keep b o hb hm e)⟩
  cases hv : vs[i]? with
  | none =>
    have hlen : i = vs.length := Nat.le_antisymm hi (List.getElem?_eq_none_iff.mp hv)
    subst hlen
    obtain ⟨hcond, hfin⟩ := done ρ' st' hI
    refine wpAny_mono (IT.done A hA _ { s with heap := h', toks := tk } H' st' (fun s₁ => ∃ h₁ tk₁, s₁ = { s with heap := h₁, toks := tk₁ } ∧ (∀ b o, b ∉ wr → h'.get? b = some o → h₁.get? b = some o)) hcond S'.sb (by simp) hst' fun h₁ tk₁ kp' => ⟨h₁, tk₁, rfl, kp'⟩) (fun r s₁ q => ?_) fun _ _ e => e
    obtain ⟨rfl, h₁, tk₁, rfl, kp'⟩ := q
    obtain ⟨S₁, dk⟩ := sim_wr S' (X := []) (by simp) hwr (by simp) (fun b hb => hnewB b (IT.sub b hb)) kp'
    exact wpAny_execs_nil ⟨.next, ρ', st', H', h₁, tk₁, rfl, hfin, .next, S₁, esw kp'⟩
  | some v =>
    have hlt : i < vs.length := (List.getElem?_eq_some_iff.mp hv).1
    obtain ⟨hcond, ρ₁, pa, hx⟩ := turn i v ρ' st' hv hI
    refine wpAny_mono (IT.item A hA (notedBy (model B.prog B.w) A env fun e s' => cameBackBy (model B.prog B.w) A env E e s') { s with heap := h', toks := tk } H' st' i v target (fun x s₁ => ∃ h₁ tk₁, s₁ = { s with heap := h₁, toks := tk₁ } ∧ St H' (i + 1) h₁ ∧ (∀ b o, b ∉ wr → h'.get? b = some o → h₁.get? b = some o) ∧ Rep H' h₁ x v) hcond htg S'.sb (by simp) hst' hv fun x h₁ tk₁ a1 a2 a3 => ⟨h₁, tk₁, rfl, a1, a2, a3⟩) (fun r s₁ q => ?_) fun _ _ e => e
    obtain ⟨x, rfl, q⟩ := q
    refine wpAny_mono q (fun _ s₂ q => ?_) fun _ _ e => e
    obtain ⟨h₁, tk₁, rfl, hst₁, kp', r₁⟩ := q
    obtain ⟨S₁, dk₁⟩ := sim_wr S' (X := []) (by simp) hwr (by simp) (fun b hb => hnewB b (IT.sub b hb)) kp'
    refine wpAny_mono (pa A hA (O.own _) _ _ _ x S₁ r₁) (fun _ s₂ q => ?_) fun _ _ e => e
    obtain ⟨h₂', tk₂', rfl, S₂', kp₂⟩ := q
    have es₂ : ES env m H s.heap H' h₂' := ⟨es.pre, es.xs, es.new, fun b o hb hm e => kp₂ b o (fun hw => hb (wrt_own hw)) ((esw kp').keep b o hb hm e)⟩
    have hst₂ : St H' (i + 1) h₂' := IT.frame _ _ _ _ _ hst₁ (wrt_dk S₁.en kp₂) fun b hb o e => kp₂ b o (fun hw => hfpown b hb (wrt_own hw)) e
    refine wpAny_mono (hx A hA O _ _ H' S₂') (fun f s₃ q => ?_) fun _ _ e => e
    obtain ⟨fl, ρ₃, st₃, H₃, h₃, tk₃, rfl, hp, hf, S₃, es₃⟩ := q
    have es₄ := es₂.trans es₃ S₂'.sto S₂'.en.live
    have hst₃ : St H₃ (i + 1) h₃ := IT.frame _ _ _ _ _ hst₂ (es₃.dk S₂'.en) fun b hb o e => es₃.keep b o (hfpown b hb) (fun k _ hk => hfpH' b hb (.inl (List.mem_of_getElem? hk))) e
    have hfp₃ : ∀ b ∈ fp, ¬ H₃.has b := fun b hb hh => by
      obtain ⟨o, ho, _⟩ := IT.wrObj _ _ _ b hst₂ hb
      have := es₃.new b hh (hfpH' b hb)
      rw [ho] at this; cases this
    cases hf with
    | next => exact ⟨vs.length + 1 - (i + 1), by omega, i + 1, ρ₃, st₃, H₃, h₃, tk₃, rfl, rfl, hlt, hp, S₃, hst₃, es₄, hfp₃⟩
    | cont => exact ⟨vs.length + 1 - (i + 1), by omega, i + 1, ρ₃, st₃, H₃, h₃, tk₃, rfl, rfl, hlt, hp, S₃, hst₃, es₄, hfp₃⟩
    | brk => exact ⟨.next, ρ₃, st₃, H₃, h₃, tk₃, rfl, hp, .next, S₃, es₄⟩
    | ret r => exact ⟨_, ρ₃, st₃, H₃, h₃, tk₃, rfl, hp, .ret r, S₃, es₄⟩

/-- a new mutable list: the frame and the store with it -/
theorem sim_new {H : Hd} {h h' : Heap} {a : Addr} {xs : Array Value} {q : Nat} {l : List V} (S : Sim B env ρ st H h) (kp : ∀ b o, h.get? b = some o → h'.get? b = some o) (ha : h.get? a = none) (ho : h'.get? a = some (lisObj xs q)) (hr : RepAll ⟨H.hs ++ [a], H.xs⟩ h' xs.toList l) :
    Sim B env ρ (st ++ [l]) ⟨H.hs ++ [a], H.xs⟩ h' ∧ CS m H h ⟨H.hs ++ [a], H.xs⟩ h' ∧ Rep ⟨H.hs ++ [a], H.xs⟩ h' (.ref a) (.ref st.length) := by
  have haH : ¬ H.has a := fun hh => by obtain ⟨o, e, _⟩ := S.sto.live a hh; rw [ha] at e; cases e
  have new : ∀ b, (⟨H.hs ++ [a], H.xs⟩ : Hd).has b → ¬ H.has b → h.get? b = none := fun b hb hn => by
    rcases hb with hb | hb
    · rcases List.mem_append.mp hb with hb | hb
      · exact absurd (.inl hb) hn
      · cases List.mem_singleton.mp hb; exact ha
    · exact absurd (.inr hb) hn
  have cs : CS m H h ⟨H.hs ++ [a], H.xs⟩ h' := ⟨⟨[a], rfl⟩, rfl, new, fun b o _ e => kp b o e⟩
  have hat : (H.hs ++ [a])[st.length]? = some a := by rw [← S.sto.len]; simp
  refine ⟨⟨⟨fun b o e => kp b o (S.base.keep b o e), fun b hb => ?_⟩, ⟨by simp [S.sto.len], ?_, fun k b l' hb hl => ?_, fun b hb => ?_, fun b hb => ?_⟩, S.en.ext kp cs.dk⟩, cs, .ref hat⟩
  · by_cases hh : H.has b
    · exact S.base.new b hh
    · cases e : B.h₀.get? b with
      | none => rfl
      | some o => have := S.base.keep b o e; rw [new b hb hh] at this; cases this
  · refine List.nodup_append.mpr ⟨S.sto.nd, by simp, fun x hx y hy e => ?_⟩
    cases List.mem_singleton.mp hy
    exact haH (.inl (e ▸ hx))
  · by_cases hk : k < H.hs.length
    · have hb' : (H.hs ++ [a])[k]? = some b := hb
      rw [List.getElem?_append_left hk] at hb'
      rw [List.getElem?_append_left (S.sto.len ▸ hk)] at hl
      obtain ⟨vs, q', ho', hr'⟩ := S.sto.at_ k b l' hb' hl
      exact ⟨vs, q', kp _ _ ho', hr'.ext cs.dk⟩
    · have hb' : (H.hs ++ [a])[k]? = some b := hb
      have hkl := (List.getElem?_eq_some_iff.mp hb').1
      have hke : k = H.hs.length := by simp at hkl; omega
      subst hke
      simp at hb'
      subst hb'
      rw [S.sto.len] at hl
      simp at hl
      subst hl
      exact ⟨xs, q, ho, hr⟩
  · by_cases hh : H.has b
    · obtain ⟨o, e, hs⟩ := S.sto.live b hh; exact ⟨o, kp _ _ e, hs⟩
    · rcases hb with hb | hb
      · rcases List.mem_append.mp hb with hb | hb
        · exact absurd (.inl hb) hh
        · cases List.mem_singleton.mp hb; exact ⟨_, ho, isSeq_lis ..⟩
      · exact absurd (.inr hb) hh
  · intro hm
    rcases List.mem_append.mp hm with hm | hm
    · exact S.sto.dj b hb hm
    · cases List.mem_singleton.mp hm; exact haH (.inr hb)

/-- a list display as a new mutable list -/
theorem pm_list {es : List Expr} {pos : Pos} {vs : List V} {Ψ : V → Store → Prop} (h1 : PEs B n env ρ st es vs) (hp : Ψ (.ref st.length) (st ++ [vs])) (hsz : vs.length ≤ sizeLine := by simp [sizeLine]) : PM B n env m ρ st (.List es pos) Ψ := fun A hA E s H S => by
  refine List_ (wpAny_mono (h1 A hA E s H pos S) (fun xs s₁ ⟨k1, r1⟩ => ?_) fun _ _ e => e)
  have S1 := S.keeps (kp_get k1)
  have hnone : s₁.heap.get? s₁.heap.objs.size = none := by
    cases e : s₁.heap.get? s₁.heap.objs.size with
    | none => rfl
    | some o => exact absurd (Heap.lt_size e) (Nat.lt_irrefl _)
  refine wpAny_newObj_type ?_ (by show xs.toArray.size ≤ sizeLine; rw [List.size_toArray, r1.length]; exact hsz)
  have kp := kp_get (kp_push s₁ { cls := .type "list", data := .seq xs.toArray })
  have hr : RepAll ⟨H.hs ++ [s₁.heap.objs.size], H.xs⟩ (s₁.heap.push { cls := .type "list", data := .seq xs.toArray }) xs vs := r1.ext ⟨⟨[s₁.heap.objs.size], rfl⟩, fun b hb hn => by
    rcases hb with hb | hb
    · rcases List.mem_append.mp hb with hb | hb
      · exact absurd (.inl hb) hn
      · cases List.mem_singleton.mp hb; exact hnone
    · exact absurd (.inr hb) hn, fun b o _ _ e => kp b o e⟩
  obtain ⟨S2, cs, r⟩ := sim_new (m := m) S1 kp hnone (Heap.get?_push_size _ rfl) (l := vs) (by simpa using hr)
  obtain ⟨h₁, tk₁, rfl, kp1⟩ := k1
  exact ⟨_, _, _, _, tk₁, rfl, hp, S2, (CS.of_keeps kp1).trans cs S1.sto, r⟩

/-- a comprehension's list as a new mutable one, assigned to a name; both orders of the stores -/
theorem pm_comp0 {elt target iter : Expr} {ifs : List Expr} {scope : Scope} {pos : Pos} {vs : List V} {Cond : Store → Prop} {Tg : Expr → Prop} {pl : Bool} {xs : List Str} {Ψ : V → Store → Prop} (hiter : PI B n env ρ st iter vs Cond Tg pl) (htg : Tg target) (ok : okScope env scope = true) (hxs : ∀ x ∈ xs, scope.names.lookup x = some .local ∨ scope.names.lookup x = some .cell)
    (outs : List (List V)) (hlen : outs.length = vs.length)
    (hturn : ∀ (i : Nat) v out, vs[i]? = some v → outs[i]? = some out → ∀ C, ∃ ρ' p w, PA B n (cEnv scope C env) st target v xs (restr scope ρ) ρ' ∧ PTs B n (cEnv scope C env) ρ' st ifs p ∧ (p = true → PE B n (cEnv scope C env) ρ' st elt w) ∧ out = (if p then [w] else []) ∧ ∀ y u, restr scope ρ y = some u → ρ' y = some u)
    (hsz : (outs.flatten).length ≤ sizeLine) (hp : Ψ (.ref st.length) (st ++ [outs.flatten])) (hs : ∀ x, foldedSetIterable iter env x = pure x := by intro _; rfl) :
    PM B n env m ρ st (.ListComp elt [⟨target, iter, ifs, 0⟩] scope pos) Ψ := fun A hA E s H S => by
  obtain ⟨f1, f2, f3⟩ := okScope_facts ok
  rw [eval_ListComp]
  refine wpAny_comprehension_free (use := none) rfl hs (hclos_of S.en ok) f1 (hnames_of f2) (comp_block1 (RR := fun acc C => compPost (model B.prog B.w) A E none _ acc C) hA S hiter htg ok hxs outs hlen hturn hsz ?_)
  intro D C h' tk q hD hC hDC hn acc kp
  refine ⟨q, hn, fun h'' hs'' => ?_⟩
  obtain ⟨⟨vs', q, ho, hr⟩, hDH⟩ := accAt_end S.sto hD hDC hn acc hs''
  have kp' : ∀ b o, s.heap.get? b = some o → h''.get? b = some o := fun b o e => hs''.extBut b o (fun e' => by subst e'; rw [hC] at e; cases e) (kp b o e)
  obtain ⟨S2, cs, r⟩ := sim_new (m := m) S kp' hD ho (l := outs.flatten) (hr.move)
  exact ⟨_, _, _, h'', tk, rfl, hp, S2, cs, r⟩
end
end Mine

-- part Fw13
namespace Mine

theorem wpAny_setItem_lis {prog : Program} {w : World} {A : Around} {E : Value → Shared → Prop} {s : Shared} {l : Addr} {vs : Array Value} {n : Nat} {k : Int} {t : Tok} {v : Value} {Q : Unit → Shared → Prop} (ho : s.heap.get? l = some (lisObj vs n)) (h0 : 0 ≤ k) (hfit : k < 2 ^ 63) (hn : k < vs.size)
    (hQ : ∀ h' n', h'.get? l = some (lisObj (vs.setIfInBounds k.toNat v) n') → Heap.SameBut l s.heap h' → Q () { s with heap := h' }) : wpAny (model prog w) A (setItem (.ref l) (.int k t) v) Q E s := by
  have hl := isList_of ho
  unfold setItem
  refine wpAny_holding ?_
  refine wpAny_bind (wpAny_sequenceKey hl.typeIs (by decide) ?_)
  refine wpAny_bind (wpAny_callSpecial?_slot (name := Str.ofString "__setitem__") hl.typeIs slot_list_setitem (wpAny_call_entry slot_list_setitem hl.typeIs entry_list_setitem ?_ (args_list_setitem _ _ _)))
  show wpAny _ _ (Builtin.List.listSubscript? (.int k t) >>= _) _ _ s
  refine wpAny_bind (wpAny_listSubscript_int (fitsIndex_of h0 hfit) ?_)
  obtain ⟨j, rfl⟩ := Int.eq_ofNat_of_zero_le h0
  have hx' : vs[j]? = some (vs[j]'(by omega)) := Array.getElem?_eq_getElem _
  show wpAny _ _ ((seqItemAt l j >>= fun r => pure (r.map (j, ·))) >>= _) _ _ s
  refine wpAny_bind (wpAny_bind (wpAny_seqItemAt ho rfl (wpAny_pure ?_)))
  rw [hx']
  show wpAny _ _ (setSeqItemAt l j v >>= _) _ _ s
  obtain ⟨n', ho'⟩ := upd_lis ho (·.setIfInBounds j v)
  refine wpAny_bind (wpAny_setSeqItemAt ho rfl ?_)
  first
    | exact wpAny_bind (wpAny_pure (wpAny_pure ⟨.none, rfl, wpAny_pure (hQ _ n' ho' (Heap.SameBut.update ..))⟩))
    | exact wpAny_pure ⟨.none, rfl, wpAny_pure (hQ _ n' ho' (Heap.SameBut.update ..))⟩

/-- an operation upon values that may change the store -/
def OM (B : Bs) (n : Nat) (m : Nat) (st : Store) (t : List Value → Sem Value) (vs : List V) (Ψ : V → Store → Prop) : Prop :=
  ∀ A, Rm n A → ∀ E s H xs, SB B st H s.heap → RepAll H s.heap xs vs →
    wpAny (model B.prog B.w) A (t xs) (fun z s' => ∃ v st' H' h' tk, s' = { s with heap := h', toks := tk } ∧ Ψ v st' ∧ SB B st' H' h' ∧ CS m H s.heap H' h' ∧ Rep H' h' z v) E s

/-- arguments that may make mutable lists -/
def PMs (B : Bs) (n : Nat) (env : Env) (m : Nat) (ρ : Nm) (st : Store) (es : List Expr) (Ψ : List V → Store → Prop) : Prop :=
  ∀ A, Rm n A → ∀ E s H pos, Sim B env ρ st H s.heap →
    wpAny (model B.prog B.w) A (spliced (backTo pos (starEach es env))) (fun xs s' => ∃ vs st' H' h' tk, s' = { s with heap := h', toks := tk } ∧ Ψ vs st' ∧ Sim B env ρ st' H' h' ∧ CS m H s.heap H' h' ∧ RepAll H' h' xs vs) E s

theorem EnvRep.cs {env : Env} {ρ : Nm} {m : Nat} {st : Store} {H H' : Hd} {h h' : Heap} (x : EnvRep env ρ H h) (S : SimH H st h) (c : CS m H h H' h') : EnvRep env ρ H' h' := by
  have kp : ∀ b o, ¬ IsSeq o → h.get? b = some o → h'.get? b = some o := fun b o hn e => c.keep b o (fun k _ hk => by
    obtain ⟨o', e', hs⟩ := S.live b (.inl (List.mem_of_getElem? hk))
    rw [e] at e'; cases e'; exact hn hs) e
  have kc : ∀ {a : Addr} {v : Option Value}, h.IsCell a v → h'.IsCell a v := fun ⟨o, ho, hd⟩ => ⟨o, kp _ o (by rintro ⟨_, _, e⟩; rw [hd] at e; cases e) ho, hd⟩
  refine ⟨x.kind, x.gl, x.bi, ?_, fun y v hy hv => ?_, fun y a ha => ?_, x.has, x.apart⟩
  · obtain ⟨q, hm, hr⟩ := x.loc
    refine ⟨q, hm.at' fun o e => kp _ o ?_ e, fun y v hy hv => let ⟨z, hz, r⟩ := hr y v hy hv; ⟨z, hz, r.ext c.dk⟩⟩
    obtain ⟨o', es, ep, ho', hd, _⟩ := hm
    rw [e] at ho'; cases ho'
    rintro ⟨_, _, e⟩; rw [hd] at e; cases e
  · obtain ⟨a, z, h1, h2, h3⟩ := x.cell y v hy hv
    exact ⟨a, z, h1, kc h2, h3.ext c.dk⟩
  · obtain ⟨v, hv⟩ := x.cells y a ha
    exact ⟨v, kc hv⟩

section
variable {B : Bs} {n : Nat} {env : Env} {m : Nat} {ρ : Nm} {st : Store} {Φ : Fl → Nm → Store → Prop} {Ψ : V → Store → Prop}

theorem PM.mono {e : Expr} {Ψ' : V → Store → Prop} (h : PM B n env m ρ st e Ψ) (hp : ∀ v st, Ψ v st → Ψ' v st) : PM B n env m ρ st e Ψ' := fun A hA E s H S =>
  wpAny_mono (h A hA E s H S) (fun f s₁ ⟨v, st', H', h', tk, e, hq, r⟩ => ⟨v, st', H', h', tk, e, hp _ _ hq, r⟩) fun _ _ e => e

theorem pms_nil {Ψ : List V → Store → Prop} (h : Ψ [] st) : PMs B n env m ρ st [] Ψ := fun A hA E s H pos S => args_nil ⟨[], st, H, s.heap, s.toks, rfl, h, S, .refl .., .nil⟩
theorem pms_cons {e : Expr} {es : List Expr} {Ψ : List V → Store → Prop} (h1 : PM B n env m ρ st e (fun v st' => PMs B n env m ρ st' es (fun vs st'' => Ψ (v :: vs) st'')))
    (he : starEach (e :: es) env = (false, eval e env) :: starEach es env := by rfl) : PMs B n env m ρ st (e :: es) Ψ := fun A hA E s H pos S => by
  refine args_cons (wpAny_mono (h1 A hA E s H S) (fun x s₁ q => ?_) fun _ _ e => e) he
  obtain ⟨v, st', H', h', tk, rfl, hp, S', cs, r⟩ := q
  refine wpAny_mono (hp A hA E _ H' pos S') (fun xs s₂ q => ?_) fun _ _ e => e
  obtain ⟨vs, st'', H'', h'', tk', rfl, hp', S'', cs', r'⟩ := q
  exact ⟨v :: vs, st'', H'', h'', tk', rfl, hp', S'', cs.trans cs' S'.sto, .cons (r.ext cs'.dk) r'⟩
theorem PEs.pms {es : List Expr} {vs : List V} {Ψ : List V → Store → Prop} (h : PEs B n env ρ st es vs) (hp : Ψ vs st) : PMs B n env m ρ st es Ψ := fun A hA E s H pos S => by
  refine wpAny_mono (h A hA E s H pos S) (fun x s₁ ⟨k, r⟩ => ?_) fun _ _ e => e
  have S₁ := S.keeps (kp_get k)
  obtain ⟨h', tk, rfl, kp⟩ := k
  exact ⟨vs, st, H, h', tk, rfl, hp, S₁, .of_keeps kp, r⟩
theorem PL.om {t : List Value → Sem Value} {as : List V} {c : V} (h : PL B n st t as c) (hp : Ψ c st) : OM B n m st t as Ψ := fun A hA E s H xs S r => by
  refine wpAny_mono (h A hA E s H xs S r) (fun x s₁ ⟨k, r⟩ => ?_) fun _ _ e => e
  have S₁ := S.keeps (kp_get k)
  obtain ⟨h', tk, rfl, kp⟩ := k
  exact ⟨c, st, H, h', tk, rfl, hp, S₁, .of_keeps kp, r⟩

theorem pm_tuple {es : List Expr} {k : Nat} {pos : Pos} (h1 : PMs B n env m ρ st es (fun vs st' => vs.length ≤ sizeLine ∧ Ψ (.tup vs) st')) : PM B n env m ρ st (.Tuple es k pos) Ψ := fun A hA E s H S => by
  refine Tuple_ (wpAny_mono (h1 A hA E s H pos S) (fun xs s₁ q => ?_) fun _ _ e => e)
  obtain ⟨vs, st', H', h', tk, rfl, ⟨hsz, hp⟩, S', cs, r⟩ := q
  have kp := kp_get (kp_push { s with heap := h', toks := tk } { cls := .type "tuple", data := .seq xs.toArray })
  refine wpAny_newObj_type ⟨.tup vs, st', H', _, tk, rfl, hp, S'.keeps kp, cs.trans (.of_keeps kp) S'.sto, .tup (vs := xs.toArray) (n := 0) (notMem_size S'.sto) (Heap.get?_push_size _ rfl) (r.ext (.of_keeps kp))⟩ (by show xs.toArray.size ≤ sizeLine; rw [List.size_toArray, r.length]; exact hsz)

/-- the call's end under the frame -/
theorem om_pm {A : Around} {E : Value → Shared → Prop} {s : Shared} {H H₁ : Hd} {h₁ : Heap} {tk₁ : Nat} {st₁ : Store} {t : List Value → Sem Value} {vs : List V} {xs : List Value} (hA : Rm n A) (h : OM B n m st₁ t vs Ψ) (S₁ : Sim B env ρ st₁ H₁ h₁) (cs : CS m H s.heap H₁ h₁) (r : RepAll H₁ h₁ xs vs) :
    wpAny (model B.prog B.w) A (t xs) (fun x s' => ∃ v st' H' h' tk, s' = { s with heap := h', toks := tk } ∧ Ψ v st' ∧ Sim B env ρ st' H' h' ∧ CS m H s.heap H' h' ∧ Rep H' h' x v) E { s with heap := h₁, toks := tk₁ } := by
  refine wpAny_mono (h A hA E { s with heap := h₁, toks := tk₁ } H₁ xs S₁.sb r) (fun x s₂ q => ?_) fun _ _ e => e
  obtain ⟨v, st', H', h', tk, rfl, hp, SB', cs', r'⟩ := q
  exact ⟨v, st', H', h', tk, rfl, hp, ⟨SB'.base, SB'.sto, S₁.en.cs S₁.sto cs'⟩, cs.trans cs' S₁.sto, r'⟩

/-- a method of a list -/
theorem pm_meth {o : Expr} {name : Str} {apos cpos : Pos} {e : Expr} {es : List Expr} {id : String} {v₀ : V} {l : List V} (ho : PE B n env ρ st o v₀) (hl : lis st v₀ = some l)
    (ha : PMs B n env m ρ st (e :: es) (fun vs st' => OM B n m st' (fun xs => call (.builtin id) xs) (v₀ :: vs) Ψ)) (slot : Slot "list" name id) (hty : typeOf (.builtin id) = pure (.type "method_descriptor"))
    (hbase : attributeBase o name env (eval o env) = eval o env := by rfl)
    (hfew : ((backTo cpos (starEach (e :: es) env)).all (fun x => !x.1) && (backToKw cpos (keywordEach [] env)).all (fun x => x.1.isSome)
      && decide ((e :: es).length + ([] : List Keyword).length + (if ([] : List Keyword).isEmpty then 0 else 1) < 30)) = true := by rfl)
    (hline : (apos.endLine == cpos.line) = true := by rfl) (he : starEach (e :: es) env = (false, eval e env) :: starEach es env := by rfl) (hplain : (backTo cpos (starEach es env)).any (·.1) = false := by rfl) :
    PM B n env m ρ st (.Call (.Attribute o name apos) (e :: es) [] cpos) Ψ := fun A hA E s H S => by
  refine wpAny_Call_method hbase hfew hline F.plainAttrs_list slot hty (wpAny_mono (ho A hA E s H S) (fun ov s₁ ⟨k1, r1⟩ => ?_) fun _ _ e => e)
  have S₁ := S.keeps (kp_get k1)
  obtain ⟨ad, vs, q, rfl, hob, hr⟩ := lis_at (B := B) S₁.sto r1 hl
  refine ⟨(isList_of hob).typeIs, fun a ha => by cases ha; exact ⟨_, hob, rfl⟩, ?_⟩
  refine callWith_method1 (wpAny_mono (ha A hA E s₁ H cpos S₁) (fun xs s₂ q => ?_) fun _ _ e => e) he hplain
  obtain ⟨vs, st', H', h', tk, rfl, hp, S', cs, r⟩ := q
  obtain ⟨h₁, tk₁, rfl, kp⟩ := k1
  exact om_pm (s := s) (xs := .ref ad :: xs) hA hp S' ((CS.of_keeps kp).trans cs S₁.sto) (.cons (r1.ext cs.dk) r)

/-- a handle's list is changed -/
theorem sb_set {H : Hd} {h h' : Heap} {a : Addr} {k : Nat} {ws : Array Value} {q : Nat} {l' : List V} (S : SB B st H h) (hk : H.hs[k]? = some a) (ho' : h'.get? a = some (lisObj ws q)) (kp : ∀ b o, b ≠ a → h.get? b = some o → h'.get? b = some o) (hr : RepAll H h ws.toList l') (hm : m ≤ k) :
    SB B (st.set k l') H h' ∧ CS m H h H h' := by
  have ha : H.has a := .inl (List.mem_of_getElem? hk)
  have cs : CS m H h H h' := ⟨⟨[], by simp⟩, rfl, fun _ h1 h2 => absurd h1 h2, fun b o hb e => kp b o (fun e' => hb k hm (e' ▸ hk)) e⟩
  refine ⟨⟨⟨fun b o e => kp b o (fun e' => by subst e'; rw [S.base.new _ ha] at e; cases e) (S.base.keep b o e), S.base.new⟩, ⟨by simp [S.sto.len], S.sto.nd, fun j b l hj hl => ?_, fun b hb => ?_, S.sto.dj⟩⟩, cs⟩
  · by_cases e : j = k
    · subst e
      rw [hk] at hj; cases hj
      rw [List.getElem?_set_self (by rw [← S.sto.len]; exact (List.getElem?_eq_some_iff.mp hk).1)] at hl
      cases hl
      exact ⟨ws, q, ho', hr.ext cs.dk⟩
    · rw [List.getElem?_set_ne (Ne.symm e)] at hl
      obtain ⟨vs, q', ho, hr'⟩ := S.sto.at_ j b l hj hl
      refine ⟨vs, q', kp b _ (fun e' => e ?_) ho, hr'.ext cs.dk⟩
      subst e'
      exact (List.getElem?_inj (List.getElem?_eq_some_iff.mp hj).1 S.sto.nd).mp (hj.trans hk.symm)
  · by_cases e : b = a
    · subst e; exact ⟨_, ho', isSeq_lis ..⟩
    · obtain ⟨o, ho, hs⟩ := S.sto.live b hb; exact ⟨o, kp b o e ho, hs⟩

theorem om_append {k : Nat} {l : List V} {v : V} (hl : st[k]? = some l) (hm : m ≤ k) (hsz : l.length ≤ sizeLine) (hp : Ψ .none (st.set k (l ++ [v]))) : OM B n m st (fun xs => call (.builtin "list.append") xs) [.ref k, v] Ψ := fun A hA E s H xs S r => by
  cases r with
  | cons r1 r =>
    cases r with
    | cons r2 r =>
      cases r
      cases r1 with
      | ref hk =>
        obtain ⟨vs, q, ho, hr⟩ := S.sto.at_ _ _ _ hk hl
        refine wpAny_append_lis ho (by rw [hr.size]; exact hsz) fun h' q' ho' hs => ?_
        obtain ⟨S', cs⟩ := sb_set (m := m) S hk ho' (fun b o hb e => hs.extBut b o hb e) (l' := l ++ [v]) (by simpa using hr.append (.one r2)) hm
        exact ⟨.none, _, H, h', s.toks, rfl, hp, S', cs, .none⟩

theorem om_insert {k : Nat} {l : List V} {v : V} {i : Int} (hl : st[k]? = some l) (hm : m ≤ k) (hsz : l.length ≤ sizeLine) (h0 : 0 ≤ i) (hi : i ≤ l.length) (hp : Ψ .none (st.set k (l.take i.toNat ++ v :: l.drop i.toNat))) : OM B n m st (fun xs => call (.builtin "list.insert") xs) [.ref k, .int i, v] Ψ := fun A hA E s H xs S r => by
  cases r with
  | cons r1 r =>
    cases r with
    | cons r2 r =>
      cases r with
      | @cons y3 _ _ _ r3 r =>
        cases r
        cases r2
        cases r1 with
        | ref hk =>
          obtain ⟨vs, q, ho, hr⟩ := S.sto.at_ _ _ _ hk hl
          have hsize := hr.size
          have hfit : ¬(!Builtin.List.listFitsIndex i) = true := by
            have : i < 2 ^ 63 := by simp [sizeLine] at hsz; omega
            simp [Builtin.List.listFitsIndex]; omega
          refine call_meets F.slot_list_insert (isList_of ho).typeIs F.entry_list_insert (F.args_list_insert_3 _ _ _) (AutoSeq1.list_insert_list_int_val_1 _ vs q i _ _ hfit (by rw [hsize]; exact hsz)) ⟨ho, ?_⟩
          have hneg : ¬ i < 0 := by omega
          have hmin : min i.toNat vs.size = i.toNat := by rw [hsize]; omega
          obtain ⟨q', ho'⟩ := upd_lis ho (fun xs : Array Value => have k := if i < 0 then (i + (xs.size : Int)).toNat else min i.toNat xs.size; (xs.extract 0 k).push y3 ++ xs.extract k)
          have hrr : RepAll H s.heap ((vs.extract 0 i.toNat).push y3 ++ vs.extract i.toNat).toList (l.take i.toNat ++ v :: l.drop i.toNat) := by
            have e1 : ((vs.extract 0 i.toNat).push y3 ++ vs.extract i.toNat).toList = vs.toList.take i.toNat ++ y3 :: vs.toList.drop i.toNat := by
              simp [Array.toList_extract, List.extract]
              exact List.take_of_length_le (by simp)
            rw [e1]
            exact (hr.take _).append (.cons r3 (hr.drop _))
          have e2 : (fun xs : Array Value => have k := if i < 0 then (i + (xs.size : Int)).toNat else min i.toNat xs.size; (xs.extract 0 k).push y3 ++ xs.extract k) vs = (vs.extract 0 i.toNat).push y3 ++ vs.extract i.toNat := by
            simp only [hneg, if_false, hmin]
          obtain ⟨S', cs⟩ := sb_set (m := m) S hk (ws := (vs.extract 0 i.toNat).push y3 ++ vs.extract i.toNat) (q := q') (by rw [← e2]; exact ho') (fun b o hb e => (Heap.SameBut.update ..).extBut b o hb e) hrr hm
          exact ⟨.none, _, H, _, s.toks, rfl, hp, S', cs, .none⟩

/-- an expression as a statement -/
theorem x_expr {e : Expr} {pos : Pos} (h : PM B n env m ρ st e (fun _ st' => Φ .next ρ st')) (hs : swapsWith e none pos.line env = pure false := by rfl) : EX1 B n env m ρ st (.Expr e pos) Φ := fun A hA O E s H S => by
  refine wpAny_Expr_any (wpAny_mono (h A hA E s H S) (fun x s₁ q => ?_) fun _ _ e => e) (by unfold interactive; rw [S.en.kind]; rfl) hs
  obtain ⟨v, st', H', h', tk, rfl, hp, S', cs, r⟩ := q
  exact ⟨.next, ρ, st', H', h', tk, rfl, hp, .next, S', cs.es⟩

/-- an item is stored: the value first, then the list and the place, which are pure -/
theorem x_setitem {o i e : Expr} {sp pos : Pos} (h : PM B n env m ρ st e (fun v st' => ∃ k l j, PE B n env ρ st' o (.ref k) ∧ st'[k]? = some l ∧ PE B n env ρ st' i (.int j) ∧ 0 ≤ j ∧ j < l.length ∧ l.length < 2 ^ 62 ∧ m ≤ k ∧ Φ .next ρ (st'.set k (l.set j.toNat v))))
    (hs : swapsWith e (some (.Subscript o i sp)) pos.line env = pure false := by rfl) : EX1 B n env m ρ st (.Assign [.Subscript o i sp] e pos) Φ := fun A hA O E s H S => by
  refine wpAny_Assign_Subscript (wpAny_mono (h A hA E s H S) (fun x s₁ q => ?_) fun _ _ e => e) hs
  obtain ⟨v, st', H', h', tk, rfl, ⟨k, l, j, h1, h2, h3, h4, h5, h6, h7, h8⟩, S', cs, r⟩ := q
  refine wpAny_mono (h1 A hA E _ H' S') (fun ov s₁ ⟨k1, r1⟩ => wpAny_mono (h3 A hA E s₁ H' (S'.keeps (kp_get k1))) (fun iv s₂ ⟨k2, r2⟩ => ?_) fun _ _ e => e) fun _ _ e => e
  have kk := kp_trans k1 k2
  have S₂ := S'.keeps (kp_get kk)
  obtain ⟨h₂, tk₂, rfl, kp⟩ := kk
  cases r2
  cases r1 with
  | ref hk =>
    obtain ⟨vs, q, ho, hr⟩ := S₂.sto.at_ _ _ _ hk h2
    have hsize := hr.size
    refine wpAny_setItem_lis ho h4 (by omega) (by rw [hsize]; omega) fun h₃ q' ho₃ hs₃ => ?_
    obtain ⟨S₃, cs₃⟩ := sb_set (m := m) S₂.sb hk ho₃ (fun b o hb e => hs₃.extBut b o hb e) (l' := l.set j.toNat v) (by simpa using hr.set (r.ext (.of_keeps kp))) h7
    have en₃ := S₂.en.cs S₂.sto cs₃
    exact ⟨.next, ρ, _, H', h₃, tk₂, rfl, h8, .next, ⟨S₃.base, S₃.sto, en₃⟩, ((cs.trans (.of_keeps kp) S'.sto).trans cs₃ S₂.sto).es⟩
end
end Mine

-- part Fw14
namespace Mine

theorem bindL_lookup (kindOf : Str → Option NameKind) : ∀ (binds : List (Str × Value)) (m : Str → Option Value) (x : Str), kindOf x = some .local → (binds.map (·.1)).Nodup → bindL kindOf binds m x = (binds.lookup x).or (m x)
  | [], m, x, _, _ => by simp [bindL]
  | (y, v) :: r, m, x, hx, hn => by
    simp only [List.map_cons, List.nodup_cons] at hn
    unfold bindL
    rw [bindL_lookup kindOf r _ x hx hn.2, List.lookup_cons]
    by_cases e : x = y
    · subst e
      have : r.lookup x = none := by
        cases hq : r.lookup x with
        | none => rfl
        | some c => exact absurd (List.mem_map.mpr ⟨_, mem_of_lookup hq, rfl⟩) hn.1
      simp [this, hx]
    · have e' : (x == y) = false := by simpa using e
      rw [e']
      split
      · simp [e]
      · rfl
theorem bindC_lookup (kindOf : Str → Option NameKind) : ∀ (binds : List (Str × Value)) (m : Str → Option Value) (x : Str), kindOf x ≠ some .local → (binds.map (·.1)).Nodup → bindC kindOf binds m x = (binds.lookup x).or (m x)
  | [], m, x, _, _ => by simp [bindC]
  | (y, v) :: r, m, x, hx, hn => by
    simp only [List.map_cons, List.nodup_cons] at hn
    unfold bindC
    rw [bindC_lookup kindOf r _ x hx hn.2, List.lookup_cons]
    by_cases e : x = y
    · subst e
      have : r.lookup x = none := by
        cases hq : r.lookup x with
        | none => rfl
        | some c => exact absurd (List.mem_map.mpr ⟨_, mem_of_lookup hq, rfl⟩) hn.1
      simp [this, hx]
    · have e' : (x == y) = false := by simpa using e
      rw [e']
      split
      · rfl
      · simp [e]

theorem lookup_zip_rep {H : Hd} {h : Heap} : ∀ {names : List Str} {ys : List Value} {ws : List V} {x : Str} {v : V}, RepAll H h ys ws → (names.zip ws).lookup x = some v → ∃ y, (names.zip ys).lookup x = some y ∧ Rep H h y v
  | [], _, _, _, _, _, hl => by simp at hl
  | nm :: names, ys, ws, x, v, hr, hl => by
    cases hr with
    | nil => simp at hl
    | cons r1 r =>
      simp only [List.zip_cons_cons, List.lookup_cons] at hl ⊢
      cases hx : x == nm with
      | true => rw [hx] at hl; cases hl; exact ⟨_, rfl, r1⟩
      | false => rw [hx] at hl; exact lookup_zip_rep r hl

theorem cellsFrom_lookup : ∀ {m : Nat} {l : List (Str × NameKind)} {x : Str} {c : Addr}, (l.map (·.1)).Nodup → (x, c) ∈ cellsFrom m l [] → (cellsFrom m l []).lookup x = some c
  | m, (y, k) :: r, x, c, hn, h => by
    simp only [List.map_cons, List.nodup_cons] at hn
    unfold cellsFrom at h ⊢
    split at h
    · rename_i hk
      rw [if_pos hk]
      rw [cellsFrom_app] at h ⊢
      rw [List.lookup_append]
      rcases List.mem_append.mp h with h | h
      · rw [cellsFrom_lookup hn.2 h]; rfl
      · obtain ⟨e1, e2⟩ := Prod.mk.inj (List.mem_singleton.mp h)
        subst e1; subst e2
        have : (cellsFrom (c + 1) r []).lookup x = none := by
          cases hq : (cellsFrom (c + 1) r []).lookup x with
          | none => rfl
          | some c' => exact absurd (List.mem_map.mpr ⟨_, cellsFrom_mem (mem_of_lookup hq), rfl⟩) hn.1
        rw [this]; simp [List.lookup_cons]
    · rename_i hk
      rw [if_neg hk]
      exact cellsFrom_lookup hn.2 h

/-- a def of the text -/
structure FnOk (B : Bs) (a : Addr) (fd : FuncData) (body : List Stmt) : Prop where
  at_ : ∃ o, B.K.lookup a = some o ∧ o.data = .func fd
  body : fd.body = .stmts body
  clo : fd.closure = []
  gl : fd.globals = mainGlobals
  bi : fd.builtins = builtinsNs
  cd : B.h₀.CodeRec fd.code fd.qualname
  co : fd.scope.isCoroutine = false
  gen : fd.scope.isGenerator = false
  kind : fd.scope.kind = .function
  nd : nodupB (fd.scope.names.map (·.1)) = true
  nofree : (fd.scope.names.all fun x => x.2 != .free) = true

def paramsOk (scope : Scope) (names : List Str) : Bool := nodupB names && names.all fun x => scope.names.lookup x == some .local || scope.names.lookup x == some .cell

section
variable {B : Bs} {n m : Nat} {st : Store} {Ψ : V → Store → Prop}

/-- room, the caller's frame may be the claim's -/
structure Rm0 (n : Nat) (A : Around) : Prop where
  hd : A.handled = none
  dp : A.depth + n ≤ 890
  un : A.units + 20 * n ≤ 9000
  fr : ∃ l, A.frames = some l
theorem Rm.rm0 {A : Around} (x : Rm n A) : Rm0 n A := ⟨x.hd, x.dp, x.un, let ⟨e, l, h, _⟩ := x.fr; ⟨e :: l, h⟩⟩
theorem Rm0.deeper {n : Nat} {A : Around} (x : Rm0 (n + 1) A) (env : Env) (h1 : env.scope.isGenerator = false) (h2 : env.scope.isCoroutine = false) (h3 : env.builtins = builtinsNs) (h4 : env.globals = mainGlobals) : Rm n (A.deeper env) :=
  ⟨x.hd, by have := x.dp; simp only [Around.deeper]; omega, by have := x.un; simp only [Around.deeper]; omega, by
    obtain ⟨l, hf⟩ := x.fr
    exact ⟨env, l, by simp only [Around.deeper, hf]; rfl, h1, h2, h3, h4⟩⟩

/-- what a call hands back -/
def retOf : Fl → V
  | .ret v => v
  | _ => .none

/-- a call of a def: its body under its own frame -/
theorem fn_core {a : Addr} {fd : FuncData} {body : List Stmt} {names : List Str} {vs ws : List V} {kw : List Value → List (Str × Value)} {pos : List Value → List Value} (F : FnOk B a fd body) (hp : paramsOk fd.scope names = true) (hlen : names.length = ws.length)
    (hb : ∀ H h xs, SB B st H h → RepAll H h xs vs → ∃ ys, (∀ S, peek B.K S (bindArgs fd ⟨pos xs, kw xs⟩) = some (names.zip ys)) ∧ RepAll H h ys ws)
    (hx : ∀ L, EX B n (callEnvC fd L a) m (fun x => (names.zip ws).lookup x) st body (fun fl _ st' => Ψ (retOf fl) st')) :
    ∀ A, Rm0 (n + 1) A → ∀ E s H xs, SB B st H s.heap → RepAll H s.heap xs vs →
    wpAny (model B.prog B.w) A (call (.ref a) (pos xs) (kw xs)) (fun z s' => ∃ v st' H' h' tk, s' = { s with heap := h', toks := tk } ∧ Ψ v st' ∧ SB B st' H' h' ∧ CS m H s.heap H' h' ∧ Rep H' h' z v) E s := fun A hA E s H xs S r => by
  obtain ⟨o, ho, hdat⟩ := F.at_
  obtain ⟨ys, hbind, hr⟩ := hb H s.heap xs S r
  have hKX : B.K.In s.heap := B.KX.keeps S.base.keep
  refine wpAny_call (codeAny_call_function (by have := hA.dp; simp only [recursionLimit]; omega) (hKX _ _ ho) hdat F.co F.gen F.body (F.cd.keeps S.base.keep) ?_)
  refine (Looks.of_peek (M := model B.prog B.w) hKX (hbind _)).here ?_
  have hplen : names.length = ys.length := by rw [hlen, hr.length]
  have hnm : (names.zip ys).map (·.1) = names := List.map_fst_zip (Nat.le_of_eq hplen)
  simp only [paramsOk, Bool.and_eq_true, List.all_eq_true, Bool.or_eq_true, beq_iff_eq] at hp
  have hnd : ((names.zip ys).map (·.1)).Nodup := by rw [hnm]; exact nodupB_iff hp.1
  have hkinds : ∀ x ∈ names.zip ys, fd.scope.names.lookup x.1 = some .local ∨ (fd.scope.names.lookup x.1 = some .cell ∧ ((cellsFrom (s.heap.objs.size + 1) fd.scope.names []).lookup x.1).isSome = true) := fun x hx => by
    have hx' : x.1 ∈ names := by rw [← hnm]; exact List.mem_map.mpr ⟨x, hx, rfl⟩
    rcases hp.2 _ hx' with h | h
    · exact .inl h
    · obtain ⟨c, hc⟩ := cellsFrom_has (m := s.heap.objs.size + 1) (mem_of_lookup h)
      exact .inr ⟨h, by rw [hc]; rfl⟩
  rw [F.clo]
  refine wpAny_newFunctionEnv_cells F.kind hkinds fun env he s₁ x => ?_
  have he' : env = callEnvC fd s.heap.objs.size a := he
  have hLC : env.locals = s.heap.objs.size := by rw [he']; rfl
  have hcells : env.cells = cellsFrom (s.heap.objs.size + 1) fd.scope.names [] := by rw [he']; rfl
  have hscope : env.scope = fd.scope := by rw [he']; rfl
  obtain ⟨h₁, tk₁, e₁⟩ := x.toInCall.same
  have kp : ∀ b o, s.heap.get? b = some o → s₁.heap.get? b = some o := x.toInCall.keep
  have S₁ := S.keeps kp
  have hkindOf : ∀ y, env.kindOf y = fd.scope.names.lookup y := fun y => by show env.scope.names.lookup y = _; rw [hscope]
  have newo : ∀ b ∈ own env, s.heap.objs.size ≤ b := fun b hb => by
    rcases List.mem_cons.mp hb with rfl | hb
    · rw [hLC]; exact Nat.le_refl _
    · obtain ⟨p, hp, rfl⟩ := List.mem_map.mp hb
      have := x.above p.1 p.2 hp
      rw [hLC] at this
      exact Nat.le_of_lt this
  have none0 : ∀ b ∈ own env, s.heap.get? b = none := fun b hb => by
    cases e : s.heap.get? b with
    | none => rfl
    | some o => exact absurd (Heap.lt_size e) (Nat.not_lt.mpr (newo b hb))
  have en : EnvRep env (fun x => (names.zip ws).lookup x) H s₁.heap := by
    refine ⟨by rw [hscope]; exact F.kind, by rw [he']; exact F.gl, by rw [he']; exact F.bi, ⟨_, x.toInCall.ns, fun y v hy hv => ?_⟩, fun y v hy hv => ?_, fun y c hc => ?_, fun y hy => ?_, x.apart⟩
    · obtain ⟨z, hz, rz⟩ := lookup_zip_rep hr hv
      refine ⟨z, ?_, rz.ext (.of_keeps kp)⟩
      rw [bindL_lookup _ _ _ _ hy hnd, hz]; rfl
    · obtain ⟨z, hz, rz⟩ := lookup_zip_rep hr hv
      have hmem : y ∈ names := by rw [← hnm]; exact List.mem_map.mpr ⟨_, mem_of_lookup hz, rfl⟩
      have hcell : fd.scope.names.lookup y = some .cell := by
        rcases hp.2 y hmem with h | h
        · rw [hkindOf, h] at hy; rcases hy with hy | hy <;> cases hy
        · exact h
      obtain ⟨c, hc⟩ := cellsFrom_has (m := s.heap.objs.size + 1) (mem_of_lookup hcell)
      rw [← hcells] at hc
      refine ⟨c, z, hc, ?_, rz.ext (.of_keeps kp)⟩
      have := x.cell y c hc
      rw [bindC_lookup _ _ _ _ (by rw [hkindOf, hcell]; simp) hnd, hz] at this
      exact this
    · have hl : env.cells.lookup y = some c := by
        rw [hcells] at hc ⊢
        exact cellsFrom_lookup (nodupB_iff F.nd) hc
      exact ⟨_, x.cell y c hl⟩
    · have hcell : fd.scope.names.lookup y = some .cell := by
        rw [hkindOf] at hy
        rcases hy with hy | hy
        · exact hy
        · have := List.all_eq_true.mp F.nofree _ (mem_of_lookup hy)
          simp at this
      obtain ⟨c, hc⟩ := cellsFrom_has (m := s.heap.objs.size + 1) (mem_of_lookup hcell)
      exact ⟨c, by rw [hcells]; exact hc⟩
  have hownF : OwnF B env := fun b hb => by
    cases e : B.h₀.get? b with
    | none => rfl
    | some o => have := S.base.keep b o e; rw [none0 b hb] at this; cases this
  refine ⟨B.lim.keeps S₁.base.keep, codeAny_func ?_⟩
  have hA' : Rm n (A.deeper env) := hA.deeper env (by rw [hscope]; exact F.gen) (by rw [hscope]; exact F.co) (by rw [he']; exact F.bi) (by rw [he']; exact F.gl)
  rw [he'] at hA' hownF en
  subst e₁
  rw [he']
  refine wpAny_mono (hx s.heap.objs.size (A.deeper _) hA' hownF _ _ H ⟨S₁.base, S₁.sto, en⟩) (fun f s₂ q => ?_) fun _ _ e => e
  obtain ⟨fl, ρ', st', H', h', tk, rfl, hp', hf, S', es⟩ := q
  refine ⟨retOf fl, st', H', h', tk, rfl, hp', S'.sb, ⟨es.pre, es.xs, fun b hb hn => ?_, fun b o hm e => es.keep b o (fun ho => ?_) hm (kp b o e)⟩, ?_⟩
  · have := es.new b hb hn
    cases e : s.heap.get? b with
    | none => rfl
    | some o => have e' := kp b o e; rw [this] at e'; cases e'
  · have := none0 b (he' ▸ ho)
    rw [e] at this; cases this
  · cases hf with
    | next => exact .none
    | brk => exact .none
    | cont => exact .none
    | ret r => exact r

theorem fn_om {a : Addr} {fd : FuncData} {body : List Stmt} {names : List Str} {vs ws : List V} {kw : List Value → List (Str × Value)} {pos : List Value → List Value} (F : FnOk B a fd body) (hp : paramsOk fd.scope names = true) (hlen : names.length = ws.length)
    (hb : ∀ H h xs, SB B st H h → RepAll H h xs vs → ∃ ys, (∀ S, peek B.K S (bindArgs fd ⟨pos xs, kw xs⟩) = some (names.zip ys)) ∧ RepAll H h ys ws)
    (hx : ∀ L, EX B n (callEnvC fd L a) m (fun x => (names.zip ws).lookup x) st body (fun fl _ st' => Ψ (retOf fl) st')) :
    OM B (n + 1) m st (fun xs => call (.ref a) (pos xs) (kw xs)) vs Ψ := fun A hA E s H xs S r => fn_core F hp hlen hb hx A hA.rm0 E s H xs S r

/-- a call that leaves all that stood before is pure -/
theorem OM.pl {t : List Value → Sem Value} {vs : List V} {c : V} (h : OM B n st.length st t vs (fun v st' => v = c ∧ ∃ N, st' = st ++ N)) (hc : ∀ H H' h x, H'.hs.take H.hs.length = H.hs → H'.xs = H.xs → Rep H' h x c → Rep H h x c) : PL B n st t vs c := fun A hA E s H xs S r => by
  refine wpAny_mono (h A hA E s H xs S r) (fun x s₁ q => ?_) fun _ _ e => e
  obtain ⟨v, st', H', h', tk, rfl, ⟨rfl, N, rfl⟩, S', cs, r'⟩ := q
  refine ⟨⟨h', tk, rfl, fun b o e => cs.keep b o (fun k hk hb => ?_) e⟩, hc H H' h' x ?_ cs.xs r'⟩
  · have := (List.getElem?_eq_some_iff.mp hb).1
    rw [S.sto.len] at this; omega
  · obtain ⟨N', e⟩ := cs.pre
    rw [e]; simp

/-- plain data without handles means the same under any handles -/
def flat : V → Bool
  | .none | .bool _ | .int _ | .str _ => true
  | _ => false
theorem flat_rep {H H' : Hd} {h : Heap} {x : Value} {c : V} (hf : flat c = true) (r : Rep H' h x c) : Rep H h x c := by
  cases r <;> first | (simp [flat] at hf; done) | constructor
theorem OM.plFlat {t : List Value → Sem Value} {vs : List V} {c : V} (hf : flat c = true) (h : OM B n st.length st t vs (fun v st' => v = c ∧ ∃ N, st' = st ++ N)) : PL B n st t vs c := h.pl fun _ _ _ _ _ _ r => flat_rep hf r

variable {env : Env} {ρ : Nm}
/-- a def of the text called by its name -/
theorem ld_fn {A : Around} {E : Value → Shared → Prop} {s : Shared} {H : Hd} {x : Str} {np : Pos} {a : Addr} {fd : FuncData} {body : List Stmt} {Q : Value → Shared → Prop} (F : FnOk B a fd body) (S : Sim B env ρ st H s.heap) (hk : env.kindOf x = some .globalImplicit) (hv : B.mg x = some (.ref a)) (h : Q (.ref a) s) (hd : (x == ("__debug__" : Str)) = false := by kernel_rfl) :
    wpAny (model B.prog B.w) A (eval (.Name x np) env) Q E s := ld_glob S hk (by rw [hv]; rfl) h hd

theorem pm_callFn {x : Str} {np pos : Pos} {e : Expr} {es : List Expr} {a : Addr} {fd : FuncData} {body : List Stmt} (F : FnOk B a fd body) (hk : env.kindOf x = some .globalImplicit) (hv : B.mg x = some (.ref a))
    (ha : PMs B n env m ρ st (e :: es) (fun vs st' => OM B n m st' (fun xs => call (.ref a) xs) vs Ψ)) (hd : (x == ("__debug__" : Str)) = false := by kernel_rfl)
    (he : starEach (e :: es) env = (false, eval e env) :: starEach es env := by rfl) : PM B n env m ρ st (.Call (.Name x np) (e :: es) [] pos) Ψ := fun A hA E s H S => by
  obtain ⟨o, ho, hdat⟩ := F.at_
  refine wpAny_Call_ofName (ld_fn F S hk hv ?_ hd)
  refine callWith_def (o := o) (fd := fd) hdat (wpAny_mono (ha A hA E s H pos S) (fun xs s₁ q => ?_) fun _ _ e => e) he
  obtain ⟨vs, st', H', h', tk, rfl, hp, S', cs, r⟩ := q
  exact ⟨B.KX.keeps S'.base.keep _ _ ho, om_pm hA hp S' cs r⟩
theorem pe_callFn {x : Str} {np pos : Pos} {e : Expr} {es : List Expr} {a : Addr} {fd : FuncData} {body : List Stmt} {vs : List V} {c : V} (F : FnOk B a fd body) (hk : env.kindOf x = some .globalImplicit) (hv : B.mg x = some (.ref a))
    (ha : PEs B n env ρ st (e :: es) vs) (h2 : PL B n st (fun xs => call (.ref a) xs) vs c) (hd : (x == ("__debug__" : Str)) = false := by kernel_rfl)
    (he : starEach (e :: es) env = (false, eval e env) :: starEach es env := by rfl) : PE B n env ρ st (.Call (.Name x np) (e :: es) [] pos) c := fun A hA E s H S => by
  obtain ⟨o, ho, hdat⟩ := F.at_
  refine wpAny_Call_ofName (ld_fn F S hk hv ?_ hd)
  refine callWith_def (o := o) (fd := fd) hdat (wpAny_mono (ha A hA E s H pos S) (fun xs s₁ ⟨k1, r1⟩ => ?_) fun _ _ e => e) he
  have S₁ := S.keeps (kp_get k1)
  exact ⟨B.KX.keeps S₁.base.keep _ _ ho, wpAny_mono (h2 A hA E s₁ H xs S₁.sb r1) (fun z s₂ ⟨k2, r2⟩ => ⟨kp_trans k1 k2, r2⟩) fun _ _ e => e⟩
end
end Mine

-- part Fw15
namespace Mine

/-- what a name of the top means -/
def gname (K : Frag) (x : Str) : Option Value := match K.lookup mainGlobals with
  | some ⟨_, _, .dict es _, _⟩ => nsFind es x
  | _ => none
def hasTop (K : Frag) : Bool := match K.lookup mainGlobals with
  | some ⟨_, _, .dict _ _, _⟩ => true
  | _ => false
theorem mg_of {B : Bs} (ht : hasTop B.K = true) (x : Str) : B.mg x = gname B.K x := by
  unfold gname
  unfold hasTop at ht
  split at ht
  · rename_i c d es n sl h
    obtain ⟨o, es', ep, ho, hd, _, hm⟩ := B.g
    have := B.KX _ _ h
    rw [ho] at this
    cases this
    cases hd
    exact (hm x).symm
  · cases ht
theorem glob_b {B : Bs} {x : Str} {v : Value} (ht : hasTop B.K = true) (hg : gname B.K x = none) (hb : bootBuiltins x = some v) (hx : x ≠ "__name__") : (B.mg x).or (B.mb x) = some v := by
  rw [mg_of ht, hg, B.bb x hx, hb]; rfl
theorem glob_g {B : Bs} {x : Str} {v : Value} (ht : hasTop B.K = true) (hg : gname B.K x = some v) : B.mg x = some v := by rw [mg_of ht, hg]

def fdOf (K : Frag) (a : Addr) : FuncData := match K.lookup a with
  | some ⟨_, _, .func fd, _⟩ => fd
  | _ => default
def bodyOf (fd : FuncData) : List Stmt := match fd.body with
  | .stmts b => b
  | _ => []
def codeOk (K : Frag) (cd : Value) (q : Str) : Bool := match cd with
  | .ref c => (match K.lookup c with
    | some ⟨_, _, .fields vs, _⟩ => (match (vs[1]? : Option Value) with
      | some (Value.str x _) => x == q
      | _ => false)
    | _ => false)
  | _ => false
def fnOkB (K : Frag) (a : Addr) : Bool :=
  (match K.lookup a with | some ⟨_, _, .func _, _⟩ => true | _ => false) && (match (fdOf K a).body with | .stmts _ => true | _ => false) && (fdOf K a).closure.isEmpty && (fdOf K a).globals == mainGlobals && (fdOf K a).builtins == builtinsNs &&
  codeOk K (fdOf K a).code (fdOf K a).qualname && !(fdOf K a).scope.isCoroutine && !(fdOf K a).scope.isGenerator && (fdOf K a).scope.kind == .function && nodupB ((fdOf K a).scope.names.map (·.1)) && ((fdOf K a).scope.names.all fun x => x.2 != .free)
theorem fnOk_of {B : Bs} {a : Addr} (h : fnOkB B.K a = true) : FnOk B a (fdOf B.K a) (bodyOf (fdOf B.K a)) := by
  simp only [fnOkB, Bool.and_eq_true, beq_iff_eq, Bool.not_eq_eq_eq_not, Bool.not_true] at h
  obtain ⟨⟨⟨⟨⟨⟨⟨⟨⟨⟨h1, h2⟩, h3⟩, h4⟩, h5⟩, h6⟩, h7⟩, h8⟩, h9⟩, h10⟩, h11⟩ := h
  refine ⟨?_, ?_, by simpa using h3, h4, h5, ?_, h7, h8, h9, h10, h11⟩
  · unfold fdOf
    split at h1
    · rename_i c d fd sl ho
      exact ⟨_, ho, rfl⟩
    · cases h1
  · unfold bodyOf
    split at h2
    · rename_i b hb; rw [hb]
    · cases h2
  · unfold codeOk at h6
    split at h6
    · rename_i c hc
      split at h6
      · rename_i c' d vs sl ho
        split at h6
        · rename_i x t hx
          refine ⟨c, _, vs, t, hc, B.KX _ _ ho, rfl, ?_⟩
          rw [hx, eq_of_beq h6]
        · cases h6
      · cases h6
    · cases h6

theorem repAll_ints {H : Hd} {h : Heap} : ∀ {vs : List Value} {ns : List Int}, IntsAre vs ns → RepAll H h vs (ns.map V.int)
  | _, _, .nil => .nil
  | _, _, .cons i t r => .cons (.int i t) (repAll_ints r)

theorem well_list {P : Params} {h : Heap} {a : Addr} {ns : List Int} {vs : List Value} (w : Well P h (.ref a) (ofPy (.list (ns.map .int)))) (hl : h.IsList a vs.toArray) : h.get? a = some (lisObj vs.toArray 0) := by
  obtain ⟨o, ho, hc, n, hd⟩ := hl
  have : ∀ d, ofPy (.list (ns.map .int)) = d → Well P h (.ref a) d → h.get? a = some (lisObj vs.toArray 0) := by
    intro d hd' w
    cases w with
    | list hg _ =>
      rw [ho] at hg; cases hg
      cases hd
      exact ho
    | _ => (simp [ofPy] at hd'; try (first | cases hd' | (rw [ho] at *; simp_all)))
  exact this _ rfl w
end Mine

-- part Fw16
namespace Mine

theorem ints_of_rep {H : Hd} {h : Heap} : ∀ {vs : List Value} {ns : List Int}, RepAll H h vs (ns.map V.int) → IntsAre vs ns
  | _, [], r => by cases r; exact .nil
  | _, i :: ns, r => by
    cases r with
    | cons r1 r => cases r1; exact .cons i _ (ints_of_rep r)

-- data by value, the handles read through the store
mutual
def py (st : Store) : Nat → V → Option PyData
  | _, .none => some .none
  | _, .bool b => some (.bool b)
  | _, .int i => some (.int i)
  | _, .str s => some (.str s)
  | f + 1, .tup l => (pys st f l).map .tuple
  | f + 1, .lst l => (pys st f l).map .list
  | f + 1, .ref k => match st[k]? with
    | some l => (pys st f l).map .list
    | none => none
  | _, _ => none
def pys (st : Store) : Nat → List V → Option (List PyData)
  | _, [] => some []
  | f, v :: vs => match py st f v, pys st f vs with
    | some d, some ds => some (d :: ds)
    | _, _ => none
end

theorem reads_of {H : Hd} {st : Store} {h : Heap} (S : SimH H st h) : ∀ (f : Nat) {x : Value} {v : V} {d : PyData}, Rep H h x v → py st f v = some d → ∃ as, Reads h x d as := by
  have all : ∀ (f : Nat), (∀ {x : Value} {v : V} {d : PyData}, Rep H h x v → py st f v = some d → ∃ as, Reads h x d as) → ∀ {xs : List Value} {vs : List V} {ds : List PyData}, RepAll H h xs vs → pys st f vs = some ds → ∃ as, ReadsAll h xs ds as := by
    intro f ih xs
    induction xs with
    | nil => intro vs ds r hd; cases r; simp [pys] at hd; subst hd; exact ⟨_, .nil⟩
    | cons x xs hi =>
      intro vs ds r hd
      cases r with
      | @cons _ _ v vs r1 r =>
        unfold pys at hd
        cases e1 : py st f v with
        | none => rw [e1] at hd; cases hd
        | some d =>
          cases e2 : pys st f vs with
          | none => rw [e1, e2] at hd; cases hd
          | some ds' =>
            rw [e1, e2] at hd
            cases hd
            obtain ⟨as, q⟩ := ih r1 e1
            obtain ⟨bs, q'⟩ := hi r e2
            exact ⟨_, .cons q q'⟩
  intro f
  induction f with
  | zero => intro x v d r hd; cases r <;> simp [py] at hd <;> subst hd <;> exact ⟨_, by constructor⟩
  | succ f ih =>
    intro x v d r hd
    cases r with
    | none => simp [py] at hd; subst hd; exact ⟨_, .none⟩
    | bool b => simp [py] at hd; subst hd; exact ⟨_, .bool b⟩
    | int i t => simp [py] at hd; subst hd; exact ⟨_, .int i t⟩
    | str s t => simp [py] at hd; subst hd; exact ⟨_, .str s t⟩
    | tup ha ho hr =>
      simp only [py, Option.map_eq_some_iff] at hd
      obtain ⟨ds, e, rfl⟩ := hd
      obtain ⟨as, q⟩ := all f ih hr e
      exact ⟨_, .tuple ho rfl rfl q⟩
    | lst ha ho hr =>
      simp only [py, Option.map_eq_some_iff] at hd
      obtain ⟨ds, e, rfl⟩ := hd
      obtain ⟨as, q⟩ := all f ih hr e
      exact ⟨_, .list ho rfl rfl q⟩
    | @ref k a hk =>
      simp only [py] at hd
      cases hl : st[k]? with
      | none => rw [hl] at hd; cases hd
      | some l =>
        rw [hl] at hd
        simp only [Option.map_eq_some_iff] at hd
        obtain ⟨ds, e, rfl⟩ := hd
        obtain ⟨vs, n, ho, hr⟩ := S.at_ k a l hk hl
        obtain ⟨as, q⟩ := all f ih hr e
        exact ⟨_, .list ho rfl rfl q⟩
    | val x => simp [py] at hd

section
variable {B : Bs} {n : Nat} {st : Store}

theorem o_maxL {a : V} {ns : List Int} {M : Int} (hl : lis st a = some (ns.map V.int)) (hM : M ∈ ns) (hmax : ∀ x ∈ ns, x ≤ M) : PL B n st (fun xs => call (.builtin "max") xs) [a] (.int M) := PL.one fun A hA E s H x S rx => by
  obtain ⟨ad, vs, m, rfl, ho, hr⟩ := lis_at (B := B) S.sto rx hl
  have hi := ints_of_rep hr
  obtain ⟨xs, e⟩ := hi.allInts.items
  have hns : ns = xs.toList.map (·.1) := by rw [← hi.numsOf, ← nums_intItems, ← e]
  have hsz : 0 < xs.size := by
    rcases Nat.eq_zero_or_pos xs.size with h | h
    · have : xs.toList = [] := by simpa using h
      rw [hns, this] at hM; cases hM
    · exact h
  have hL : s.heap.IsList ad (intItems xs) := by rw [← e]; simpa using isList_of ho
  refine max_intList hA.hd hL hsz fun v h' tk hv hk => ?_
  obtain ⟨t, rfl⟩ := intItems_at hv
  obtain ⟨h1, h2⟩ := argBest_gt (numAt xs) (xs.size - 1)
  have e1 : numAt xs (argBest (fun i j => decide (numAt xs i > numAt xs j)) (xs.size - 1)) = M := by
    apply Int.le_antisymm
    · apply hmax
      rw [hns, numAt_eq]; exact getD_mem (by rw [List.length_map, Array.length_toList]; omega)
    · rw [hns] at hM
      obtain ⟨p, hp, rfl⟩ := List.mem_map.mp hM
      obtain ⟨i, hi'⟩ := List.getElem?_of_mem hp
      have hil := (List.getElem?_eq_some_iff.mp hi').1
      have : numAt xs i = p.1 := by rw [numAt]; simp at hi' hil; simp [hi']
      rw [← this]
      exact h2 i (by simp at hil; omega)
  rw [e1]
  exact ⟨⟨h', tk, rfl, hk⟩, .int ..⟩
theorem o_minL {a : V} {ns : List Int} {M : Int} (hl : lis st a = some (ns.map V.int)) (hM : M ∈ ns) (hmin : ∀ x ∈ ns, M ≤ x) : PL B n st (fun xs => call (.builtin "min") xs) [a] (.int M) := PL.one fun A hA E s H x S rx => by
  obtain ⟨ad, vs, m, rfl, ho, hr⟩ := lis_at (B := B) S.sto rx hl
  have hi := ints_of_rep hr
  obtain ⟨xs, e⟩ := hi.allInts.items
  have hns : ns = xs.toList.map (·.1) := by rw [← hi.numsOf, ← nums_intItems, ← e]
  have hsz : 0 < xs.size := by
    rcases Nat.eq_zero_or_pos xs.size with h | h
    · have : xs.toList = [] := by simpa using h
      rw [hns, this] at hM; cases hM
    · exact h
  have hL : s.heap.IsList ad (intItems xs) := by rw [← e]; simpa using isList_of ho
  refine min_intList hA.hd hL hsz fun v h' tk hv hk => ?_
  obtain ⟨t, rfl⟩ := intItems_at hv
  obtain ⟨h1, h2⟩ := argBest_lt (numAt xs) (xs.size - 1)
  have e1 : numAt xs (argBest (fun i j => decide (numAt xs i < numAt xs j)) (xs.size - 1)) = M := by
    apply Int.le_antisymm
    · rw [hns] at hM
      obtain ⟨p, hp, rfl⟩ := List.mem_map.mp hM
      obtain ⟨i, hi'⟩ := List.getElem?_of_mem hp
      have hil := (List.getElem?_eq_some_iff.mp hi').1
      have : numAt xs i = p.1 := by rw [numAt]; simp at hi' hil; simp [hi']
      rw [← this]
      exact h2 i (by simp at hil; omega)
    · apply hmin
      rw [hns, numAt_eq]; exact getD_mem (by rw [List.length_map, Array.length_toList]; omega)
  rw [e1]
  exact ⟨⟨h', tk, rfl, hk⟩, .int ..⟩
theorem o_sumL {a : V} {ns : List Int} (hl : lis st a = some (ns.map V.int)) : PL B n st (fun xs => call (.builtin "sum") xs) [a] (.int ns.sum) := PL.one fun A hA E s H x S rx => by
  obtain ⟨ad, vs, m, rfl, ho, hr⟩ := lis_at (B := B) S.sto rx hl
  have hi := ints_of_rep hr
  obtain ⟨xs, e⟩ := hi.allInts.items
  have hns : ns = xs.toList.map (·.1) := by rw [← hi.numsOf, ← nums_intItems, ← e]
  have hL : s.heap.IsList ad (intItems xs) := by rw [← e]; simpa using isList_of ho
  refine sum_intListG hA.hd hL fun h' tk t' hk => ?_
  have e2 : preSum (numAt xs) xs.size = ns.sum := by rw [preSum_eq, List.take_of_length_le (by simp), hns]
  rw [e2]
  exact ⟨⟨h', tk, rfl, hk⟩, .int ..⟩
theorem o_max2 {a b : Int} : PL B n st (fun xs => call (.builtin "max") xs) [.int a, .int b] (.int (if b > a then b else a)) := PL.two fun A hA E s H x y S rx ry => by
  cases rx; cases ry
  refine max_two_ints hA.hd fun h' tk hk => ⟨⟨h', tk, rfl, hk⟩, ?_⟩
  by_cases hc : b > a
  · rw [if_pos hc, if_pos hc]; exact .int ..
  · rw [if_neg hc, if_neg hc]; exact .int ..

theorem o_eqD {a b : V} {da db : PyData} (f g : Nat) (ha : py st f a = some da) (hb : py st g b = some db) (sa : SeqAt.shaped da = true) (sb : SeqAt.shaped db = true) : P2 B n st (compareOp .Eq) a b (.bool (PyData.eqv da db)) := fun A hA E s H x y S rx ry => by
  obtain ⟨as, ra⟩ := reads_of S.sto f rx ha
  obtain ⟨bs, rb⟩ := reads_of S.sto g ry hb
  exact eq_dataH ra rb sa sb (by have := hA.un; simp only [cLine]; omega) ⟨kp_refl _, .bool _⟩
theorem o_neD {a b : V} {da db : PyData} (f g : Nat) (ha : py st f a = some da) (hb : py st g b = some db) (sa : SeqAt.shaped da = true) (sb : SeqAt.shaped db = true) : P2 B n st (compareOp .NotEq) a b (.bool (!PyData.eqv da db)) := fun A hA E s H x y S rx ry => by
  obtain ⟨as, ra⟩ := reads_of S.sto f rx ha
  obtain ⟨bs, rb⟩ := reads_of S.sto g ry hb
  exact ne_dataH ra rb sa sb (by have := hA.un; simp only [cLine]; omega) ⟨kp_refl _, .bool _⟩
/-- equal data -/
theorem o_eqSame {a b : V} {d : PyData} (f g : Nat) (ha : py st f a = some d) (hb : py st g b = some d) (sa : SeqAt.shaped d = true) : P2 B n st (compareOp .Eq) a b (.bool true) := by
  have := o_eqD (B := B) (n := n) f g ha hb sa sa
  rwa [SeqAt.eqv_refl d (SeqAt.canLay_of_shaped sa)] at this
theorem o_neSame {a b : V} {d : PyData} (f g : Nat) (ha : py st f a = some d) (hb : py st g b = some d) (sa : SeqAt.shaped d = true) : P2 B n st (compareOp .NotEq) a b (.bool false) := by
  have := o_neD (B := B) (n := n) f g ha hb sa sa
  rwa [SeqAt.eqv_refl d (SeqAt.canLay_of_shaped sa)] at this
end
end Mine

-- part Fw17
namespace Mine
section
variable {B : Bs} {n m : Nat} {env : Env} {ρ : Nm} {st : Store} {Φ : Fl → Nm → Store → Prop} {Ψ : V → Store → Prop}

theorem nm_ne {ρ : Nm} {x y : Str} {v w : V} (h : ρ y = some w) (hne : y ≠ x := by decide +kernel) : upd ρ x v y = some w := by unfold upd; rw [if_neg hne]; exact h
theorem nm_eq {ρ : Nm} {x : Str} {v : V} : upd ρ x v x = some v := by unfold upd; rw [if_pos rfl]

/-- a local name -/
theorem pn {x : Str} {pos : Pos} {v : V} (hv : ρ x = some v) (hk : env.kindOf x = some .local := by kernel_rfl)
    (hd : (x == ("__debug__" : Str)) = false := by kernel_rfl) (hc : (x == ("__classdict__" : Str)) = false := by kernel_rfl) : PE B n env ρ st (.Name x pos) v := pe_name hv (.inl hk) hd hc
/-- a name in a cell of its own -/
theorem pc {x : Str} {pos : Pos} {v : V} (hv : ρ x = some v) (hk : env.kindOf x = some .cell := by kernel_rfl)
    (hd : (x == ("__debug__" : Str)) = false := by kernel_rfl) (hc : (x == ("__classdict__" : Str)) = false := by kernel_rfl) : PE B n env ρ st (.Name x pos) v := pe_name hv (.inr (.inl hk)) hd hc
/-- a name of a frame around -/
theorem pf {x : Str} {pos : Pos} {v : V} (hv : ρ x = some v) (hk : env.kindOf x = some .free := by kernel_rfl)
    (hd : (x == ("__debug__" : Str)) = false := by kernel_rfl) (hc : (x == ("__classdict__" : Str)) = false := by kernel_rfl) : PE B n env ρ st (.Name x pos) v := pe_name hv (.inr (.inr hk)) hd hc

theorem xa {x : Str} {px pos : Pos} {e : Expr} (h : PM B n env m ρ st e (fun v st' => Φ .next (upd ρ x v) st')) (hk : env.kindOf x = some .local := by kernel_rfl) (hs : swapsWith e (some (.Name x px)) pos.line env = pure false := by rfl) :
    EX1 B n env m ρ st (.Assign [.Name x px] e pos) Φ := x_assign h (.inl hk) hs
theorem xc {x : Str} {px pos : Pos} {e : Expr} (h : PM B n env m ρ st e (fun v st' => Φ .next (upd ρ x v) st')) (hk : env.kindOf x = some .cell := by kernel_rfl) (hs : swapsWith e (some (.Name x px)) pos.line env = pure false := by rfl) :
    EX1 B n env m ρ st (.Assign [.Name x px] e pos) Φ := x_assign h (.inr hk) hs

/-- an if whose ways meet again -/
theorem x_ifJ {t : Expr} {b o : List Stmt} {pos : Pos} {c : Bool} (J : Nm → Store → Prop) (h1 : PT B n env ρ st t c) (h2 : c = true → EX B n env m ρ st b (fun f ρ st => f = .next ∧ J ρ st)) (h3 : c = false → EX B n env m ρ st o (fun f ρ st => f = .next ∧ J ρ st))
    (h4 : ∀ ρ st, J ρ st → Φ .next ρ st) : EX1 B n env m ρ st (.If t b o pos) Φ :=
  x_if h1 (fun h => (h2 h).mono fun f ρ st q => by rw [q.1]; exact h4 _ _ q.2) (fun h => (h3 h).mono fun f ρ st q => by rw [q.1]; exact h4 _ _ q.2)

/-- a comparison whose left side is no pure one -/
theorem pm_cmp {l r : Expr} {op : CmpOp} {pos : Pos} (h1 : PM B n env m ρ st l (fun a st' => ∃ b c, PE B n env ρ st' r b ∧ P2 B n st' (compareOp op) a b c ∧ Ψ c st')) (hm : behindInMarks op r = false := by with_unfolding_all rfl) : PM B n env m ρ st (.Compare l [op] [r] pos) Ψ := fun A hA E s H S => by
  refine wpAny_Compare1 (wpAny_mono (h1 A hA E s H S) (fun x s₁ q => ?_) fun _ _ e => e) hm
  obtain ⟨a, st', H', h', tk, rfl, ⟨b, c, h2, h3, hp⟩, S', cs, r⟩ := q
  refine wpAny_mono (h2 A hA E _ H' S') (fun y s₂ ⟨k2, r2⟩ => ?_) fun _ _ e => e
  refine wpAny_mono (h3 A hA E s₂ H' x y (S'.sb.keeps (kp_get k2)) (r.ext (kp_dk k2 H')) r2) (fun z s₃ ⟨k3, r3⟩ => ?_) fun _ _ e => e
  have kk := kp_trans k2 k3
  obtain ⟨h₂, tk₂, rfl, kp⟩ := kk
  exact ⟨c, st', H', h₂, tk₂, rfl, hp, S'.keeps kp, cs.trans (.of_keeps kp) S'.sto, r3⟩
theorem o_lenN {a : V} {l : List V} {k : Nat} (hl : lis st a = some l) (hk : l.length = k) (hfit : k < 2 ^ 62) : PL B n st (fun xs => call (.builtin "len") xs) [a] (.int k) := by subst hk; exact o_len hl hfit
theorem o_neF {a : Int} : P2 B n st (compareOp .NotEq) (.int a) (.int a) (.bool false) := by have := o_ne (B := B) (n := n) (st := st) (a := a) (b := a); simpa using this
theorem o_eqT {a : Int} : P2 B n st (compareOp .Eq) (.int a) (.int a) (.bool true) := by have := o_eq (B := B) (n := n) (st := st) (a := a) (b := a); simpa using this
theorem o_ltD {a b : Int} {c : Bool} (h : decide (a < b) = c) : P2 B n st (compareOp .Lt) (.int a) (.int b) (.bool c) := h ▸ o_lt
end
end Mine

-- part Fw18
namespace Mine
section
variable {B : Bs} {n m : Nat} {env : Env} {ρ : Nm} {st : Store} {Φ : Fl → Nm → Store → Prop} {Ψ : V → Store → Prop}

/-- the namespace of a comprehension is let go -/
theorem Sim.but {H : Hd} {h h' : Heap} {C : Addr} {q : Str → Option Value} (S : Sim B env ρ st H h) (hn : h.Ns C q) (hC0 : B.h₀.get? C = none) (hL : env.locals ≠ C) (hs : Heap.SameBut C h h') : Sim B env ρ st H h' ∧ DKeep H h H h' := by
  have ks : ∀ b o, IsSeq o → h.get? b = some o → h'.get? b = some o := fun b o hq e => hs.extBut b o (fun e' => by
    subst e'
    obtain ⟨o', es, ep, ho', hd, _⟩ := hn
    rw [e] at ho'; cases ho'
    obtain ⟨_, _, hq⟩ := hq
    rw [hd] at hq; cases hq) e
  have kc : ∀ {c : Addr} {v : Option Value}, h.IsCell c v → c ≠ C := fun hc e => by
    subst e
    obtain ⟨o, es, ep, ho, hd, _⟩ := hn
    obtain ⟨o', ho', hd'⟩ := hc
    rw [ho] at ho'; cases ho'; rw [hd] at hd'; cases hd'
  refine ⟨⟨⟨fun b o e => hs.extBut b o (fun e' => by subst e'; rw [hC0] at e; cases e) (S.base.keep b o e), S.base.new⟩, S.sto.keepSeq ks, S.en.kind, S.en.gl, S.en.bi, ?_, fun z w hz hw => ?_, fun z c hz => ?_, S.en.has, S.en.apart⟩, dk_seq ks⟩
  · obtain ⟨q', hm, hr⟩ := S.en.loc
    exact ⟨q', hm.sameBut hs hL, fun z w hz hw => let ⟨y, hy, r⟩ := hr z w hz hw; ⟨y, hy, r.ext (dk_seq ks)⟩⟩
  · obtain ⟨c, y', h1, h2, h3⟩ := S.en.cell z w hz hw
    exact ⟨c, y', h1, h2.sameBut hs (kc h2), h3.ext (dk_seq ks)⟩
  · obtain ⟨w, hc⟩ := S.en.cells z c hz
    exact ⟨w, hc.sameBut hs (kc hc)⟩

/-- a list comprehension gives these -/
def PC (B : Bs) (n : Nat) (env : Env) (ρ : Nm) (st : Store) (e : Expr) (out : List V) : Prop :=
  ∃ elt target iter ifs gs scope pos, e = .ListComp elt (⟨target, iter, ifs, 0⟩ :: gs) scope pos ∧ (∀ x, foldedSetIterable iter env x = pure x) ∧ okScope env scope = true ∧
    ∀ A, Rm n A → ∀ (E : Value → Shared → Prop) (s : Shared) (H : Hd) (RR : Value → Addr → Result → Shared → Prop), Sim B env ρ st H s.heap →
      (∀ D C h' tk m, s.heap.get? D = none → s.heap.get? C = none → D ≠ C → h'.Ns C m → AccAt D out ⟨H.hs, [D] ++ H.xs⟩ h' → (∀ b o, s.heap.get? b = some o → h'.get? b = some o) → RR (.ref D) C (.ok .next) { s with heap := h', toks := tk }) →
      wpAny (model B.prog B.w) A (eval iter env) (fun xv s₁ => wpAny (model B.prog B.w) A (pyIter xv) (fun it s₂ => wpAny (model B.prog B.w) A (newList []) (fun acc s₃ => wpAny (model B.prog B.w) A (newFunctionEnv scope env.globals (closOf env scope.names []) [] env.qual none .none (some env)) (fun cenv s₄ =>
        codeAny (model B.prog B.w) A (.compStart (.ListComp elt (⟨target, iter, ifs, 0⟩ :: gs) scope pos) 0 it acc { cenv with scope := relabel scope env }) (RR acc cenv.locals) s₄) E s₃) E s₂) E s₁) E s

theorem PC.pe {e : Expr} {out : List V} (h : PC B n env ρ st e out) : PE B n env ρ st e (.lst out) := fun A hA E s H S => by
  obtain ⟨elt, target, iter, ifs, gs, scope, pos, rfl, hs, ok, h⟩ := h
  obtain ⟨f1, f2, f3⟩ := okScope_facts ok
  rw [eval_ListComp]
  refine wpAny_comprehension_free (use := none) rfl hs (hclos_of S.en ok) f1 (hnames_of f2) (h A hA E s H (fun acc C => compPost (model B.prog B.w) A E none _ acc C) S ?_)
  intro D C h' tk m hD hC hDC hn acc kp
  refine ⟨m, hn, fun h'' hs'' => ?_⟩
  obtain ⟨⟨vs', q, ho, hr⟩, hDH⟩ := accAt_end S.sto hD hDC hn acc hs''
  exact ⟨⟨h'', tk, rfl, fun b o e => hs''.extBut b o (fun e' => by subst e'; rw [hC] at e; cases e) (kp b o e)⟩, .lst hDH ho hr.dropX⟩

theorem PC.pm {e : Expr} {out : List V} (h : PC B n env ρ st e out) (hp : Ψ (.ref st.length) (st ++ [out])) : PM B n env m ρ st e Ψ := fun A hA E s H S => by
  obtain ⟨elt, target, iter, ifs, gs, scope, pos, rfl, hs, ok, h⟩ := h
  obtain ⟨f1, f2, f3⟩ := okScope_facts ok
  rw [eval_ListComp]
  refine wpAny_comprehension_free (use := none) rfl hs (hclos_of S.en ok) f1 (hnames_of f2) (h A hA E s H (fun acc C => compPost (model B.prog B.w) A E none _ acc C) S ?_)
  intro D C h' tk q hD hC hDC hn acc kp
  refine ⟨q, hn, fun h'' hs'' => ?_⟩
  obtain ⟨⟨vs', q, ho, hr⟩, hDH⟩ := accAt_end S.sto hD hDC hn acc hs''
  have kp' : ∀ b o, s.heap.get? b = some o → h''.get? b = some o := fun b o e => hs''.extBut b o (fun e' => by subst e'; rw [hC] at e; cases e) (kp b o e)
  obtain ⟨S2, cs, r⟩ := sim_new (m := m) S kp' hD ho (l := out) (hr.move)
  exact ⟨_, _, _, h'', tk, rfl, hp, S2, cs, r⟩

/-- x = [...]: the store is made ahead of the variables' end -/
theorem xu {e : Expr} {out : List V} {y : Str} {py spos : Pos} (h : PC B n env ρ st e out) (hp : Φ .next (upd ρ y (.lst out)) st) (hk : env.kindOf y = some .local := by kernel_rfl) (hsw : swapsWith e (some (.Name y py)) spos.line env = pure true := by kernel_rfl) : EX1 B n env m ρ st (.Assign [.Name y py] e spos) Φ := fun A hA O E s H S => by
  obtain ⟨elt, target, iter, ifs, gs, scope, pos, rfl, hs, ok, h⟩ := h
  obtain ⟨f1, f2, f3⟩ := okScope_facts ok
  rw [exec_Assign_Name_used _ _ _ _ hsw]
  refine wpAny_bind (wpAny_standAt (wpAny_bind ?_))
  show wpAny _ A (do let _ ← comprehension (.ListComp elt (⟨target, iter, ifs, 0⟩ :: gs) scope pos) scope env _ (newList []) false (eval iter env) (some (assign (.Name y py) env))) _ _ s
  refine wpAny_bind (wpAny_mono (wpAny_comprehension_free (use := some (assign (.Name y py) env)) (Q := fun _ s' => _) rfl hs (hclos_of S.en ok) f1 (hnames_of f2) (h A hA E s H (fun acc C => compPost (model B.prog B.w) A E (some (assign (.Name y py) env)) _ acc C) S ?_)) (fun _ s' hq => wpAny_pure (wpAny_pure hq)) fun _ _ e => e)
  intro D C h' tk q hD hC hDC hn acc kp
  show wpAny _ A (assign (.Name y py) env (.ref D)) _ _ _
  have S' := S.keeps kp
  obtain ⟨⟨vs', q', ho, hr⟩, hDH⟩ := accAt_end S.sto hD hDC hn acc (h'' := h') (Heap.SameBut.refl _ _)
  have hlive : ∀ b, wrt env [y] b → b ≠ C := fun b hb e => by
    subst e
    obtain ⟨o, ho⟩ := S.en.live _ (wrt_own hb)
    rw [hC] at ho; cases ho
  have hC0 : B.h₀.get? C = none := by
    cases e : B.h₀.get? C with
    | none => rfl
    | some o => rw [S.base.keep C o e] at hC; cases hC
  refine wpAny_assign_Name (st_name (xs := [y]) (v := .lst out) S' (O.own _) (by simp) (.inl hk) (.lst hDH ho hr.dropX) fun h₂ tk₂ S₂ kp₂ => ?_)
  have hn₂ : h₂.Ns C q := hn.at' fun o e => kp₂ C o (fun hw => hlive C hw rfl) e
  refine ⟨q, hn₂, fun h₃ hs₃ => ?_⟩
  obtain ⟨S₃, dk₃⟩ := S₂.but hn₂ hC0 (hlive _ (.inl rfl)) hs₃
  refine ⟨.next, _, st, H, h₃, tk₂, rfl, hp, .next, S₃, ?_⟩
  refine (es_wrt (H := H) (xs := [y]) (h := s.heap) (h' := h₃) fun b o hb e => ?_)
  exact hs₃.extBut b o (fun e' => by subst e'; rw [hC] at e; cases e) (kp₂ b o hb (kp b o e))

theorem pc_comp0 {elt target iter : Expr} {ifs : List Expr} {scope : Scope} {pos : Pos} {vs : List V} {Cond : Store → Prop} {Tg : Expr → Prop} {pl : Bool} {xs : List Str} (hiter : PI B n env ρ st iter vs Cond Tg pl) (htg : Tg target) (ok : okScope env scope = true) (hxs : ∀ x ∈ xs, scope.names.lookup x = some .local ∨ scope.names.lookup x = some .cell)
    (outs : List (List V)) (hlen : outs.length = vs.length)
    (hturn : ∀ (i : Nat) v out, vs[i]? = some v → outs[i]? = some out → ∀ C, ∃ ρ' p w, PA B n (cEnv scope C env) st target v xs (restr scope ρ) ρ' ∧ PTs B n (cEnv scope C env) ρ' st ifs p ∧ (p = true → PE B n (cEnv scope C env) ρ' st elt w) ∧ out = (if p then [w] else []) ∧ ∀ y u, restr scope ρ y = some u → ρ' y = some u)
    (hsz : (outs.flatten).length ≤ sizeLine) (hs : ∀ x, foldedSetIterable iter env x = pure x := by intro _; rfl) :
    PC B n env ρ st (.ListComp elt [⟨target, iter, ifs, 0⟩] scope pos) outs.flatten :=
  ⟨elt, target, iter, ifs, [], scope, pos, rfl, hs, ok, fun A hA E s H RR S hRR => comp_block1 (RR := RR) hA S hiter htg ok hxs outs hlen hturn hsz hRR⟩

theorem pc_if {α : Type} {elt target iter : Expr} {ifs : List Expr} {scope : Scope} {pos : Pos} {Cond : Store → Prop} {Tg : Expr → Prop} {pl : Bool} (xs : List Str) (as : List α) (c : α → V) (ρ' : α → Str → Option V) (p : α → Bool) (f : α → V) {vs out : List V} (hout : out = (as.filter p).map f) (hiter : PI B n env ρ st iter vs Cond Tg pl) (hvs : vs = as.map c) (htg : Tg target) (ok : okScope env scope = true)
    (hxs : ∀ x ∈ xs, scope.names.lookup x = some .local ∨ scope.names.lookup x = some .cell)
    (hpa : ∀ a ∈ as, ∀ C, PA B n (cEnv scope C env) st target (c a) xs (restr scope ρ) (ρ' a)) (hw : ∀ a ∈ as, ∀ y u, restr scope ρ y = some u → ρ' a y = some u)
    (hp : ∀ a ∈ as, ∀ C, PTs B n (cEnv scope C env) (ρ' a) st ifs (p a)) (hf : ∀ a ∈ as, p a = true → ∀ C, PE B n (cEnv scope C env) (ρ' a) st elt (f a))
    (hsz : as.length ≤ sizeLine) (hs : ∀ x, foldedSetIterable iter env x = pure x := by intro _; rfl) :
    PC B n env ρ st (.ListComp elt [⟨target, iter, ifs, 0⟩] scope pos) out := by
  subst hvs hout
  rw [← flatten_if]
  refine pc_comp0 hiter htg ok hxs _ (by simp) (fun i v out hv ho C => ?_) ?_ hs
  · rw [List.getElem?_map] at hv ho
    cases ha : as[i]? with
    | none => rw [ha] at hv; cases hv
    | some a =>
      rw [ha] at hv ho
      cases hv; cases ho
      have hm := List.mem_of_getElem? ha
      exact ⟨ρ' a, p a, f a, hpa a hm C, hp a hm C, fun h => hf a hm h C, rfl, hw a hm⟩
  · rw [flatten_if, List.length_map]; exact Nat.le_trans (List.length_filter_le _ _) hsz

theorem pc_name {α : Type} {elt iter : Expr} {x : Str} {px : Pos} {ifs : List Expr} {scope : Scope} {pos : Pos} {Cond : Store → Prop} {Tg : Expr → Prop} {pl : Bool} (as : List α) (c : α → V) (p : α → Bool) (f : α → V) {vs out : List V} (hout : out = (as.filter p).map f) (hiter : PI B n env ρ st iter vs Cond Tg pl) (hvs : vs = as.map c) (htg : Tg (.Name x px))
    (hp : ∀ a ∈ as, ∀ C, PTs B n (cEnv scope C env) (upd (restr scope ρ) x (c a)) st ifs (p a)) (hf : ∀ a ∈ as, p a = true → ∀ C, PE B n (cEnv scope C env) (upd (restr scope ρ) x (c a)) st elt (f a))
    (hsz : as.length ≤ sizeLine) (ok : okScope env scope = true := by kernel_rfl) (hx : scope.names.lookup x = some .local := by kernel_rfl) (hs : ∀ x, foldedSetIterable iter env x = pure x := by intro _; rfl) :
    PC B n env ρ st (.ListComp elt [⟨.Name x px, iter, ifs, 0⟩] scope pos) out :=
  pc_if [x] as c (fun a => upd (restr scope ρ) x (c a)) p f hout hiter hvs htg ok (fun y hy => by cases List.mem_singleton.mp hy; exact .inl hx) (fun a _ C => pa_name (List.mem_singleton.mpr rfl) (kind_comp (.inl hx))) (fun a _ => upd_weak (.inl hx) fun _ _ h => h) hp hf hsz hs
/-- two names as the target -/
theorem pc_two {α : Type} {elt iter : Expr} {x y : Str} {px py pt : Pos} {kt : Nat} {ifs : List Expr} {scope : Scope} {pos : Pos} {Cond : Store → Prop} {Tg : Expr → Prop} {pl : Bool} (as : List α) (c d : α → V) (p : α → Bool) (f : α → V) {vs out : List V} (hout : out = (as.filter p).map f) (hiter : PI B n env ρ st iter vs Cond Tg pl) (hvs : vs = as.map fun a => V.tup [c a, d a]) (htg : Tg (.Tuple [.Name x px, .Name y py] kt pt))
    (hp : ∀ a ∈ as, ∀ C, PTs B n (cEnv scope C env) (upd (upd (restr scope ρ) x (c a)) y (d a)) st ifs (p a)) (hf : ∀ a ∈ as, p a = true → ∀ C, PE B n (cEnv scope C env) (upd (upd (restr scope ρ) x (c a)) y (d a)) st elt (f a))
    (hsz : as.length ≤ sizeLine) (ok : okScope env scope = true := by kernel_rfl) (hx : scope.names.lookup x = some .local := by kernel_rfl) (hy : scope.names.lookup y = some .local := by kernel_rfl) (hs : ∀ x, foldedSetIterable iter env x = pure x := by intro _; rfl) :
    PC B n env ρ st (.ListComp elt [⟨.Tuple [.Name x px, .Name y py] kt pt, iter, ifs, 0⟩] scope pos) out :=
  pc_if [x, y] as _ (fun a => upd (upd (restr scope ρ) x (c a)) y (d a)) p f hout hiter hvs htg ok (fun z hz => by simp at hz; rcases hz with rfl | rfl <;> exact .inl (by assumption))
    (fun a _ C => pa_tuple (pas_cons (pa_name (by simp) (kind_comp (.inl hx))) (pas_cons (pa_name (by simp) (kind_comp (.inl hy))) pas_nil))) (fun a _ => upd_weak (.inl hy) (upd_weak (.inl hx) fun _ _ h => h)) hp hf hsz hs

/-- a range by its length -/
theorem pi_rangeN {np pos : Pos} {e : Expr} {k : Nat} {vs : List V} (h1 : PE B n env ρ st e (.int k)) (hvs : vs = (List.range k).map fun j => V.int (j : Nat)) (hb : k < 2 ^ 62)
    (hv : (B.mg "range").or (B.mb "range") = some (.type "range")) (hk : env.kindOf "range" = some .globalImplicit := by kernel_rfl)
    (he : starEach [e] env = [(false, eval e env)] := by rfl) :
    PI B n env ρ st (.Call (.Name "range" np) [e] [] pos) vs (fun _ => True) AnyT true := by
  have := pi_range1 (np := np) (pos := pos) h1 (by omega) hv hk he
  rw [hvs]
  have e : (rng 0 1 (k : Int).toNat).map V.int = (List.range k).map fun j => V.int (j : Nat) := by simp [rng]
  rwa [e] at this

/-- names of the frame within a comprehension -/
theorem rs {scope : Scope} {x : Str} {v : V} (h : ρ x = some v) (hk : scope.names.lookup x = some .free := by kernel_rfl) : restr scope ρ x = some v := by unfold restr; rw [if_pos hk]; exact h
end
end Mine

-- part Fw19
namespace Mine
section
variable {B : Bs} {n m : Nat}

/-- the claim's end from the walk of the law's body -/
theorem law_end {s₁ : Shared} (hB : B.h₀ = s₁.heap) (hg : s₁.gens = #[]) {c : ClaimW} {cl : Str → Option Addr} {mean : ExcName → Option Value} {args : List WData} {a : Addr} {fd : FuncData} {body : List Stmt} {sc : Addr} {vs : List Value} {ns : List Int}
    (F : FnOk B a fd body) (hp : paramsOk fd.scope ["script"] = true) (hb : ∀ x S, peek B.K S (bindArgs fd ⟨[x], []⟩) = some [(("script" : Str), x)]) (hl : s₁.heap.get? sc = some (lisObj vs.toArray 0)) (hI : IntsAre vs ns)
    (hx : ∀ L, EX B n (callEnvC fd L a) 0 (fun y => ((["script"] : List Str).zip [V.lst (ns.map V.int)]).lookup y) [] body (fun fl _ _ => retOf fl = .bool true)) (hn : n ≤ 400)
    (hr : ∀ cls, c.raises args cls = false) (hpost : c.post args (.bool true) args = true) :
    wpAny (model B.prog B.w) callerA (call (.ref a) [.ref sc]) (fun v s' => GoodWG c cl mean args s₁ (.ok (.ret v)) s') (fun e s' => GoodWG c cl mean args s₁ (.error e) s') s₁ := by
  have rm : Rm0 (n + 1) callerA := ⟨rfl, by show 1 + claimMargin + (n + 1) ≤ 890; simp only [claimMargin]; omega, by show 4 + 20 * (n + 1) ≤ 9000; omega, ⟨_, rfl⟩⟩
  have sb : SB B [] ⟨[], []⟩ s₁.heap := ⟨⟨fun b o e => by rw [hB] at e; exact e, fun a ha => (by rcases ha with ha | ha <;> cases ha)⟩, ⟨rfl, List.nodup_nil, fun k b l hk => by simp at hk, fun b hb => (by rcases hb with hb | hb <;> cases hb), fun b hb => (by cases hb)⟩⟩
  have rp : RepAll ⟨[], []⟩ s₁.heap [.ref sc] [V.lst (ns.map V.int)] := .one (.lst (by rintro (h | h) <;> cases h) hl (repAll_ints hI))
  refine wpAny_mono (fn_core (m := 0) (st := []) (vs := [V.lst (ns.map V.int)]) (Ψ := fun v _ => v = .bool true) (names := ["script"]) (ws := [V.lst (ns.map V.int)]) (pos := fun xs => xs) (kw := fun _ => []) F hp rfl (fun H h xs S r => ?_) hx callerA rm _ s₁ ⟨[], []⟩ [.ref sc] sb rp) (fun z s' q => ?_) fun _ _ e => e
  · cases r with
    | cons r1 r => cases r; exact ⟨[_], fun S => hb _ S, .one r1⟩
  · obtain ⟨v, st', H', h', tk, rfl, rfl, SB', cs, rz⟩ := q
    cases rz
    exact ⟨.inl ⟨_, _, [], rfl, hr, ReadsW.bool true, hpost, fun _ => ⟨List.nodup_nil, fun _ hm => (nomatch hm)⟩⟩, OldK.of_keep fun b o e => SB'.base.keep b o (by rw [hB]; exact e), rfl, .of_eq hg⟩
end
end Mine

-- part L4a
open_top hd for PySem.Challenge.rw_dm0011_04

-- part B4
namespace Mine

structure L4 (B : Bs) : Prop where
  hK : B.K = hd.heap_39 B.w.params

section
variable {B : Bs} {n m : Nat} {st : Store}

theorem L4.top (h : L4 B) : hasTop B.K = true := by rw [h.hK]; kernel_rfl
theorem g_len (h : L4 B) : (B.mg "len").or (B.mb "len") = some (.builtin "len") := glob_b h.top (by rw [h.hK]; kernel_rfl) (by decide +kernel) (by decide)
theorem f_left (h : L4 B) : FnOk B 32 (fdOf (hd.heap_39 B.w.params) 32) (bodyOf (fdOf (hd.heap_39 B.w.params) 32)) := by
  have := fnOk_of (B := B) (a := 32) (by rw [h.hK]; kernel_rfl)
  rw [h.hK] at this; exact this


/-- the measure of a search -/
def gap (ρ : Nm) (_ : Store) : Nat := match ρ "lo", ρ "hi" with
  | some (.int lo), some (.int hi) => (hi - lo).toNat
  | _, _ => 0
theorem gap_eq {ρ : Nm} {st : Store} {lo hi : Int} (h1 : ρ "lo" = some (.int lo)) (h2 : ρ "hi" = some (.int hi)) : gap ρ st = (hi - lo).toNat := by unfold gap; rw [h1, h2]

theorem left_ex (h : L4 B) {L : Addr} {a x : V} {l : List V} {r : Nat} (hl : lis st a = some l) (hfit : l.length < 2 ^ 60) (hr : r ≤ l.length)
    (hc : ∀ (i : Nat) v, l[i]? = some v → P2 B (n + 1) st (compareOp .Lt) v x (.bool (decide (i < r)))) :
    EX B (n + 1) (callEnvC (fdOf (hd.heap_39 B.w.params) 32) L 32) m (fun y => ((["a", "x", "lo", "hi", "key"] : List Str).zip [a, x, .int 0, .none, .none]).lookup y) st (bodyOf (fdOf (hd.heap_39 B.w.params) 32)) (fun fl _ st' => retOf fl = .int r ∧ st' = st) := by
  refine ex_cons (x_if (c := false) (pt_cmp (pe_name rfl (.inl (by kernel_rfl))) pe_int o_lt) (fun h => by cases h) fun _ => ex_nil ?_)
  refine ex_cons (x_if (c := true) (pt_cmp (pe_name rfl (.inl (by kernel_rfl))) pe_none o_isNone) (fun _ => ?_) (fun h => by cases h))
  refine ex_cons (x_assign ((pe_callB (g_len h) (by kernel_rfl) (pes_cons (pe_name rfl (.inl (by kernel_rfl))) pes_nil) (o_len hl (by omega))).pm (ex_nil ?_)) (.inl (by kernel_rfl)))
  refine ex_cons (x_if (c := true) (pt_cmp (pe_name rfl (.inl (by kernel_rfl))) pe_none o_isNone) (fun _ => ex_cons ?_) (fun h => by cases h))
  refine x_while (fun ρ st' => ∃ lo hi : Int, ρ "lo" = some (.int lo) ∧ ρ "hi" = some (.int hi) ∧ ρ "a" = some a ∧ ρ "x" = some x ∧ st' = st ∧ 0 ≤ lo ∧ lo ≤ r ∧ r ≤ hi ∧ hi ≤ l.length) gap ⟨0, l.length, rfl, rfl, rfl, rfl, rfl, by omega, by omega, by omega, by omega⟩ ?_
  rintro ρ st' ⟨lo, hi, n1, n2, n3, n4, rfl, b1, b2, b3, b4⟩
  refine ⟨decide (lo < hi), pt_cmp (pe_name n1 (.inl (by kernel_rfl))) (pe_name n2 (.inl (by kernel_rfl))) o_lt, fun hlt => ?_, fun hge => ex_nil (ex_cons (x_return ((pe_name n1 (.inl (by kernel_rfl))).pm ?_)))⟩
  · have hlt : lo < hi := by simpa using hlt
    have hmid : (lo + hi).fdiv 2 = (lo + hi) / 2 := by rw [Int.fdiv_eq_ediv_of_nonneg _ (by decide)]
    have hv : l[((lo + hi).fdiv 2).toNat]? = some (l[((lo + hi).fdiv 2).toNat]'(by rw [hmid]; omega)) := List.getElem?_eq_getElem _
    generalize l[((lo + hi).fdiv 2).toNat]'(by rw [hmid]; omega) = v at hv
    refine ex_cons (x_assign ((pe_bin (pe_bin (pe_name n1 (.inl (by kernel_rfl))) (pe_name n2 (.inl (by kernel_rfl))) o_add) pe_int (o_fdiv (by decide))).pm ?_) (.inl (by kernel_rfl)))
    refine ex_cons (x_if (pt_cmp (pe_sub (pe_name (nm_ne n3) (.inl (by kernel_rfl))) (pe_name nm_eq (.inl (by kernel_rfl))) (o_item hl (by rw [hmid]; omega) hv (by omega))) (pe_name (nm_ne n4) (.inl (by kernel_rfl))) (hc _ _ hv)) (fun ht => ?_) (fun hf => ?_))
    · refine ex_cons (x_assign ((pe_bin (pe_name nm_eq (.inl (by kernel_rfl))) pe_int o_add).pm (ex_nil (ex_nil ?_))) (.inl (by kernel_rfl)))
      have ht : ((lo + hi).fdiv 2).toNat < r := by simpa using ht
      refine ⟨⟨_, _, nm_eq, nm_ne (nm_ne n2), nm_ne (nm_ne n3), nm_ne (nm_ne n4), rfl, by omega, by omega, by omega, by omega⟩, ?_⟩
      rw [gap_eq nm_eq (nm_ne (nm_ne n2)), gap_eq n1 n2]
      omega
    · refine ex_cons (x_assign ((pe_name nm_eq (.inl (by kernel_rfl))).pm (ex_nil (ex_nil ?_))) (.inl (by kernel_rfl)))
      have hf : ¬ ((lo + hi).fdiv 2).toNat < r := by simpa using hf
      refine ⟨⟨_, _, nm_ne (nm_ne n1), nm_eq, nm_ne (nm_ne n3), nm_ne (nm_ne n4), rfl, by omega, by omega, by omega, by omega⟩, ?_⟩
      rw [gap_eq (nm_ne (nm_ne n1)) nm_eq, gap_eq n1 n2]
      omega
  · have hge : ¬ lo < hi := by simpa using hge
    exact ⟨by show V.int lo = V.int r; congr 1; omega, rfl⟩

/-- the first default of a def -/
def dfl (K : Frag) (a : Addr) : Value := match (fdOf K a).defaults with
  | .ref t => (match K.lookup t with | some ⟨_, _, .seq vs _, _⟩ => vs.getD 0 .none | _ => .none)
  | _ => .none

theorem left_pl (h : L4 B) {a x : V} {l : List V} {r : Nat} (hl : lis st a = some l) (hfit : l.length < 2 ^ 60) (hr : r ≤ l.length)
    (hc : ∀ (i : Nat) v, l[i]? = some v → P2 B (n + 1) st (compareOp .Lt) v x (.bool (decide (i < r)))) : PL B (n + 2) st (fun xs => call (.ref 32) xs) [a, x] (.int r) := by
  refine OM.plFlat rfl (fn_om (names := ["a", "x", "lo", "hi", "key"]) (ws := [a, x, .int 0, .none, .none]) (pos := fun xs => xs) (kw := fun _ => []) (f_left h) (by kernel_rfl) rfl (fun H hp xs S rr => ?_) fun L => (left_ex (m := st.length) h hl hfit hr hc).mono fun f ρ' st' q => ⟨q.1, [], by simp [q.2]⟩)
  cases rr with
  | @cons y1 _ _ _ r1 rr =>
    cases rr with
    | @cons y2 _ _ _ r2 rr =>
      cases rr
      refine ⟨[y1, y2, dfl (hd.heap_39 B.w.params) 32, .none, .none], fun S => ?_, .cons r1 (.cons r2 (.cons (by show Rep H hp (.int 0 _) _; exact .int ..) (.cons .none (.cons .none .nil))))⟩
      rw [h.hK]
      kernel_rfl
end
end Mine

-- part M4
namespace Mine

/-- a number, its length of the longest rise, how many -/
abbrev Ent := Int × Int × Int

def nxt (D : List Ent) (x : Int) : Int × Int :=
  let less := D.filter fun e => decide (e.1 < x)
  let size := 1 + (less.map (·.2.1)).foldl max 0
  (size, max 1 ((less.filter fun e => e.2.1 == size - 1).map (·.2.2)).sum)

def runD : List Int → List Ent → List Ent
  | [], D => D
  | x :: r, D => runD r (D ++ [(x, nxt D x)])

theorem runD_snoc : ∀ (l : List Int) (D : List Ent) (x : Int), runD (l ++ [x]) D = runD l D ++ [(x, nxt (runD l D) x)]
  | [], D, x => rfl
  | y :: l, D, x => by simp only [List.cons_append, runD]; exact runD_snoc l _ x
theorem runD_fst : ∀ (l : List Int) (D : List Ent), (runD l D).map (·.1) = D.map (·.1) ++ l
  | [], D => by simp [runD]
  | y :: l, D => by simp only [runD]; rw [runD_fst l]; simp
theorem runD_length (l : List Int) : (runD l []).length = l.length := by
  have := congrArg List.length (runD_fst l [])
  simpa using this

/-- the entries of a class -/
def cls (D : List Ent) (k : Nat) : List Ent := D.filter fun e => e.2.1 == (k : Int) + 1

structure Pl (D : List Ent) (tops : List Int) : Prop where
  sz : ∀ e ∈ D, 1 ≤ e.2.1 ∧ e.2.1 ≤ tops.length
  wy : ∀ e ∈ D, 1 ≤ e.2.2
  top : ∀ k t, tops[k]? = some t → ∃ pre e, cls D k = pre ++ [e] ∧ e.1 = t
  dec : ∀ k, (cls D k).Pairwise fun a b => b.1 ≤ a.1
  inc : tops.Pairwise (· < ·)

theorem foldl_max_le (l : List Int) : ∀ (a b : Int), a ≤ b → (∀ x ∈ l, x ≤ b) → l.foldl max a ≤ b := by
  induction l with
  | nil => intro a b h _; exact h
  | cons y l ih => intro a b h1 h2; exact ih _ b (by have := h2 y (by simp); omega) fun x hx => h2 x (by simp [hx])
theorem foldl_max_ge (l : List Int) : ∀ (a : Int), a ≤ l.foldl max a ∧ ∀ x ∈ l, x ≤ l.foldl max a := by
  induction l with
  | nil => intro a; exact ⟨Int.le_refl _, fun x hx => by cases hx⟩
  | cons y l ih =>
    intro a
    obtain ⟨h1, h2⟩ := ih (max a y)
    refine ⟨by simp only [List.foldl_cons]; omega, fun x hx => ?_⟩
    rcases List.mem_cons.mp hx with rfl | hx
    · simp only [List.foldl_cons]; omega
    · exact h2 x hx
theorem foldl_max_mem (l : List Int) : ∀ (a : Int), l.foldl max a = a ∨ l.foldl max a ∈ l := by
  induction l with
  | nil => intro a; exact .inl rfl
  | cons y l ih =>
    intro a
    simp only [List.foldl_cons]
    rcases ih (max a y) with h | h
    · by_cases hc : a ≤ y
      · right; rw [h, show max a y = y by omega]; simp
      · left; rw [h]; omega
    · right; simp [h]

theorem mem_cls {D : List Ent} {k : Nat} {e : Ent} : e ∈ cls D k ↔ e ∈ D ∧ e.2.1 = (k : Int) + 1 := by simp [cls]

/-- the last of a class is its least -/
theorem Pl.least {D : List Ent} {tops : List Int} (P : Pl D tops) {k : Nat} {t : Int} (ht : tops[k]? = some t) : ∀ e ∈ cls D k, t ≤ e.1 := by
  obtain ⟨pre, e', h1, h2⟩ := P.top k t ht
  intro e he
  have hd := P.dec k
  rw [h1] at he hd
  rcases List.mem_append.mp he with he | he
  · have := (List.pairwise_append.mp hd).2.2 e he e' (by simp)
    omega
  · simp at he; subst he; omega

/-- the partition point of the tops -/
structure Cut (tops : List Int) (x : Int) (k : Nat) : Prop where
  le : k ≤ tops.length
  at_ : ∀ (i : Nat) t, tops[i]? = some t → (t < x ↔ i < k)

theorem cut_exists {tops : List Int} (h : tops.Pairwise (· < ·)) (x : Int) : ∃ k, Cut tops x k := by
  induction tops with
  | nil => exact ⟨0, by simp, fun i t ht => by simp at ht⟩
  | cons y l ih =>
    obtain ⟨h1, h2⟩ := List.pairwise_cons.mp h
    obtain ⟨k, hk⟩ := ih h2
    by_cases hy : y < x
    · refine ⟨k + 1, by simpa using hk.le, fun i t ht => ?_⟩
      cases i with
      | zero => simp at ht; subst ht; simp [hy]
      | succ i => simp at ht; have := hk.at_ i t ht; omega
    · refine ⟨0, by simp, fun i t ht => ?_⟩
      cases i with
      | zero => simp at ht; subst ht; simp [hy]
      | succ i => simp at ht; have := h1 t (List.mem_of_getElem? ht); omega

/-- how many rises the lesser ones of the class to the left end -/
def waysOf (D : List Ent) (k : Nat) (x : Int) : Int := if k = 0 then 1 else (((cls D (k - 1)).filter fun e => decide (e.1 < x)).map (·.2.2)).sum

theorem sum_pos : ∀ (l : List Int), (∀ x ∈ l, 1 ≤ x) → 0 ≤ l.sum ∧ (l ≠ [] → 1 ≤ l.sum)
  | [], _ => ⟨by simp, fun h => absurd rfl h⟩
  | y :: l, h => by
    obtain ⟨h1, _⟩ := sum_pos l fun x hx => h x (by simp [hx])
    have := h y (by simp)
    simp only [List.sum_cons]
    exact ⟨by omega, fun _ => by omega⟩

theorem nxt_eq {D : List Ent} {tops : List Int} (P : Pl D tops) {x : Int} {k : Nat} (C : Cut tops x k) : nxt D x = ((k : Int) + 1, waysOf D k x) ∧ 1 ≤ waysOf D k x := by
  have small : ∀ e ∈ D, e.1 < x → e.2.1 ≤ k := fun e he hx => by
    obtain ⟨s1, s2⟩ := P.sz e he
    have hc : (e.2.1 - 1).toNat < tops.length := by omega
    have ht : tops[(e.2.1 - 1).toNat]? = some (tops[(e.2.1 - 1).toNat]) := List.getElem?_eq_getElem hc
    have := P.least ht e (mem_cls.mpr ⟨he, by omega⟩)
    have := (C.at_ _ _ ht).mp (by omega)
    omega
  have size : ((D.filter fun e => decide (e.1 < x)).map (·.2.1)).foldl max 0 = k := by
    apply Int.le_antisymm
    · refine foldl_max_le _ _ _ (by omega) fun y hy => ?_
      obtain ⟨e, he, rfl⟩ := List.mem_map.mp hy
      have := List.mem_filter.mp he
      exact small e this.1 (by simpa using this.2)
    · cases k with
      | zero => exact (foldl_max_ge _ 0).1
      | succ k =>
        have hk : k < tops.length := C.le
        have ht : tops[k]? = some tops[k] := List.getElem?_eq_getElem hk
        obtain ⟨pre, e, h1, h2⟩ := P.top k _ ht
        have hm : e ∈ cls D k := by rw [h1]; simp
        have hx : e.1 < x := by rw [h2]; exact (C.at_ _ _ ht).mpr (Nat.lt_succ_self _)
        have := (foldl_max_ge ((D.filter fun e => decide (e.1 < x)).map (·.2.1)) 0).2 e.2.1 (List.mem_map.mpr ⟨e, List.mem_filter.mpr ⟨(mem_cls.mp hm).1, by simpa using hx⟩, rfl⟩)
        have := (mem_cls.mp hm).2
        omega
  have hn : nxt D x = ((k : Int) + 1, max 1 (((D.filter fun e => decide (e.1 < x)).filter fun e => e.2.1 == (k : Int)).map (·.2.2)).sum) := by
    simp only [nxt, size]
    rw [show (1 : Int) + k = k + 1 by omega, show (k : Int) + 1 - 1 = k by omega]
  rw [hn]
  cases k with
  | zero =>
    have : ((D.filter fun e => decide (e.1 < x)).filter fun e => e.2.1 == ((0 : Nat) : Int)) = [] := by
      rw [List.filter_eq_nil_iff]
      intro e he
      have := (P.sz e (List.mem_filter.mp he).1).1
      simp; omega
    rw [this]
    have hm : max (1 : Int) 0 = 1 := by decide
    simp [waysOf, hm]
  | succ k =>
    have e1 : ((D.filter fun e => decide (e.1 < x)).filter fun e => e.2.1 == ((k + 1 : Nat) : Int)) = (cls D k).filter fun e => decide (e.1 < x) := by
      rw [cls, List.filter_filter, List.filter_filter]
      congr 1
      funext e
      rw [Bool.and_comm]; rfl
    have e2 : waysOf D (k + 1) x = (((cls D k).filter fun e => decide (e.1 < x)).map (·.2.2)).sum := by simp [waysOf]
    rw [e1, e2]
    have hk : k < tops.length := C.le
    have ht : tops[k]? = some tops[k] := List.getElem?_eq_getElem hk
    obtain ⟨pre, e, h1, h2⟩ := P.top k _ ht
    have hx : e.1 < x := by rw [h2]; exact (C.at_ _ _ ht).mpr (Nat.lt_succ_self _)
    have hp := sum_pos (((cls D k).filter fun e => decide (e.1 < x)).map (·.2.2)) fun y hy => by
      obtain ⟨e', he', rfl⟩ := List.mem_map.mp hy
      exact P.wy e' (mem_cls.mp (List.mem_filter.mp he').1).1
    have hne : ((cls D k).filter fun e => decide (e.1 < x)).map (·.2.2) ≠ [] := by
      intro h
      have : e.2.2 ∈ ((cls D k).filter fun e => decide (e.1 < x)).map (·.2.2) := List.mem_map.mpr ⟨e, List.mem_filter.mpr ⟨by rw [h1]; simp, by simpa using hx⟩, rfl⟩
      rw [h] at this; cases this
    have := hp.2 hne
    exact ⟨by congr 1; omega, this⟩

theorem cls_snoc (D : List Ent) (x : Int) (k j : Nat) (w : Int) : cls (D ++ [(x, (k : Int) + 1, w)]) j = if j = k then cls D j ++ [(x, (k : Int) + 1, w)] else cls D j := by
  unfold cls
  rw [List.filter_append]
  by_cases h : j = k
  · subst h; simp
  · have : (((x, (k : Int) + 1, w) : Ent).2.1 == (j : Int) + 1) = false := by simp; omega
    rw [if_neg h]; simp [this]

def newTops (tops : List Int) (k : Nat) (x : Int) : List Int := if k = tops.length then tops ++ [x] else tops.set k x
theorem newTops_length (tops : List Int) (k : Nat) (x : Int) (hk : k ≤ tops.length) : (newTops tops k x).length = if k = tops.length then tops.length + 1 else tops.length := by
  unfold newTops; split <;> simp
theorem newTops_get (tops : List Int) (k : Nat) (x : Int) (hk : k ≤ tops.length) (j : Nat) : (newTops tops k x)[j]? = if j = k then some x else tops[j]? := by
  unfold newTops
  split
  · rename_i h
    subst h
    by_cases hj : j < tops.length
    · rw [List.getElem?_append_left hj, if_neg (by omega)]
    · by_cases he : j = tops.length
      · subst he; simp
      · rw [if_neg he, List.getElem?_eq_none (by simp; omega), List.getElem?_eq_none (by omega)]
  · rw [List.getElem?_set]
    by_cases he : k = j
    · subst he; simp; omega
    · simp [he, Ne.symm he]

theorem Pl.step {D : List Ent} {tops : List Int} (P : Pl D tops) {x : Int} {k : Nat} (C : Cut tops x k) : Pl (D ++ [(x, nxt D x)]) (newTops tops k x) := by
  obtain ⟨e1, e2⟩ := nxt_eq P C
  rw [e1]
  have hlen := newTops_length tops k x C.le
  have hk := C.le
  have hset : newTops tops k x = tops.take k ++ x :: tops.drop (k + 1) := by
    unfold newTops
    split
    · rename_i h; subst h; simp
    · rw [List.set_eq_take_append_cons_drop, if_pos (by omega)]
  refine ⟨fun e he => ?_, fun e he => ?_, fun j t ht => ?_, fun j => ?_, ?_⟩
  · rcases List.mem_append.mp he with he | he
    · have := P.sz e he; rw [hlen]; split <;> omega
    · simp at he; subst he; rw [hlen]; simp only; split <;> omega
  · rcases List.mem_append.mp he with he | he
    · exact P.wy e he
    · simp at he; subst he; exact e2
  · rw [newTops_get tops k x hk] at ht
    rw [cls_snoc]
    by_cases h : j = k
    · rw [if_pos h] at ht ⊢; cases ht; exact ⟨_, _, rfl, rfl⟩
    · rw [if_neg h] at ht ⊢; exact P.top j t ht
  · rw [cls_snoc]
    by_cases h : j = k
    · rw [if_pos h]
      refine List.pairwise_append.mpr ⟨P.dec j, by simp, fun a ha b hb => ?_⟩
      simp at hb; subst hb
      subst h
      -- the class's least is not less than x
      have hj : j < tops.length := by
        have := (P.sz a (mem_cls.mp ha).1).2
        have := (mem_cls.mp ha).2
        omega
      have ht : tops[j]? = some tops[j] := List.getElem?_eq_getElem hj
      have h1 := P.least ht a ha
      have h2 := (C.at_ _ _ ht)
      show x ≤ a.1
      by_cases hx : tops[j] < x
      · exact absurd (h2.mp hx) (Nat.lt_irrefl _)
      · omega
    · rw [if_neg h]; exact P.dec j
  · rw [hset]
    have hinc := P.inc
    refine List.pairwise_append.mpr ⟨hinc.sublist (List.take_sublist _ _), List.pairwise_cons.mpr ⟨fun y hy => ?_, hinc.sublist (List.drop_sublist _ _)⟩, fun a ha b hb => ?_⟩
    · obtain ⟨i, hi⟩ := List.getElem?_of_mem hy
      rw [List.getElem?_drop] at hi
      have hil := (List.getElem?_eq_some_iff.mp hi).1
      have hkl : k < tops.length := by omega
      have ht : tops[k]? = some tops[k] := List.getElem?_eq_getElem hkl
      have h1 := C.at_ _ _ ht
      have h2 : tops[k] < y := by
        have := List.pairwise_iff_getElem.mp hinc k (k + 1 + i) hkl hil (by omega)
        have e := (List.getElem?_eq_some_iff.mp hi).2
        omega
      by_cases hx : tops[k] < x
      · exact absurd (h1.mp hx) (Nat.lt_irrefl _)
      · omega
    · obtain ⟨i, hi⟩ := List.getElem?_of_mem ha
      rw [List.getElem?_take] at hi
      split at hi
      · rename_i hik
        have hax := (C.at_ i a hi).mpr hik
        rcases List.mem_cons.mp hb with rfl | hb
        · exact hax
        · obtain ⟨j, hj⟩ := List.getElem?_of_mem hb
          rw [List.getElem?_drop] at hj
          obtain ⟨h1, e1⟩ := List.getElem?_eq_some_iff.mp hi
          obtain ⟨h2, e2⟩ := List.getElem?_eq_some_iff.mp hj
          have := List.pairwise_iff_getElem.mp hinc i (k + 1 + j) h1 h2 (by omega)
          omega
      · cases hi

/-- sums from the beginning on -/
def psum : Int → List Int → List Int
  | a, [] => [a]
  | a, x :: l => a :: psum (a + x) l
theorem psum_length : ∀ (a : Int) (l : List Int), (psum a l).length = l.length + 1
  | a, [] => rfl
  | a, x :: l => by simp [psum, psum_length]
theorem psum_get : ∀ (a : Int) (l : List Int) (i : Nat), i ≤ l.length → (psum a l)[i]? = some (a + (l.take i).sum)
  | a, [], i, h => by simp at h; subst h; simp [psum]
  | a, x :: l, i, h => by
    cases i with
    | zero => simp [psum]
    | succ i => simp only [psum, List.getElem?_cons_succ, List.take_succ_cons, List.sum_cons]; rw [psum_get _ l i (by simpa using h)]; congr 1; omega
theorem psum_snoc : ∀ (a : Int) (l : List Int) (x : Int), psum a (l ++ [x]) = psum a l ++ [a + l.sum + x]
  | a, [], x => by simp [psum]
  | a, y :: l, x => by simp only [List.cons_append, psum, List.sum_cons]; rw [psum_snoc (a + y) l x]; simp; omega

/-- of a falling class: those not less than x come first -/
theorem cut_class : ∀ (l : List Ent) (x : Int), (l.Pairwise fun a b => b.1 ≤ a.1) → ∃ r, r ≤ l.length ∧ (∀ (i : Nat) e, l[i]? = some e → (x ≤ e.1 ↔ i < r)) ∧ (((l.filter fun e => decide (e.1 < x)).map (·.2.2)).sum = (l.map (·.2.2)).sum - ((l.map (·.2.2)).take r).sum)
  | [], x, _ => ⟨0, by simp, fun i e h => by simp at h, by simp⟩
  | a :: l, x, h => by
    obtain ⟨h1, h2⟩ := List.pairwise_cons.mp h
    obtain ⟨r, r1, r2, r3⟩ := cut_class l x h2
    by_cases ha : x ≤ a.1
    · refine ⟨r + 1, by simpa using r1, fun i e hi => ?_, ?_⟩
      · cases i with
        | zero => simp at hi; subst hi; simp [ha]
        | succ i => simp at hi; have := r2 i e hi; omega
      · have : decide (a.1 < x) = false := by simp; omega
        rw [List.filter_cons, this]
        simp only [Bool.false_eq_true, if_false, List.map_cons, List.sum_cons, List.take_succ_cons, r3]
        omega
    · refine ⟨0, by simp, fun i e hi => ?_, ?_⟩
      · cases i with
        | zero => simp at hi; subst hi; simp; omega
        | succ i => simp at hi; have := h1 e (List.mem_of_getElem? hi); omega
      · have : (a :: l).filter (fun e => decide (e.1 < x)) = a :: l := by
          rw [List.filter_eq_self]
          intro e he
          rcases List.mem_cons.mp he with rfl | he
          · simp; omega
          · have := h1 e he; simp; omega
        rw [this]; simp
end Mine

-- part W4
namespace Mine


section
variable {B : Bs} {n m : Nat} {st : Store}

theorem g_b {x : Str} {v : Value} (h : L4 B) (hg : gname (hd.heap_39 B.w.params) x = none) (hb : bootBuiltins x = some v) (hx : x ≠ "__name__") : (B.mg x).or (B.mb x) = some v := glob_b h.top (by rw [h.hK]; exact hg) hb hx
theorem g_g {x : Str} {v : Value} (h : L4 B) (hg : gname (hd.heap_39 B.w.params) x = some v) : B.mg x = some v := glob_g h.top (by rw [h.hK]; exact hg)
theorem f_ok (h : L4 B) (a : Addr) (hb : fnOkB (hd.heap_39 B.w.params) a = true) : FnOk B a (fdOf (hd.heap_39 B.w.params) a) (bodyOf (fdOf (hd.heap_39 B.w.params) a)) := by
  have := fnOk_of (B := B) (a := a) (by rw [h.hK]; exact hb)
  rw [h.hK] at this; exact this

theorem right_ex (h : L4 B) {L : Addr} {a x : V} {l : List V} {r : Nat} (hl : lis st a = some l) (hfit : l.length < 2 ^ 60) (hr : r ≤ l.length)
    (hc : ∀ (i : Nat) v, l[i]? = some v → P2 B (n + 1) st (compareOp .Lt) x v (.bool (decide (r ≤ i)))) :
    EX B (n + 1) (callEnvC (fdOf (hd.heap_39 B.w.params) 23) L 23) m (fun y => ((["a", "x", "lo", "hi", "key"] : List Str).zip [a, x, .int 0, .none, .none]).lookup y) st (bodyOf (fdOf (hd.heap_39 B.w.params) 23)) (fun fl _ st' => retOf fl = .int r ∧ st' = st) := by
  refine ex_cons (x_if (c := false) (pt_cmp (pn rfl) pe_int o_lt) (fun h => by cases h) fun _ => ex_nil ?_)
  refine ex_cons (x_if (c := true) (pt_cmp (pn rfl) pe_none o_isNone) (fun _ => ?_) (fun h => by cases h))
  refine ex_cons (xa ((pe_callB (g_len h) (by kernel_rfl) (pes_cons (pn rfl) pes_nil) (o_len hl (by omega))).pm (ex_nil ?_)))
  refine ex_cons (x_if (c := true) (pt_cmp (pn rfl) pe_none o_isNone) (fun _ => ex_cons ?_) (fun h => by cases h))
  refine x_while (fun ρ st' => ∃ lo hi : Int, ρ "lo" = some (.int lo) ∧ ρ "hi" = some (.int hi) ∧ ρ "a" = some a ∧ ρ "x" = some x ∧ st' = st ∧ 0 ≤ lo ∧ lo ≤ r ∧ r ≤ hi ∧ hi ≤ l.length) gap ⟨0, l.length, rfl, rfl, rfl, rfl, rfl, by omega, by omega, by omega, by omega⟩ ?_
  rintro ρ st' ⟨lo, hi, n1, n2, n3, n4, rfl, b1, b2, b3, b4⟩
  refine ⟨decide (lo < hi), pt_cmp (pn n1) (pn n2) o_lt, fun hlt => ?_, fun hge => ex_nil (ex_cons (x_return ((pn n1).pm ?_)))⟩
  · have hlt : lo < hi := by simpa using hlt
    have hmid : (lo + hi).fdiv 2 = (lo + hi) / 2 := by rw [Int.fdiv_eq_ediv_of_nonneg _ (by decide)]
    have hv : l[((lo + hi).fdiv 2).toNat]? = some (l[((lo + hi).fdiv 2).toNat]'(by rw [hmid]; omega)) := List.getElem?_eq_getElem _
    generalize l[((lo + hi).fdiv 2).toNat]'(by rw [hmid]; omega) = v at hv
    refine ex_cons (xa ((pe_bin (pe_bin (pn n1) (pn n2) o_add) pe_int (o_fdiv (by decide))).pm ?_))
    refine ex_cons (x_if (pt_cmp (pn (nm_ne n4)) (pe_sub (pn (nm_ne n3)) (pn nm_eq) (o_item hl (by rw [hmid]; omega) hv (by omega))) (hc _ _ hv)) (fun ht => ?_) (fun hf => ?_))
    · refine ex_cons (xa ((pn nm_eq).pm (ex_nil (ex_nil ?_))))
      have ht : r ≤ ((lo + hi).fdiv 2).toNat := by simpa using ht
      refine ⟨⟨_, _, nm_ne (nm_ne n1), nm_eq, nm_ne (nm_ne n3), nm_ne (nm_ne n4), rfl, by omega, by omega, by omega, by omega⟩, ?_⟩
      rw [gap_eq (nm_ne (nm_ne n1)) nm_eq, gap_eq n1 n2]
      omega
    · refine ex_cons (xa ((pe_bin (pn nm_eq) pe_int o_add).pm (ex_nil (ex_nil ?_))))
      have hf : ¬ r ≤ ((lo + hi).fdiv 2).toNat := by simpa using hf
      refine ⟨⟨_, _, nm_eq, nm_ne (nm_ne n2), nm_ne (nm_ne n3), nm_ne (nm_ne n4), rfl, by omega, by omega, by omega, by omega⟩, ?_⟩
      rw [gap_eq nm_eq (nm_ne (nm_ne n2)), gap_eq n1 n2]
      omega
  · have hge : ¬ lo < hi := by simpa using hge
    exact ⟨by show V.int lo = V.int r; congr 1; omega, rfl⟩

theorem right_pl (h : L4 B) {a x : V} {l : List V} {r : Nat} (hl : lis st a = some l) (hfit : l.length < 2 ^ 60) (hr : r ≤ l.length)
    (hc : ∀ (i : Nat) v, l[i]? = some v → P2 B (n + 1) st (compareOp .Lt) x v (.bool (decide (r ≤ i)))) : PL B (n + 2) st (fun xs => call (.ref 23) xs) [a, x] (.int r) := by
  refine OM.plFlat rfl (fn_om (names := ["a", "x", "lo", "hi", "key"]) (ws := [a, x, .int 0, .none, .none]) (pos := fun xs => xs) (kw := fun _ => []) (f_ok h 23 (by kernel_rfl)) (by kernel_rfl) rfl (fun H hp xs S rr => ?_) fun L => (right_ex (m := st.length) h hl hfit hr hc).mono fun f ρ' st' q => ⟨q.1, [], by simp [q.2]⟩)
  cases rr with
  | @cons y1 _ _ _ r1 rr =>
    cases rr with
    | @cons y2 _ _ _ r2 rr =>
      cases rr
      refine ⟨[y1, y2, dfl (hd.heap_39 B.w.params) 23, .none, .none], fun S => ?_, .cons r1 (.cons r2 (.cons (by show Rep H hp (.int 0 _) _; exact .int ..) (.cons .none (.cons .none .nil))))⟩
      rw [h.hK]
      kernel_rfl
end
end Mine

-- part P4
namespace Mine
section
variable {B : Bs} {n m : Nat}

def toldOf (D : List Ent) : List V := D.map fun e => .tup [.int e.2.1, .int e.2.2]

/-- the piles in the store -/
structure SP (st0 st : Store) (D : List Ent) (T : List Int) : Prop where
  len : st.length = st0.length + 4 + 2 * T.length
  tops : st[st0.length]? = some (T.map V.int)
  piles : st[st0.length + 1]? = some ((List.range T.length).map fun j => .ref (st0.length + 4 + 2 * j))
  sums : st[st0.length + 2]? = some ((List.range T.length).map fun j => .ref (st0.length + 5 + 2 * j))
  told : st[st0.length + 3]? = some (toldOf D)
  pile : ∀ j < T.length, st[st0.length + 4 + 2 * j]? = some ((cls D j).map fun e => .int (-e.1))
  sum : ∀ j < T.length, st[st0.length + 5 + 2 * j]? = some ((psum 0 ((cls D j).map (·.2.2))).map V.int)
  old : ∀ i < st0.length, st[i]? = st0[i]?

theorem SP.setTops {st0 st : Store} {D : List Ent} {T T' : List Int} (P : SP st0 st D T) (hl : T'.length = T.length) : SP st0 (st.set st0.length (T'.map V.int)) D T' where
  len := by rw [List.length_set, P.len, hl]
  tops := List.getElem?_set_self (by have := P.len; omega)
  piles := by rw [List.getElem?_set_ne (by omega), P.piles, hl]
  sums := by rw [List.getElem?_set_ne (by omega), P.sums, hl]
  told := by rw [List.getElem?_set_ne (by omega), P.told]
  pile := fun j hj => by rw [List.getElem?_set_ne (by omega), P.pile j (by omega)]
  sum := fun j hj => by rw [List.getElem?_set_ne (by omega), P.sum j (by omega)]
  old := fun i hi => by rw [List.getElem?_set_ne (by omega), P.old i hi]

/-- a new pile -/
def grow (st0 st : Store) (T : List Int) (x : Int) : Store :=
  let m0 := st0.length
  let a : Store := st.set m0 (T.map V.int ++ [.int x])
  let b : Store := (a ++ [[]]).set (m0 + 1) (((List.range T.length).map fun j => V.ref (m0 + 4 + 2 * j)) ++ [V.ref a.length])
  (b ++ [[V.int 0]]).set (m0 + 2) (((List.range T.length).map fun j => V.ref (m0 + 5 + 2 * j)) ++ [V.ref b.length])

theorem SP.grow {st0 st : Store} {D : List Ent} {T : List Int} (P : SP st0 st D T) (x : Int) (hD : cls D T.length = []) : SP st0 (grow st0 st T x) D (T ++ [x]) := by
  have hlen := P.len
  have e1 : ∀ i, i ≠ st0.length → i ≠ st0.length + 1 → i ≠ st0.length + 2 → i < st.length → (Mine.grow st0 st T x)[i]? = st[i]? := fun i h1 h2 h3 h4 => by
    unfold Mine.grow
    rw [List.getElem?_set_ne (by omega), List.getElem?_append_left (by simp; omega), List.getElem?_set_ne (by omega), List.getElem?_append_left (by simp; omega), List.getElem?_set_ne (by omega)]
  refine ⟨?_, ?_, ?_, ?_, ?_, fun j hj => ?_, fun j hj => ?_, fun i hi => ?_⟩
  · unfold Mine.grow; simp; omega
  · unfold Mine.grow
    rw [List.getElem?_set_ne (by omega), List.getElem?_append_left (by simp; omega), List.getElem?_set_ne (by omega), List.getElem?_append_left (by simp; omega), List.getElem?_set_self (by omega)]
    simp
  · unfold Mine.grow
    rw [List.getElem?_set_ne (by omega), List.getElem?_append_left (by simp; omega), List.getElem?_set_self (by simp; omega)]
    simp [List.range_succ, hlen]
  · unfold Mine.grow
    rw [List.getElem?_set_self (by simp; omega)]
    simp [List.range_succ, hlen]
    omega
  · rw [e1 _ (by omega) (by omega) (by omega) (by omega), P.told]
  · by_cases hj' : j < T.length
    · rw [e1 _ (by omega) (by omega) (by omega) (by omega), P.pile j hj']
    · have : j = T.length := by simp at hj; omega
      subst this
      unfold Mine.grow
      rw [List.getElem?_set_ne (by omega), List.getElem?_append_left (by simp; omega), List.getElem?_set_ne (by omega), List.getElem?_append_right (by simp; omega)]
      simp [hlen, hD]
  · by_cases hj' : j < T.length
    · rw [e1 _ (by omega) (by omega) (by omega) (by omega), P.sum j hj']
    · have : j = T.length := by simp at hj; omega
      subst this
      unfold Mine.grow
      rw [List.getElem?_set_ne (by omega), List.getElem?_append_right (by simp; omega)]
      have : st0.length + 5 + 2 * T.length - (st0.length + 4 + 2 * T.length + 1) = 0 := by omega
      simp [hlen, hD, this, psum]
  · rw [e1 _ (by omega) (by omega) (by omega) (by omega), P.old i hi]

/-- a number laid on pile k -/
def lay (st0 st : Store) (D : List Ent) (k : Nat) (x w : Int) : Store :=
  let m0 := st0.length
  let a : Store := st.set (m0 + 4 + 2 * k) (((cls D k).map fun e => V.int (-e.1)) ++ [.int (-x)])
  let b : Store := a.set (m0 + 5 + 2 * k) (((psum 0 ((cls D k).map (·.2.2))).map V.int) ++ [.int (((cls D k).map (·.2.2)).sum + w)])
  b.set (m0 + 3) (toldOf D ++ [.tup [.int (k + 1), .int w]])

theorem SP.lay {st0 st : Store} {D : List Ent} {T : List Int} (P : SP st0 st D T) {k : Nat} (hk : k < T.length) (x w : Int) : SP st0 (lay st0 st D k x w) (D ++ [(x, (k : Int) + 1, w)]) T := by
  have hlen := P.len
  have e1 : ∀ i, i ≠ st0.length + 3 → i ≠ st0.length + 4 + 2 * k → i ≠ st0.length + 5 + 2 * k → (Mine.lay st0 st D k x w)[i]? = st[i]? := fun i h1 h2 h3 => by
    unfold Mine.lay
    rw [List.getElem?_set_ne (by omega), List.getElem?_set_ne (by omega), List.getElem?_set_ne (by omega)]
  refine ⟨?_, ?_, ?_, ?_, ?_, fun j hj => ?_, fun j hj => ?_, fun i hi => ?_⟩
  · unfold Mine.lay; simp; omega
  · rw [e1 _ (by omega) (by omega) (by omega), P.tops]
  · rw [e1 _ (by omega) (by omega) (by omega), P.piles]
  · rw [e1 _ (by omega) (by omega) (by omega), P.sums]
  · unfold Mine.lay
    rw [List.getElem?_set_self (by simp; omega)]
    simp [toldOf]
  · rw [cls_snoc]
    by_cases e : j = k
    · subst e
      unfold Mine.lay
      rw [List.getElem?_set_ne (by omega), List.getElem?_set_ne (by omega), List.getElem?_set_self (by omega)]
      simp
    · rw [if_neg e, e1 _ (by omega) (by omega) (by omega), P.pile j hj]
  · rw [cls_snoc]
    by_cases e : j = k
    · subst e
      unfold Mine.lay
      rw [List.getElem?_set_ne (by omega), List.getElem?_set_self (by simp; omega)]
      simp [psum_snoc]
    · rw [if_neg e, e1 _ (by omega) (by omega) (by omega), P.sum j hj]
  · rw [e1 _ (by omega) (by omega) (by omega), P.old i hi]

def PRho (st0 : Store) (ρ : Nm) : Prop := ρ "tops" = some (.ref st0.length) ∧ ρ "piles" = some (.ref (st0.length + 1)) ∧ ρ "sums" = some (.ref (st0.length + 2)) ∧ ρ "told" = some (.ref (st0.length + 3))
theorem PRho.up {st0 : Store} {ρ : Nm} {x : Str} {v : V} (h : PRho st0 ρ) (h1 : "tops" ≠ x := by decide) (h2 : "piles" ≠ x := by decide) (h3 : "sums" ≠ x := by decide) (h4 : "told" ≠ x := by decide) : PRho st0 (upd ρ x v) :=
  ⟨nm_ne h.1 h1, nm_ne h.2.1 h2, nm_ne h.2.2.1 h3, nm_ne h.2.2.2 h4⟩

theorem SP.pileAt {st0 st : Store} {D : List Ent} {T : List Int} (P : SP st0 st D T) {k : Nat} (hk : k < T.length) : ((List.range T.length).map fun j => V.ref (st0.length + 4 + 2 * j))[((k : Int)).toNat]? = some (.ref (st0.length + 4 + 2 * k)) := by
  simp [hk]
theorem SP.sumAt {st0 st : Store} {D : List Ent} {T : List Int} (P : SP st0 st D T) {k : Nat} (hk : k < T.length) : ((List.range T.length).map fun j => V.ref (st0.length + 5 + 2 * j))[((k : Int)).toNat]? = some (.ref (st0.length + 5 + 2 * k)) := by
  simp [hk]

def inFor (cs : List Stmt) (i : Nat) : List Stmt := match cs[i]? with
  | some (Stmt.For _ _ b _ _) => b
  | _ => []

theorem turn_ex (h : L4 B) {L : Addr} {st0 st : Store} (hm : m ≤ st0.length) {ρ : Nm} {D : List Ent} {T : List Int} {x : Int} {k i : Nat} (R : PRho st0 ρ) (P : SP st0 st D T) (Q : Pl D T) (C : Cut T x k) (hT : T.length ≤ i) (hi : i ≤ 1000) (hDl : D.length ≤ i) (hcl : ∀ j, (cls D j).length ≤ i) :
    EX B (n + 2) (callEnvC (fdOf (hd.heap_39 B.w.params) 39) L 39) m (upd ρ "x" (.int x)) st (inFor (bodyOf (fdOf (hd.heap_39 B.w.params) 39)) 1) (fun f ρ' st' => match f with | .next | .cont => PRho st0 ρ' ∧ ∃ T', SP st0 st' (D ++ [(x, nxt D x)]) T' ∧ Pl (D ++ [(x, nxt D x)]) T' ∧ T'.length ≤ i + 1 | .brk => False | .ret v => False) := by
  have R := R.up (x := "x") (v := .int x)
  refine ex_cons ?_
  refine xa ?_
  refine PE.pm (pe_callFn (f_ok h 32 (by kernel_rfl)) (by kernel_rfl) (g_g h (by kernel_rfl)) (pes_cons (pn R.1) (pes_cons (pn nm_eq) pes_nil)) (left_pl h (l := T.map V.int) (r := k) P.tops (by simp; omega) (by simpa using C.le) ?_)) ?_
  · intro i v hv
    obtain ⟨t, ht, rfl⟩ : ∃ t, T[i]? = some t ∧ V.int t = v := by simpa using hv
    exact o_ltD (by simp [C.at_ i t ht])
  have R := R.up (x := "k") (v := .int k)
  have hlen : lis st (.ref st0.length) = some (T.map V.int) := P.tops
  refine ex_cons ?_
  refine x_ifJ (c := (k : Int) == T.length) (fun ρ st => PRho st0 ρ ∧ ρ "k" = some (.int k) ∧ ρ "x" = some (.int x) ∧ ∃ T', SP st0 st D T' ∧ k < T'.length ∧ T'.set k x = newTops T k x ∧ T'.length ≤ i + 1) ?_ ?_ ?_ ?_
  · exact pt_cmp (pn nm_eq) (pe_callB (g_len h) (by kernel_rfl) (pes_cons (pn R.1) pes_nil) (o_lenN hlen (by simp) (by omega))) o_eq
  · intro hk
    have hk : k = T.length := by have := eq_of_beq hk; omega
    have e1 : st.length = st0.length + 4 + 2 * T.length := P.len
    refine ex_cons ?_
    refine x_expr ?_
    refine pm_meth (pn R.1) hlen ?_ F.slot_list_append rfl
    refine (pes_cons (pn (nm_ne nm_eq)) pes_nil).pms ?_
    refine om_append P.tops hm (by simp [sizeLine]; omega) ?_
    refine ex_cons ?_
    refine x_expr ?_
    have p2 : (st.set st0.length (T.map V.int ++ [.int x]))[st0.length + 1]? = some ((List.range T.length).map fun j => V.ref (st0.length + 4 + 2 * j)) := by rw [List.getElem?_set_ne (by omega)]; exact P.piles
    refine pm_meth (v₀ := .ref (st0.length + 1)) (pn R.2.1) p2 ?_ F.slot_list_append rfl
    refine pms_cons ?_
    refine pm_list (vs := []) pes_nil (pms_nil ?_) (by simp)
    refine om_append (l := (List.range T.length).map fun j => V.ref (st0.length + 4 + 2 * j)) (by rw [List.getElem?_append_left (by simp; omega)]; exact p2) (by omega) (by simp [sizeLine]; omega) ?_
    refine ex_cons ?_
    refine x_expr ?_
    have p3 : (((st.set st0.length (T.map V.int ++ [V.int x])) ++ [[]]).set (st0.length + 1) (((List.range T.length).map fun j => V.ref (st0.length + 4 + 2 * j)) ++ [V.ref (st.set st0.length (T.map V.int ++ [V.int x])).length]))[st0.length + 2]? = some ((List.range T.length).map fun j => V.ref (st0.length + 5 + 2 * j)) := by
      rw [List.getElem?_set_ne (by omega), List.getElem?_append_left (by simp; omega), List.getElem?_set_ne (by omega)]; exact P.sums
    refine pm_meth (v₀ := .ref (st0.length + 2)) (pn R.2.2.1) p3 ?_ F.slot_list_append rfl
    refine pms_cons ?_
    refine pm_list (vs := [.int 0]) (pes_cons pe_int pes_nil) (pms_nil ?_) (by simp [sizeLine])
    refine om_append (l := (List.range T.length).map fun j => V.ref (st0.length + 5 + 2 * j)) (by rw [List.getElem?_append_left (by simp; omega)]; exact p3) (by omega) (by simp [sizeLine]; omega) ?_
    refine ex_nil ⟨rfl, R, nm_eq, nm_ne nm_eq, T ++ [x], P.grow x ?_, by simp [hk], by simp [newTops, hk], by simp; omega⟩
    refine List.filter_eq_nil_iff.mpr fun e he => ?_
    have := Q.sz e he
    simp
    omega
  · intro hk
    have hk : k ≠ T.length := fun e => by rw [e] at hk; simp at hk
    have := C.le
    exact ex_nil ⟨rfl, R, nm_eq, nm_ne nm_eq, T, P, by omega, by simp [newTops, hk], by omega⟩
  have hge : ∀ e ∈ cls D k, x ≤ e.1 := fun e he => by
    by_cases hkT : k < T.length
    · have h1 := Q.least (k := k) (t := T[k]) (List.getElem?_eq_getElem hkT) e he
      have h2 := C.at_ k T[k] (List.getElem?_eq_getElem hkT)
      omega
    · have := Q.sz e (mem_cls.mp he).1
      have := (mem_cls.mp he).2
      have := C.le
      omega
  have hlT : (newTops T k x).length ≤ i + 1 := by rw [newTops_length _ _ _ C.le]; split <;> omega
  have hnx := nxt_eq Q C
  have hstep := Q.step C
  rw [hnx.1] at hstep ⊢
  clear hlen
  rintro ρ st ⟨R2, hk, hx, T', P, hkT, hset, hT'⟩
  have pk : lis st (.ref (st0.length + 4 + 2 * k)) = some ((cls D k).map fun e => .int (-e.1)) := P.pile k hkT
  have hclk := hcl k
  refine ex_cons ?_
  refine x_if (c := false) ?_ (fun h => by cases h) (fun _ => ex_nil ?_)
  · refine pt_cmp (pe_callFn (f_ok h 23 (by kernel_rfl)) (by kernel_rfl) (g_g h (by kernel_rfl)) (pes_cons (pe_sub (pn R2.2.1) (pn hk) (o_item (l := (List.range T'.length).map fun j => .ref (st0.length + 4 + 2 * j)) P.piles (by omega) (P.pileAt hkT) (by simp; omega))) (pes_cons (pe_un (pn hx) o_neg) pes_nil)) (right_pl h (r := (cls D k).length) pk (by simp; omega) (by simp) ?_)) (pe_callB (g_len h) (by kernel_rfl) (pes_cons (pe_sub (pn R2.2.1) (pn hk) (o_item (l := (List.range T'.length).map fun j => .ref (st0.length + 4 + 2 * j)) P.piles (by omega) (P.pileAt hkT) (by simp; omega))) pes_nil) (o_lenN pk (by simp) (by omega))) o_neF
    intro j v hv
    obtain ⟨e, he, rfl⟩ : ∃ e, (cls D k)[j]? = some e ∧ V.int (-e.1) = v := by simpa using hv
    have h1 := (List.getElem?_eq_some_iff.mp he).1
    have h2 := hge e (List.mem_of_getElem? he)
    refine o_ltD ?_
    rw [decide_eq_false (by omega), decide_eq_false (by omega)]
  refine ex_cons ?_
  refine xa (pe_int.pm ?_)
  refine ex_cons ?_
  refine x_ifJ (c := decide ((0 : Int) < k)) (fun ρ' st' => st' = st ∧ PRho st0 ρ' ∧ ρ' "k" = some (.int k) ∧ ρ' "x" = some (.int x) ∧ ρ' "ways" = some (.int (waysOf D k x))) (pt_cmp (pn (nm_ne hk)) pe_int o_gt) ?_ ?_ ?_
  · intro hk0
    obtain ⟨k', rfl⟩ : ∃ k', k = k' + 1 := ⟨k - 1, by simp at hk0; omega⟩
    obtain ⟨r, hr1, hr2, hr3⟩ := cut_class (cls D k') x (Q.dec k')
    have pk' : lis st (.ref (st0.length + 4 + 2 * k')) = some ((cls D k').map fun e => .int (-e.1)) := P.pile k' (by omega)
    have sk' : lis st (.ref (st0.length + 5 + 2 * k')) = some ((psum 0 ((cls D k').map (·.2.2))).map V.int) := P.sum k' (by omega)
    have hclk' := hcl k'
    have hto : (((k' + 1 : Nat) : Int) - 1).toNat = k' := by omega
    have ip : ((List.range T'.length).map fun j => V.ref (st0.length + 4 + 2 * j))[(((k' + 1 : Nat) : Int) - 1).toNat]? = some (.ref (st0.length + 4 + 2 * k')) := by rw [hto, List.getElem?_map, List.getElem?_range (by omega)]; rfl
    have is : ((List.range T'.length).map fun j => V.ref (st0.length + 5 + 2 * j))[(((k' + 1 : Nat) : Int) - 1).toNat]? = some (.ref (st0.length + 5 + 2 * k')) := by rw [hto, List.getElem?_map, List.getElem?_range (by omega)]; rfl
    refine ex_cons ?_
    refine xa (PE.pm (pe_callFn (f_ok h 23 (by kernel_rfl)) (by kernel_rfl) (g_g h (by kernel_rfl)) (pes_cons (pe_sub (pn (nm_ne R2.2.1)) (pe_bin (pn (nm_ne hk)) pe_int o_sub) (o_item (l := (List.range T'.length).map fun j => .ref (st0.length + 4 + 2 * j)) P.piles (by omega) ip (by simp; omega))) (pes_cons (pe_un (pn (nm_ne hx)) o_neg) pes_nil)) (right_pl h (r := r) pk' (by simp; omega) (by simpa using hr1) ?_)) ?_)
    · intro j v hv
      obtain ⟨e, he, rfl⟩ : ∃ e, (cls D k')[j]? = some e ∧ V.int (-e.1) = v := by simpa using hv
      have h2 := hr2 j e he
      refine o_ltD ?_
      rw [decide_eq_decide]; omega
    refine ex_cons ?_
    refine x_if (c := false) ?_ (fun h => by cases h) (fun _ => ex_nil ?_)
    · refine pt_cmp (pe_callFn (f_ok h 32 (by kernel_rfl)) (by kernel_rfl) (g_g h (by kernel_rfl)) (pes_cons (pe_sub (pn (nm_ne (nm_ne R2.2.1))) (pe_bin (pn (nm_ne (nm_ne hk))) pe_int o_sub) (o_item (l := (List.range T'.length).map fun j => .ref (st0.length + 4 + 2 * j)) P.piles (by omega) ip (by simp; omega))) (pes_cons (pe_bin pe_int (pn (nm_ne (nm_ne hx))) o_sub) pes_nil)) (left_pl h (r := r) pk' (by simp; omega) (by simpa using hr1) ?_)) (pn nm_eq) o_neF
      intro j v hv
      obtain ⟨e, he, rfl⟩ : ∃ e, (cls D k')[j]? = some e ∧ V.int (-e.1) = v := by simpa using hv
      have h2 := hr2 j e he
      refine o_ltD ?_
      rw [decide_eq_decide]; omega
    refine ex_cons ?_
    have l1 : ((psum 0 ((cls D k').map (·.2.2))).map V.int).length = (cls D k').length + 1 := by simp [psum_length]
    have g1 : ((psum 0 ((cls D k').map (·.2.2))).map V.int)[((-1 : Int) + ((psum 0 ((cls D k').map (·.2.2))).map V.int).length).toNat]? = some (.int ((cls D k').map (·.2.2)).sum) := by
      rw [show ((-1 : Int) + ((psum 0 ((cls D k').map (·.2.2))).map V.int).length).toNat = (cls D k').length from by rw [l1]; omega]
      rw [List.getElem?_map, psum_get _ _ _ (by simp), List.take_of_length_le (by simp)]; simp
    have g2 : ((psum 0 ((cls D k').map (·.2.2))).map V.int)[((r : Nat) : Int).toNat]? = some (.int (((cls D k').map (·.2.2)).take r).sum) := by
      rw [show ((r : Nat) : Int).toNat = r from by omega]
      rw [List.getElem?_map, psum_get _ _ _ (by simpa using hr1)]; simp
    refine xa (PE.pm (pe_bin (pe_sub (pe_sub (pn (nm_ne (nm_ne R2.2.2.1))) (pe_bin (pn (nm_ne (nm_ne hk))) pe_int o_sub) (o_item (l := (List.range T'.length).map fun j => .ref (st0.length + 5 + 2 * j)) P.sums (by omega) is (by simp; omega))) (pe_un pe_int o_neg) (o_itemNeg sk' (by decide) (by rw [l1]; omega) g1 (by rw [l1]; omega))) (pe_sub (pe_sub (pn (nm_ne (nm_ne R2.2.2.1))) (pe_bin (pn (nm_ne (nm_ne hk))) pe_int o_sub) (o_item (l := (List.range T'.length).map fun j => .ref (st0.length + 5 + 2 * j)) P.sums (by omega) is (by simp; omega))) (pn nm_eq) (o_item sk' (by omega) g2 (by rw [l1]; omega))) o_sub) ?_)
    refine ex_nil ⟨rfl, rfl, R2.up.up.up, nm_ne (nm_ne (nm_ne hk)), nm_ne (nm_ne (nm_ne hx)), ?_⟩
    rw [nm_eq]
    simp only [waysOf, Nat.add_one_ne_zero, if_false, Nat.add_sub_cancel]
    rw [hr3]
  · intro hk0
    have : k = 0 := by simp at hk0; omega
    refine ex_nil ⟨rfl, rfl, R2.up, nm_ne hk, nm_ne hx, ?_⟩
    rw [nm_eq, waysOf, if_pos this]
  clear hk hx R2
  rintro ρ st' ⟨hst, R2, hk, hx, hw⟩
  subst hst
  generalize waysOf D k x = w at *
  have hkT' : k < (newTops T k x).length := by rw [← hset]; simpa using hkT
  refine ex_cons ?_
  refine x_setitem (PE.pm (pn hx) ⟨st0.length, T'.map V.int, k, pn R2.1, P.tops, pn hk, by omega, by simp; omega, by simp; omega, hm, ?_⟩)
  have P1 : SP st0 (st'.set st0.length ((T'.map V.int).set ((k : Int)).toNat (.int x))) D (newTops T k x) := by
    rw [show (T'.map V.int).set ((k : Int)).toNat (.int x) = (newTops T k x).map V.int from by rw [← hset]; simp [List.map_set]]
    exact P.setTops (by rw [← hset]; simp)
  generalize st'.set st0.length ((T'.map V.int).set ((k : Int)).toNat (.int x)) = st1 at P1 ⊢
  generalize newTops T k x = T1 at *
  have e1 := P1.len
  have pk : lis st1 (.ref (st0.length + 4 + 2 * k)) = some ((cls D k).map fun e => .int (-e.1)) := P1.pile k hkT'
  have sk : st1[st0.length + 5 + 2 * k]? = some ((psum 0 ((cls D k).map (·.2.2))).map V.int) := P1.sum k hkT'
  refine ex_cons ?_
  refine x_expr ?_
  refine pm_meth (pe_sub (pn R2.2.1) (pn hk) (o_item (l := (List.range T1.length).map fun j => .ref (st0.length + 4 + 2 * j)) P1.piles (by omega) (P1.pileAt hkT') (by simp; omega))) pk ?_ F.slot_list_append rfl
  refine (pes_cons (pe_un (pn hx) o_neg) pes_nil).pms ?_
  refine om_append pk (by omega) (by simp [sizeLine]; omega) ?_
  have s2 : (st1.set (st0.length + 4 + 2 * k) (((cls D k).map fun e => V.int (-e.1)) ++ [.int (-x)]))[st0.length + 2]? = some ((List.range T1.length).map fun j => .ref (st0.length + 5 + 2 * j)) := by rw [List.getElem?_set_ne (by omega)]; exact P1.sums
  have sk2 : (st1.set (st0.length + 4 + 2 * k) (((cls D k).map fun e => V.int (-e.1)) ++ [.int (-x)]))[st0.length + 5 + 2 * k]? = some ((psum 0 ((cls D k).map (·.2.2))).map V.int) := by rw [List.getElem?_set_ne (by omega)]; exact sk
  have l1 : ((psum 0 ((cls D k).map (·.2.2))).map V.int).length = (cls D k).length + 1 := by simp [psum_length]
  have g1 : ((psum 0 ((cls D k).map (·.2.2))).map V.int)[((-1 : Int) + ((psum 0 ((cls D k).map (·.2.2))).map V.int).length).toNat]? = some (.int ((cls D k).map (·.2.2)).sum) := by
    rw [show ((-1 : Int) + ((psum 0 ((cls D k).map (·.2.2))).map V.int).length).toNat = (cls D k).length from by rw [l1]; omega]
    rw [List.getElem?_map, psum_get _ _ _ (by simp), List.take_of_length_le (by simp)]; simp
  refine ex_cons ?_
  refine x_expr ?_
  refine pm_meth (v₀ := .ref (st0.length + 5 + 2 * k)) (pe_sub (a := .ref (st0.length + 2)) (pn R2.2.2.1) (pn hk) (o_item s2 (by omega) (P1.sumAt hkT') (by simp; omega))) sk2 ?_ F.slot_list_append rfl
  refine PEs.pms (pes_cons (pe_bin (pe_sub (a := .ref (st0.length + 5 + 2 * k)) (pe_sub (a := .ref (st0.length + 2)) (pn R2.2.2.1) (pn hk) (o_item s2 (by omega) (P1.sumAt hkT') (by simp; omega))) (pe_un pe_int o_neg) (o_itemNeg sk2 (by decide) (by rw [l1]; omega) g1 (by rw [l1]; omega))) (pn hw) o_add) pes_nil) ?_
  refine om_append sk2 (by omega) (by rw [l1]; simp [sizeLine]; omega) ?_
  refine ex_cons ?_
  refine x_expr ?_
  have t2 : ((st1.set (st0.length + 4 + 2 * k) (((cls D k).map fun e => V.int (-e.1)) ++ [.int (-x)])).set (st0.length + 5 + 2 * k) (((psum 0 ((cls D k).map (·.2.2))).map V.int) ++ [.int (((cls D k).map (·.2.2)).sum + w)]))[st0.length + 3]? = some (toldOf D) := by rw [List.getElem?_set_ne (by omega), List.getElem?_set_ne (by omega)]; exact P1.told
  refine pm_meth (v₀ := .ref (st0.length + 3)) (pn R2.2.2.2) t2 ?_ F.slot_list_append rfl
  refine (pes_cons (pe_tuple (pes_cons (pe_bin (pn hk) pe_int o_add) (pes_cons (pn hw) pes_nil))) pes_nil).pms ?_
  refine om_append t2 (by omega) (by simp [toldOf, sizeLine]; omega) ?_
  exact ex_nil ⟨R2, T1, P1.lay hkT' x w, hstep, hlT⟩

theorem piles_ex (h : L4 B) {L : Addr} {st0 : Store} (hm : m ≤ st0.length) {ns : List Int} (hfit : ns.length ≤ 1000) :
    EX B (n + 2) (callEnvC (fdOf (hd.heap_39 B.w.params) 39) L 39) m (fun y => ((["numbers"] : List Str).zip [.lst (ns.map V.int)]).lookup y) st0 (bodyOf (fdOf (hd.heap_39 B.w.params) 39)) (fun fl _ st' => retOf fl = .ref (st0.length + 3) ∧ ∃ T, SP st0 st' (runD ns []) T) := by
  refine ex_cons (x_assignT (xs := ["tops", "piles", "sums", "told"]) ?_)
  refine pm_tuple (pms_cons ?_)
  refine pm_list (vs := []) pes_nil (pms_cons ?_) (by simp)
  refine pm_list (vs := []) pes_nil (pms_cons ?_) (by simp)
  refine pm_list (vs := []) pes_nil (pms_cons ?_) (by simp)
  refine pm_list (vs := []) pes_nil (pms_nil ?_) (by simp)
  refine ⟨by simp [sizeLine], _, pa_tuple (pas_cons (pa_name (by simp) (.inl (by kernel_rfl))) (pas_cons (pa_name (by simp) (.inl (by kernel_rfl))) (pas_cons (pa_name (by simp) (.inl (by kernel_rfl))) (pas_cons (pa_name (by simp) (.inl (by kernel_rfl))) pas_nil)))), ?_⟩
  refine ex_cons (x_for (xs := ["x"]) (pi_list (pn (v := .lst (ns.map V.int)) (nm_ne (nm_ne (nm_ne (nm_ne (by kernel_rfl)))))) rfl) trivial (fun i ρ st => PRho st0 ρ ∧ ∃ T, SP st0 st (runD (ns.take i) []) T ∧ Pl (runD (ns.take i) []) T ∧ T.length ≤ i) ?_ ?_ ?_)
  · refine ⟨⟨nm_ne (nm_ne (nm_ne nm_eq)), ?_, ?_, ?_⟩, [], ?_, ?_, by simp⟩
    · refine (nm_ne (nm_ne nm_eq)).trans ?_
      simp
    · refine (nm_ne nm_eq).trans ?_
      simp
    · refine nm_eq.trans ?_
      simp
    · refine ⟨by simp, ?_, ?_, ?_, ?_, fun j hj => ?_, fun j hj => ?_, fun i hi => ?_⟩
      · simp [List.getElem?_append]
      · simp [List.getElem?_append]
      · simp [List.getElem?_append]
      · simp [List.getElem?_append, runD, toldOf]
      · simp at hj
      · simp at hj
      · simp [List.getElem?_append_left hi, List.append_assoc]
    · refine ⟨?_, ?_, ?_, ?_, ?_⟩ <;> simp [runD, cls]
  · rintro i v ρ st hi ⟨R, T, P, Q, hT⟩
    have hi' : i < ns.length := by have := (List.getElem?_eq_some_iff.mp hi).1; simpa using this
    obtain ⟨x, hx, rfl⟩ : ∃ x, ns[i]? = some x ∧ V.int x = v := by simpa using hi
    have htk : ns.take (i + 1) = ns.take i ++ [x] := by rw [List.take_succ, hx]; rfl
    have hDl : (runD (ns.take i) []).length ≤ i := by rw [runD_length]; simp; omega
    have hcl : ∀ j, (cls (runD (ns.take i) []) j).length ≤ i := fun j => Nat.le_trans (List.length_filter_le ..) hDl
    rw [htk, runD_snoc]
    generalize runD (ns.take i) [] = D at *
    obtain ⟨k, C⟩ := cut_exists Q.inc x
    refine ⟨rfl, _, pa_name (by simp) (.inl (by kernel_rfl)), ?_⟩
    refine (turn_ex h hm R P Q C hT (by omega) hDl hcl).mono fun f ρ' st' q => ?_
    cases f <;> first | exact q | exact q.elim
  · rintro ρ st ⟨R, T, P, _⟩
    refine ⟨rfl, ex_cons (x_return ((pn R.2.2.2).pm ⟨rfl, T, ?_⟩))⟩
    simpa using P
end
end Mine

-- part X4
namespace Mine
section
variable {B : Bs} {n m : Nat}

theorem piles_om (h : L4 B) {st0 : Store} (hm : m ≤ st0.length) {ns : List Int} (hfit : ns.length ≤ 1000) {Ψ : V → Store → Prop} (hp : ∀ st' T, SP st0 st' (runD ns []) T → Ψ (.ref (st0.length + 3)) st') :
    OM B (n + 3) m st0 (fun xs => call (.ref 39) xs) [.lst (ns.map V.int)] Ψ := by
  refine fn_om (names := ["numbers"]) (ws := [.lst (ns.map V.int)]) (pos := fun xs => xs) (kw := fun _ => []) (f_ok h 39 (by kernel_rfl)) (by kernel_rfl) rfl (fun H hp xs S rr => ?_) fun L => (piles_ex h hm hfit).mono fun f ρ' st' ⟨q, T, P⟩ => by rw [q]; exact hp st' T P
  cases rr with
  | @cons y1 _ _ _ r1 rr =>
    cases rr
    refine ⟨[y1], fun S => ?_, .cons r1 .nil⟩
    rw [h.hK]
    kernel_rfl

theorem g_range (h : L4 B) : (B.mg "range").or (B.mb "range") = some (.type "range") := g_b h (by kernel_rfl) (by decide +kernel) (by decide +kernel)
theorem g_max (h : L4 B) : (B.mg "max").or (B.mb "max") = some (.builtin "max") := g_b h (by kernel_rfl) (by decide +kernel) (by decide +kernel)
theorem g_sum (h : L4 B) : (B.mg "sum").or (B.mb "sum") = some (.builtin "sum") := g_b h (by kernel_rfl) (by decide +kernel) (by decide +kernel)

theorem zipIdx_filter {α : Type} (p : α → Bool) : ∀ (l : List α) (k : Nat), ((l.zipIdx k).filter fun a => p a.1).map (·.1) = l.filter p
  | [], k => rfl
  | a :: l, k => by
    simp only [List.zipIdx_cons, List.filter_cons]
    cases p a <;> simp [zipIdx_filter p l]

theorem ftrue {α : Type} (l : List α) : (l.filter fun _ => true) = l := List.filter_eq_self.mpr fun _ _ => rfl
theorem told_py (D : List Ent) (st : Store) : pys st 1 (toldOf D) = some (D.map fun e => .tuple [.int e.2.1, .int e.2.2]) := by
  induction D with
  | nil => simp [toldOf, pys]
  | cons e D ih =>
    unfold toldOf at ih
    simp [toldOf, pys, py, ih]
theorem layAll {n : Nat} : ∀ (ds : List PyData), (∀ d ∈ ds, d.canLay0 = true ∧ d.depth ≤ n) → PyData.canLayAll0 ds = true ∧ PyData.depthAll ds ≤ n
  | [], _ => by simp [PyData.canLayAll0, PyData.depthAll]
  | d :: ds, h => by
    have h1 := h d (by simp)
    have h2 := layAll ds fun d hd => h d (by simp [hd])
    simp only [PyData.canLayAll0, PyData.depthAll, h1.1, h2.1, true_and, Bool.and_self]
    omega
theorem told_shaped (D : List Ent) : SeqAt.shaped (.list (D.map fun e => .tuple [.int e.2.1, .int e.2.2])) = true := by
  have := layAll (n := 5) (D.map fun e => .tuple [.int e.2.1, .int e.2.2]) (fun d hd => by
    obtain ⟨e, _, rfl⟩ := List.mem_map.mp hd
    simp [PyData.canLay0, PyData.canLayAll0, PyData.depth, PyData.depthAll])
  simp only [SeqAt.shaped, PyData.canLay0, this.1, PyData.depth, Bool.true_and, decide_eq_true_eq, Nat.reduceLeDiff]
  have := this.2
  omega

theorem law_ex (h : L4 B) {L : Addr} {ns : List Int} (hfit : ns.length ≤ 100) :
    EX B (n + 3) (callEnvC (fdOf (hd.heap_39 B.w.params) 44) L 44) 0 (fun y => ((["script"] : List Str).zip [.lst (ns.map V.int)]).lookup y) [] (bodyOf (fdOf (hd.heap_39 B.w.params) 44)) (fun fl _ st' => retOf fl = .bool true) := by
  refine ex_cons ?_
  refine xc (PE.pm (pe_bin (pn (v := .lst (ns.map V.int)) (by kernel_rfl)) (pe_list (pes_cons pe_int pes_nil)) (o_addL rfl rfl (by simp [sizeLine]; omega))) ?_)
  have e0 : ns.map V.int ++ [V.int 0] = (ns ++ [0]).map V.int := by simp
  rw [e0]
  have hN : (ns ++ [0]).length ≤ 101 := by simp; omega
  generalize ns ++ [0] = ns at *
  refine ex_cons ?_
  refine xc (pm_list (vs := []) pes_nil ?_ (by simp))
  refine ex_cons ?_
  refine x_for (xs := ["i"]) (pi_rangeN (k := ns.length) (pe_callB (g_len h) (by kernel_rfl) (pes_cons (pc (nm_ne nm_eq)) pes_nil) (o_lenN (l := ns.map V.int) rfl (by simp) (by omega))) rfl (by omega) (g_range h)) trivial (fun i ρ st => ρ "numbers" = some (.lst (ns.map V.int)) ∧ ρ "due" = some (.ref 0) ∧ st = [toldOf (runD (ns.take i) [])]) ⟨nm_ne nm_eq, nm_eq, rfl⟩ ?_ ?_
  · rintro i v ρ st hi ⟨r1, r2, rfl⟩
    have hi' : i < ns.length := by have := (List.getElem?_eq_some_iff.mp hi).1; simpa using this
    obtain rfl : V.int i = v := by simpa [hi'] using hi
    have htk : ns.take (i + 1) = ns.take i ++ [ns[i]] := by rw [List.take_succ, List.getElem?_eq_getElem hi']; rfl
    have hDl : (runD (ns.take i) []).length = i := by rw [runD_length]; simp; omega
    have hfst := runD_fst (ns.take i) []
    rw [htk, runD_snoc]
    generalize runD (ns.take i) [] = D at *
    have hx : ns[i]? = some ns[i] := List.getElem?_eq_getElem hi'
    generalize ns[i] = x at *
    have hDj : ∀ (j : Nat) e, D[j]? = some e → ns[j]? = some e.1 := fun j e he => by
      have h1 := (List.getElem?_eq_some_iff.mp he).1
      have h2 : (D.map (·.1))[j]? = some e.1 := by simp [he]
      rw [hfst] at h2
      simp only [List.map_nil, List.nil_append] at h2
      rwa [List.getElem?_take_of_lt (by omega)] at h2
    refine ⟨trivial, _, pa_name (by simp) (.inr (by kernel_rfl)), ?_⟩
    refine ex_cons ?_
    refine xu (out := toldOf (D.filter fun e => decide (e.1 < x))) (pc_name (D.zipIdx) (fun a => .int (a.2 : Nat)) (fun a => decide (a.1.1 < x)) (fun a => .tup [.int a.1.2.1, .int a.1.2.2]) ?_ (pi_rangeN (k := i) (pc nm_eq) rfl (by omega) (g_range h)) ?_ trivial ?_ ?_ (by simp [sizeLine]; omega)) ?_
    · unfold toldOf
      rw [← zipIdx_filter _ D 0, List.map_map]; rfl
    · rw [← hDl]
      rw [show (List.range D.length) = D.zipIdx.map (·.2) from by simp [List.range_eq_range']]
      rw [List.map_map]; rfl
    · rintro ⟨e, j⟩ ha C
      have hj : D[j]? = some e := by simpa [List.mk_mem_zipIdx_iff_getElem?] using ha
      refine pts_one (pt_cmp (pe_sub (pc (nm_ne (rs (nm_ne r1)))) (pn nm_eq) (o_item (l := ns.map V.int) rfl (by omega) (c := .int e.1) (by simp [hDj j e hj]) (by simp; omega))) (pe_sub (pc (nm_ne (rs (nm_ne r1)))) (pc (nm_ne (rs nm_eq))) (o_item (l := ns.map V.int) rfl (by omega) (c := .int x) (by simp [hx]) (by simp; omega))) o_lt)
    · rintro ⟨e, j⟩ ha _ C
      have hj : D[j]? = some e := by simpa [List.mk_mem_zipIdx_iff_getElem?] using ha
      refine pe_sub (pc (nm_ne (rs (nm_ne r2)))) (pn nm_eq) (o_item (l := toldOf D) rfl (by omega) (by simp [toldOf, hj]) (by simp [toldOf]; omega))
    have hless : (D.filter fun e => decide (e.1 < x)).length ≤ i := by rw [← hDl]; exact List.length_filter_le ..
    have hnx : nxt D x = (1 + ((D.filter fun e => decide (e.1 < x)).map (·.2.1)).foldl max 0, max 1 (((D.filter fun e => decide (e.1 < x)).filter fun e => e.2.1 == (1 + ((D.filter fun e => decide (e.1 < x)).map (·.2.1)).foldl max 0) - 1).map (·.2.2)).sum) := rfl
    rw [hnx]
    generalize (D.filter fun e => decide (e.1 < x)) = less at *
    have hM := foldl_max_ge (less.map (·.2.1)) 0
    have hMm := foldl_max_mem (less.map (·.2.1)) 0
    generalize hMe : (less.map (·.2.1)).foldl max 0 = M at *
    refine ex_cons ?_
    refine xc (PE.pm (pe_bin pe_int (pe_callB (g_max h) (by kernel_rfl) (pes_cons (pe_bin (pe_list (pes_cons pe_int pes_nil)) (PC.pe (out := less.map fun e => V.int e.2.1) (pc_two less (fun e => .int e.2.1) (fun e => .int e.2.2) (fun _ => true) (fun e => .int e.2.1) (by rw [ftrue]) (pi_list (pn nm_eq) rfl) rfl trivial (fun a _ C => pts_nil) (fun a _ _ C => pn (nm_ne nm_eq)) (by simp [sizeLine]; omega))) (o_addL rfl rfl (by simp [sizeLine]; omega))) pes_nil) (o_maxL (ns := 0 :: less.map (·.2.1)) (M := M) (by simp [lis]) ?_ ?_)) o_add) ?_)
    · rcases hMm with h1 | h1 <;> simp_all
    · intro y hy
      rcases List.mem_cons.mp hy with h1 | h1
      · omega
      · exact hM.2 y h1
    refine ex_cons ?_
    refine x_expr ?_
    refine pm_meth (v₀ := .ref 0) (l := toldOf D) (pc (nm_ne (nm_ne (nm_ne r2)))) rfl ?_ F.slot_list_append rfl
    refine PEs.pms (pes_cons (pe_tuple (pes_cons (pc nm_eq) (pes_cons (pe_callB (g_max h) (by kernel_rfl) (pes_cons pe_int (pes_cons (pe_callB (g_sum h) (by kernel_rfl) (pes_cons (PC.pe (pc_two less (fun e => .int e.2.1) (fun e => .int e.2.2) (fun e => e.2.1 == 1 + M - 1) (fun e => .int e.2.2) rfl (pi_list (l := toldOf less) (pn (nm_ne nm_eq)) rfl) rfl trivial (fun a _ C => pts_one (pt_cmp (pn (nm_ne nm_eq)) (pe_bin (pc (nm_ne (nm_ne (rs nm_eq)))) pe_int o_sub) o_eq)) (fun a _ _ C => pn nm_eq) (by simp [sizeLine]; omega))) pes_nil) (o_sumL (ns := (less.filter fun e => e.2.1 == 1 + M - 1).map (·.2.2)) (by simp [lis]))) pes_nil)) o_max2) pes_nil))) pes_nil) ?_
    refine om_append (l := toldOf D) rfl (by omega) (by simp [toldOf, sizeLine]; omega) ?_
    refine ex_nil ⟨nm_ne (nm_ne (nm_ne r1)), nm_ne (nm_ne (nm_ne r2)), ?_⟩
    simp only [List.set_cons_zero, toldOf, List.map_append, List.map_cons, List.map_nil]
    have hmx : ∀ a : Int, (if a > 1 then a else 1) = max 1 a := fun a => by omega
    rw [hmx]
  · rintro ρ st ⟨r1, r2, rfl⟩
    have e1 : ns.take ((List.range ns.length).map fun j => V.int (j : Nat)).length = ns := List.take_of_length_le (by simp)
    rw [e1]
    refine ⟨trivial, ex_cons (x_return ?_)⟩
    refine pm_cmp ?_
    refine pm_callFn (f_ok h 39 (by kernel_rfl)) (by kernel_rfl) (g_g h (by kernel_rfl)) (PEs.pms (pes_cons (pc r1) pes_nil) ?_)
    refine piles_om h (Nat.zero_le _) (by omega) fun st' T P => ?_
    have q0 : st'[0]? = some (toldOf (runD ns [])) := P.old 0 (by simp)
    have q3 : st'[4]? = some (toldOf (runD ns [])) := P.told
    refine ⟨.ref 0, .bool true, pc r2, o_eqSame 2 2 (d := .list ((runD ns []).map fun e => .tuple [.int e.2.1, .int e.2.2])) ?_ ?_ (told_shaped _), rfl⟩
    · show py st' 2 (.ref 4) = _
      simp only [py, q3, told_py]; rfl
    · simp only [py, q0, told_py]; rfl
end
end Mine

-- part H4
open Mine in
set_option maxRecDepth 100000 in
set_option maxHeartbeats 8000000 in
theorem PySem.Challenge.cw_dm0011_04_holds : PySem.Challenge.rw_dm0011_04.Holds := by
  exact hd (by
  intro w s₀ s₁ mg mb G Y a o pm cd doc dV kV ho hdat hcd hD hmg hg args vals as hpre hlay hrd hwl hlo
  have T := G.T
  have KX := kIn_of Y
  clear ho hdat hcd hD
  wrow_args hpre hlay hrd hwl hlo
  rename_i ns _ _ _ _ _ _ _ sc vs _ hL _ hW _ hI _ hn _
  have hn : ns.length ≤ 63 := by omega
  let B : Bs := ⟨PySem.Challenge.rw_dm0011_04.row.prog, w, s₁.heap, mg, mb, T.g, T.b, T.nolimit, T.seer (by kernel_rfl), rfl, hd.heap_39 w.params, KX, T.builtins⟩
  have h4 : L4 B := ⟨rfl⟩
  have h1 : mg "law" = some (.ref 44) := g_g h4 (by kernel_rfl)
  rw [h1] at hmg
  cases hmg
  exact law_end (B := B) (n := 3) rfl hg (f_ok h4 44 (by kernel_rfl)) (by kernel_rfl) (fun x S => by kernel_rfl) (well_list hW hL) hI (fun L => (law_ex (n := 0) h4 (by omega)).mono fun _ _ _ q => q) (by omega) (fun _ => rfl) (by wrow_post))
