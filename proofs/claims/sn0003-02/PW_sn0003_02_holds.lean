import PyProof.Rows.All
import Wide.All
import OpenK.AllK
import Wide.FinOn
import PyProof.Walk
import PyProof.WalkLemmas
import KE.KSortAsk
import KE.KSortKey
import KE.KLam
import PyProof.Rows.CallKwBuiltin
import PyProof.Rows.ListMul
import Lean
import PySem.Challenge.RW_sn0003_02
set_option Elab.async false
section
set_option Elab.async false
set_option linter.unusedVariables false
namespace Mine
open PySem PySem.W PyProof.Rows PySem.Calls

abbrev Fz := Addr → Option Obj

inductive D where
  | none
  | bool (b : Bool)
  | int (i : Int)
  | ref (a : Addr)
  | list (l : List D)
  | tup (l : List D)
  | rng (lo hi : Int)

def LstO (o : Obj) (vs : List Value) : Prop := vs.length ≤ 100000 ∧ ∃ n, o = { cls := .type "list", data := .seq vs.toArray n }
def TupO (o : Obj) (vs : List Value) : Prop := vs.length ≤ 100000 ∧ ∃ n, o = { cls := .type "tuple", data := .seq vs.toArray n }

def RngO (o : Obj) (lo hi : Int) : Prop := ∃ t u v, o = { cls := .type "range", dict := none, data := .fields #[.int lo t, .int hi u, .int 1 v], slots := #[] }

mutual
inductive Rep (F : Fz) : Value → D → Prop
  | none : Rep F .none .none
  | bool (b : Bool) : Rep F (.bool b) (.bool b)
  | int (i : Int) (t : Tok) : Rep F (.int i t) (.int i)
  | ref (a : Addr) : Rep F (.ref a) (.ref a)
  | list {a : Addr} {o : Obj} {vs : List Value} {ds : List D} : F a = some o → LstO o vs → RepL F vs ds → Rep F (.ref a) (.list ds)
  | tup {a : Addr} {o : Obj} {vs : List Value} {ds : List D} : F a = some o → TupO o vs → RepL F vs ds → Rep F (.ref a) (.tup ds)
  | rng {a : Addr} {o : Obj} {lo hi : Int} : F a = some o → RngO o lo hi → Rep F (.ref a) (.rng lo hi)
inductive RepL (F : Fz) : List Value → List D → Prop
  | nil : RepL F [] []
  | cons {v : Value} {vs : List Value} {d : D} {ds : List D} : Rep F v d → RepL F vs ds → RepL F (v :: vs) (d :: ds)
end

def Fle (F F' : Fz) : Prop := ∀ a o, F a = some o → F' a = some o
theorem Fle.refl (F : Fz) : Fle F F := fun _ _ e => e
theorem Fle.trans {F G H : Fz} (x : Fle F G) (y : Fle G H) : Fle F H := fun a o e => y a o (x a o e)

mutual
theorem Rep.mono {F F' : Fz} (hF : Fle F F') : ∀ {v : Value} {d : D}, Rep F v d → Rep F' v d
  | _, _, .none => .none
  | _, _, .bool b => .bool b
  | _, _, .int i t => .int i t
  | _, _, .ref a => .ref a
  | _, _, .list h1 h2 h3 => .list (hF _ _ h1) h2 (RepL.mono hF h3)
  | _, _, .tup h1 h2 h3 => .tup (hF _ _ h1) h2 (RepL.mono hF h3)
  | _, _, .rng h1 h2 => .rng (hF _ _ h1) h2
theorem RepL.mono {F F' : Fz} (hF : Fle F F') : ∀ {vs : List Value} {ds : List D}, RepL F vs ds → RepL F' vs ds
  | _, _, .nil => .nil
  | _, _, .cons h t => .cons (Rep.mono hF h) (RepL.mono hF t)
end

section
variable {F : Fz}
theorem RepL.length : ∀ {vs : List Value} {ds : List D}, RepL F vs ds → vs.length = ds.length
  | _, _, .nil => rfl
  | _, _, .cons _ t => congrArg (· + 1) t.length
theorem RepL.get : ∀ {vs : List Value} {ds : List D}, RepL F vs ds → ∀ {i : Nat} {d : D}, ds[i]? = some d → ∃ v, vs[i]? = some v ∧ Rep F v d
  | _, _, .cons h t, 0, d, e => by
    simp only [List.getElem?_cons_zero, Option.some.injEq] at e
    subst e
    exact ⟨_, rfl, h⟩
  | _, _, .cons _ t, i + 1, d, e => by
    simp only [List.getElem?_cons_succ] at e ⊢
    exact t.get e
theorem RepL.get' : ∀ {vs : List Value} {ds : List D}, RepL F vs ds → ∀ {i : Nat} {v : Value}, vs[i]? = some v → ∃ d, ds[i]? = some d ∧ Rep F v d
  | _, _, .cons h t, 0, d, e => by
    simp only [List.getElem?_cons_zero, Option.some.injEq] at e
    subst e
    exact ⟨_, rfl, h⟩
  | _, _, .cons _ t, i + 1, d, e => by
    simp only [List.getElem?_cons_succ] at e ⊢
    exact t.get' e
theorem RepL.append : ∀ {vs : List Value} {ds : List D} {vs' : List Value} {ds' : List D}, RepL F vs ds → RepL F vs' ds' → RepL F (vs ++ vs') (ds ++ ds')
  | _, _, _, _, .nil, h => h
  | _, _, _, _, .cons x t, h => .cons x (t.append h)
theorem RepL.drop : ∀ {vs : List Value} {ds : List D}, RepL F vs ds → ∀ n : Nat, RepL F (vs.drop n) (ds.drop n)
  | _, _, h, 0 => h
  | _, _, .nil, n + 1 => .nil
  | _, _, .cons _ t, n + 1 => t.drop n
theorem RepL.take : ∀ {vs : List Value} {ds : List D}, RepL F vs ds → ∀ n : Nat, RepL F (vs.take n) (ds.take n)
  | _, _, h, 0 => .nil
  | _, _, .nil, n + 1 => .nil
  | _, _, .cons x t, n + 1 => .cons x (t.take n)
theorem RepL.set : ∀ {vs : List Value} {ds : List D}, RepL F vs ds → ∀ (n : Nat) {v : Value} {d : D}, Rep F v d → RepL F (vs.set n v) (ds.set n d)
  | _, _, .nil, n, _, _, _ => .nil
  | _, _, .cons _ t, 0, _, _, h => .cons h t
  | _, _, .cons x t, n + 1, _, _, h => .cons x (t.set n h)
theorem RepL.eraseIdx : ∀ {vs : List Value} {ds : List D}, RepL F vs ds → ∀ (n : Nat), RepL F (vs.eraseIdx n) (ds.eraseIdx n)
  | _, _, .nil, n => .nil
  | _, _, .cons _ t, 0 => t
  | _, _, .cons x t, n + 1 => .cons x (t.eraseIdx n)
theorem Rep.int_inv {v : Value} {i : Int} (h : Rep F v (.int i)) : ∃ t, v = .int i t := by
  cases h; exact ⟨_, rfl⟩
theorem Rep.bool_inv {v : Value} {i : Bool} (h : Rep F v (.bool i)) : v = .bool i := by
  cases h; rfl
theorem Rep.none_inv {v : Value} (h : Rep F v .none) : v = .none := by
  cases h; rfl
theorem Rep.ref_inv {v : Value} {a : Addr} (h : Rep F v (.ref a)) : v = .ref a := by
  cases h; rfl
theorem Rep.list_inv {v : Value} {ds : List D} (h : Rep F v (.list ds)) : ∃ a o vs, v = .ref a ∧ F a = some o ∧ LstO o vs ∧ RepL F vs ds := by
  cases h with | list h1 h2 h3 => exact ⟨_, _, _, rfl, h1, h2, h3⟩
theorem Rep.tup_inv {v : Value} {ds : List D} (h : Rep F v (.tup ds)) : ∃ a o vs, v = .ref a ∧ F a = some o ∧ TupO o vs ∧ RepL F vs ds := by
  cases h with | tup h1 h2 h3 => exact ⟨_, _, _, rfl, h1, h2, h3⟩
theorem Rep.rng_inv {v : Value} {lo hi : Int} (h : Rep F v (.rng lo hi)) : ∃ a o, v = .ref a ∧ F a = some o ∧ RngO o lo hi := by
  cases h with | rng h1 h2 => exact ⟨_, _, rfl, h1, h2⟩
end

inductive MO where
  | list (ds : List D)
  | obj (P : Obj → Prop)
def MO.At (F : Fz) (h : Heap) (a : Addr) : MO → Prop
  | .list ds => ∃ o vs, h.get? a = some o ∧ LstO o vs ∧ RepL F vs ds
  | .obj P => ∃ o, h.get? a = some o ∧ P o
theorem MO.At.mono {F F' : Fz} {h h' : Heap} {a : Addr} {m : MO} (x : m.At F h a) (hF : Fle F F') (hh : ∀ o, h.get? a = some o → h'.get? a = some o) : m.At F' h' a := by
  cases m with
  | list ds =>
    obtain ⟨o, vs, h1, h2, h3⟩ := x
    exact ⟨o, vs, hh _ h1, h2, h3.mono hF⟩
  | obj P => exact x.imp fun o e => ⟨hh _ e.1, e.2⟩
theorem MO.At.some {F : Fz} {h : Heap} {a : Addr} {m : MO} (x : m.At F h a) : ∃ o, h.get? a = some o := by
  cases m with
  | list ds =>
    obtain ⟨o, vs, h1, h2, h3⟩ := x
    exact ⟨o, h1⟩
  | obj P => exact x.imp fun o e => e.1

abbrev Mu := List (Addr × MO)

structure Gx where
  prog : Program
  w : World
  hb : Heap
  mg : Str → Option Value
  mb : Str → Option Value
  s0 : Shared
abbrev Gx.M (G : Gx) : Model := model G.prog G.w
structure Gx.Ok (G : Gx) : Prop where
  ns : G.hb.Ns mainGlobals G.mg
  bs : G.hb.Ns builtinsNs G.mb
  nl : G.hb.NoLimit

structure Am (G : Gx) (K : Fz) (mu : Mu) (F : Fz) (s : Shared) : Prop where
  ok : G.Ok
  base : ∀ a o, G.hb.get? a = some o → F a = some o
  frz : ∀ a o, F a = some o → s.heap.get? a = some o
  dis : ∀ a o, K a = some o → F a = none
  keep : ∀ a o, K a = some o → s.heap.get? a = some o
  mus : ∀ p ∈ mu, p.2.At F s.heap p.1 ∧ F p.1 = none ∧ K p.1 = none
  nd : (mu.map (·.1)).Nodup
  gens : s.gens = G.s0.gens
  drawn : s.drawn = G.s0.drawn
  os : s.os = G.s0.os

abbrev Pred := Fz → Fz → Prop
def Pred.Mon (P : Pred) : Prop := ∀ K K' F F', P K F → Fle K K' → Fle F F' → P K' F'

structure Cx where
  G : Gx
  A : Around
  env : Env
  priv : List Addr
  rm : Nat
  ro : Mu
  pre : Pred

structure Room (A : Around) (n : Nat) : Prop where
  hh : A.handled = none
  dp : A.depth + 3 * n + 20 < recursionLimit
  un : A.units + 40 * n + 200 < cLine

structure Cx.Ok (C : Cx) : Prop where
  fn : C.env.scope.kind = .function
  gl : C.env.globals = mainGlobals
  bu : C.env.builtins = builtinsNs
  rm : Room C.A C.rm
  loc : C.env.locals ∈ C.priv
  apart : C.env.cells.Pairwise fun x y => x.2 ≠ y.2
  cne : ∀ x ∈ C.env.cells, x.2 ≠ C.env.locals
  mon : C.pre.Mon

structure St where
  vars : List (Str × D)
  mu : Mu

abbrev St.v (σ : St) (x : Str) : Option D := σ.vars.lookup x
def VarAt (env : Env) (h : Heap) (m : Str → Option Value) (x : Str) (v : Value) : Prop :=
  match env.kindOf x with
  | some .local => m x = some v
  | some .cell => ∃ c, env.cells.lookup x = some c ∧ h.IsCell c (some v)
  | some .free => ∃ c, env.cells.lookup x = some c ∧ h.IsCell c (some v)
  | _ => False

structure Mo (C : Cx) (K : Fz) (σ : St) (F : Fz) (s : Shared) : Prop where
  ok : C.Ok
  am : Am C.G K σ.mu F s
  priv : ∀ a ∈ C.priv, F a = none ∧ K a = none ∧ ∃ o, s.heap.get? a = some o
  live : ∀ x ∈ C.env.cells, (∃ v, s.heap.IsCell x.2 v) ∧ (x.2 ∈ C.priv ∨ ∃ o, K x.2 = some o)
  loc : ∃ m, s.heap.Ns C.env.locals m ∧ ∀ x d, σ.vars.lookup x = some d → ∃ v, VarAt C.env s.heap m x v ∧ Rep F v d
  pmu : ∀ p ∈ σ.mu, p.1 ∉ C.priv
  ro : ∀ p ∈ C.ro, p.2.At F s.heap p.1 ∧ ∃ o, K p.1 = some o
  pre : C.pre K F

def Fz.put (F : Fz) (a : Addr) (o : Obj) : Fz := fun b => if b = a then some o else F b
theorem Fz.put_self (F : Fz) (a : Addr) (o : Obj) : F.put a o a = some o := if_pos rfl
theorem Fz.put_ne (F : Fz) {a b : Addr} (o : Obj) (h : b ≠ a) : F.put a o b = F b := if_neg h
theorem Fle.put {F : Fz} {a : Addr} (hf : F a = none) (o : Obj) : Fle F (F.put a o) :=
  fun b ob e => by rw [Fz.put_ne]; exact e; rintro rfl; rw [hf] at e; cases e
def Fz.del (F : Fz) (a : Addr) : Fz := fun b => if b = a then none else F b
theorem MO.At.sameBut {F : Fz} {h h' : Heap} {a b : Addr} {m : MO} (x : m.At F h b) (hs : Heap.SameBut a h h') (hb : b ≠ a) : m.At F h' b :=
  x.mono (Fle.refl _) fun o e => (hs.2 b hb).trans e

section
variable {G : Gx} {K : Fz} {mu : Mu} {F : Fz} {s : Shared}

theorem Am.toks (X : Am G K mu F s) (t : Nat) : Am G K mu F { s with toks := t } :=
  ⟨X.ok, X.base, X.frz, X.dis, X.keep, X.mus, X.nd, X.gens, X.drawn, X.os⟩
theorem Am.ns (X : Am G K mu F s) : s.heap.Ns mainGlobals G.mg := X.ok.ns.keeps fun b o e => X.frz _ _ (X.base _ _ e)
theorem Am.nsb (X : Am G K mu F s) : s.heap.Ns builtinsNs G.mb := X.ok.bs.keeps fun b o e => X.frz _ _ (X.base _ _ e)
theorem Am.nl (X : Am G K mu F s) : s.heap.NoLimit := by
  obtain ⟨mc, h1, h2⟩ := X.ok.nl
  exact ⟨mc, h1.keeps fun b o e => X.frz _ _ (X.base _ _ e), h2⟩
theorem Am.fresh (X : Am G K mu F s) : F s.heap.objs.size = none := by
  cases e : F s.heap.objs.size with
  | none => rfl
  | some o => exact absurd (Heap.lt_size (X.frz _ _ e)) (Nat.lt_irrefl _)
theorem Am.freshK (X : Am G K mu F s) : K s.heap.objs.size = none := by
  cases e : K s.heap.objs.size with
  | none => rfl
  | some o => exact absurd (Heap.lt_size (X.keep _ _ e)) (Nat.lt_irrefl _)
theorem Am.freshMu (X : Am G K mu F s) : ∀ p ∈ mu, p.1 ≠ s.heap.objs.size := fun p hp e => by
  obtain ⟨o, ho⟩ := (X.mus p hp).1.some
  have := Heap.lt_size ho
  rw [e] at this
  exact Nat.lt_irrefl _ this

theorem Am.grow {F' : Fz} {h' : Heap} {t : Nat} (X : Am G K mu F s) (hk : ∀ a o, s.heap.get? a = some o → h'.get? a = some o)
    (hF : Fle F F') (hn : ∀ a o, F' a = some o → F a = some o ∨ s.heap.get? a = none) (hf : ∀ a o, F' a = some o → h'.get? a = some o) : Am G K mu F' { s with heap := h', toks := t } := by
  have out : ∀ a o, s.heap.get? a = some o → F a = none → F' a = none := fun a o e f => by
    cases q : F' a with
    | none => rfl
    | some o' =>
      rcases hn a o' q with h | h
      · rw [f] at h; cases h
      · rw [e] at h; cases h
  refine ⟨X.ok, fun a o e => hF _ _ (X.base a o e), hf, fun a o e => out a o (X.keep a o e) (X.dis a o e), fun a o e => hk _ _ (X.keep a o e), fun p hp => ?_, X.nd, X.gens, X.drawn, X.os⟩
  obtain ⟨h1, h2, h3⟩ := X.mus p hp
  obtain ⟨o, ho⟩ := h1.some
  exact ⟨h1.mono hF fun o e => hk _ _ e, out _ _ ho h2, h3⟩
theorem Am.put_new (X : Am G K mu F s) (o : Obj) : ∀ a o', F.put s.heap.objs.size o a = some o' → F a = some o' ∨ s.heap.get? a = none := fun a o' e => by
  by_cases h : a = s.heap.objs.size
  · subst h
    refine Or.inr ?_
    cases q : s.heap.get? s.heap.objs.size with
    | none => rfl
    | some o => exact absurd (Heap.lt_size q) (Nat.lt_irrefl _)
  · rw [Fz.put_ne _ _ h] at e; exact Or.inl e
theorem Am.put_heap (X : Am G K mu F s) (o : Obj) (ho : o.isFreed = false) : ∀ a o', F.put s.heap.objs.size o a = some o' → (s.heap.push o).get? a = some o' := fun a o' e => by
  by_cases h : a = s.heap.objs.size
  · subst h
    rw [Fz.put_self] at e
    cases e
    exact Heap.get?_push_size _ ho
  · rw [Fz.put_ne _ _ h] at e
    exact Heap.get?_push_of_some _ (X.frz _ _ e)
theorem Am.junk (X : Am G K mu F s) (o : Obj) (t : Nat) : Am G K mu F { s with heap := s.heap.push o, toks := t } :=
  X.grow (fun a o' e => Heap.get?_push_of_some _ e) (Fle.refl _) (fun a o e => .inl e) fun a o' e => Heap.get?_push_of_some _ (X.frz _ _ e)
theorem Am.allocMu (X : Am G K mu F s) (o : Obj) (mo : MO) (t : Nat) (hm : mo.At F (s.heap.push o) s.heap.objs.size) :
    Am G K ((s.heap.objs.size, mo) :: mu) F { s with heap := s.heap.push o, toks := t } := by
  have X' := X.junk o t
  refine ⟨X'.ok, X'.base, X'.frz, X'.dis, X'.keep, fun p hp => ?_, ?_, X'.gens, X'.drawn, X'.os⟩
  · rcases List.mem_cons.mp hp with rfl | hp
    · exact ⟨hm, X.fresh, X.freshK⟩
    · exact X'.mus p hp
  · rw [List.map_cons, List.nodup_cons]
    refine ⟨fun hq => ?_, X.nd⟩
    obtain ⟨p, hp, e⟩ := List.mem_map.mp hq
    exact X.freshMu p hp e
theorem Am.other {h' : Heap} {a : Addr} {t : Nat} (X : Am G K mu F s) (hs : Heap.SameBut a s.heap h') (hF : F a = none) (hK : K a = none) (hm : ∀ p ∈ mu, p.1 ≠ a) : Am G K mu F { s with heap := h', toks := t } :=
  ⟨X.ok, X.base, fun b o e => (hs.2 b (fun q => by subst q; rw [hF] at e; cases e)).trans (X.frz b o e), X.dis, fun b o e => (hs.2 b (fun q => by subst q; rw [hK] at e; cases e)).trans (X.keep b o e),
    fun p hp => ⟨(X.mus p hp).1.sameBut hs (hm p hp), (X.mus p hp).2⟩, X.nd, X.gens, X.drawn, X.os⟩
theorem nodup_mid {pre post : Mu} {a : Addr} {mo : MO} (nd : ((pre ++ (a, mo) :: post).map (·.1)).Nodup) : (∀ p ∈ pre ++ post, p.1 ≠ a) ∧ ((pre ++ post).map (·.1)).Nodup := by
  rw [List.map_append, List.map_cons] at nd
  have nd' : (a :: (pre.map (·.1) ++ post.map (·.1))).Nodup := (List.perm_middle).nodup_iff.mp nd
  rw [← List.map_append, List.nodup_cons] at nd'
  exact ⟨fun p hp e => nd'.1 (e ▸ List.mem_map_of_mem hp), nd'.2⟩
theorem Am.turn {h' : Heap} {a : Addr} {pre post : Mu} {mo mo' : MO} {t : Nat} (X : Am G K (pre ++ (a, mo) :: post) F s) (hs : Heap.SameBut a s.heap h') (hm : mo'.At F h' a) :
    Am G K (pre ++ (a, mo') :: post) F { s with heap := h', toks := t } := by
  obtain ⟨h1, h2, h3⟩ := X.mus (a, mo) (by simp)
  obtain ⟨ne, _⟩ := nodup_mid X.nd
  refine ⟨X.ok, X.base, fun b o e => (hs.2 b (fun q => by subst q; rw [h2] at e; cases e)).trans (X.frz b o e), X.dis, fun b o e => (hs.2 b (fun q => by subst q; rw [h3] at e; cases e)).trans (X.keep b o e), fun p hp => ?_, ?_, X.gens, X.drawn, X.os⟩
  · rcases List.mem_append.mp hp with hp | hp
    · obtain ⟨q1, q2⟩ := X.mus p (List.mem_append_left _ hp)
      exact ⟨q1.sameBut hs (ne p (List.mem_append_left _ hp)), q2⟩
    · rcases List.mem_cons.mp hp with rfl | hp
      · exact ⟨hm, h2, h3⟩
      · obtain ⟨q1, q2⟩ := X.mus p (List.mem_append_right _ (.tail _ hp))
        exact ⟨q1.sameBut hs (ne p (List.mem_append_right _ hp)), q2⟩
  · have := X.nd
    rw [List.map_append, List.map_cons] at this ⊢
    exact this
theorem Am.sub {mu' : Mu} (X : Am G K mu F s) (h : ∀ p ∈ mu', p ∈ mu) (nd : (mu'.map (·.1)).Nodup) : Am G K mu' F s :=
  ⟨X.ok, X.base, X.frz, X.dis, X.keep, fun p hp => X.mus p (h p hp), nd, X.gens, X.drawn, X.os⟩
theorem Am.perm {mu' : Mu} (X : Am G K mu F s) (h : mu'.Perm mu) : Am G K mu' F s :=
  X.sub (fun p hp => h.mem_iff.mp hp) ((h.map _).nodup_iff.mpr X.nd)
theorem Am.freeze {a : Addr} {mo : MO} (X : Am G K ((a, mo) :: mu) F s) : ∃ o, s.heap.get? a = some o ∧ mo.At F s.heap a ∧ F a = none ∧ Am G K mu (F.put a o) s := by
  obtain ⟨h1, h2, h3⟩ := X.mus (a, mo) (.head _)
  obtain ⟨o, ho⟩ := h1.some
  have nd := X.nd
  rw [List.map_cons, List.nodup_cons] at nd
  have hF : Fle F (F.put a o) := Fle.put h2 o
  refine ⟨o, ho, h1, h2, X.ok, fun b ob e => hF _ _ (X.base b ob e), fun b ob e => ?_, fun b ob e => ?_, X.keep, fun p hp => ?_, nd.2, X.gens, X.drawn, X.os⟩
  · by_cases hb : b = a
    · subst hb; rw [Fz.put_self] at e; cases e; exact ho
    · rw [Fz.put_ne _ _ hb] at e; exact X.frz _ _ e
  · rw [Fz.put_ne]; exact X.dis b ob e; rintro rfl; rw [h3] at e; cases e
  · have hpa : p.1 ≠ a := fun e => nd.1 (List.mem_map.mpr ⟨p, hp, e⟩)
    obtain ⟨e1, e2, e3⟩ := X.mus p (.tail _ hp)
    exact ⟨e1.mono hF fun o e => e, by rw [Fz.put_ne _ _ hpa]; exact e2, e3⟩
theorem Am.hide {a : Addr} {mo : MO} (X : Am G K ((a, mo) :: mu) F s) : ∃ o, s.heap.get? a = some o ∧ mo.At F s.heap a ∧ K a = none ∧ Am G (K.put a o) mu F s := by
  obtain ⟨h1, h2, h3⟩ := X.mus (a, mo) (.head _)
  obtain ⟨o, ho⟩ := h1.some
  have nd := X.nd
  rw [List.map_cons, List.nodup_cons] at nd
  refine ⟨o, ho, h1, h3, X.ok, X.base, X.frz, fun b ob e => ?_, fun b ob e => ?_, fun p hp => ?_, nd.2, X.gens, X.drawn, X.os⟩
  · by_cases hb : b = a
    · subst hb; exact h2
    · rw [Fz.put_ne _ _ hb] at e; exact X.dis _ _ e
  · by_cases hb : b = a
    · subst hb; rw [Fz.put_self] at e; cases e; exact ho
    · rw [Fz.put_ne _ _ hb] at e; exact X.keep _ _ e
  · have hpa : p.1 ≠ a := fun e => nd.1 (List.mem_map.mpr ⟨p, hp, e⟩)
    obtain ⟨e1, e2, e3⟩ := X.mus p (.tail _ hp)
    exact ⟨e1, e2, by rw [Fz.put_ne _ _ hpa]; exact e3⟩
theorem Am.show {a : Addr} {o : Obj} {mo : MO} (X : Am G (K.put a o) mu F s) (hK : K a = none) (hm : mo.At F s.heap a) : Am G K ((a, mo) :: mu) F s := by
  have kp : ∀ b ob, K b = some ob → K.put a o b = some ob := fun b ob e => (Fle.put hK o) b ob e
  refine ⟨X.ok, X.base, X.frz, fun b ob e => X.dis _ _ (kp _ _ e), fun b ob e => X.keep _ _ (kp _ _ e), fun p hp => ?_, ?_, X.gens, X.drawn, X.os⟩
  · rcases List.mem_cons.mp hp with rfl | hp
    · exact ⟨hm, X.dis _ _ (Fz.put_self _ _ _), hK⟩
    · obtain ⟨e1, e2, e3⟩ := X.mus p hp
      have ne : p.1 ≠ a := fun e => by rw [e, Fz.put_self] at e3; cases e3
      rw [Fz.put_ne _ _ ne] at e3
      exact ⟨e1, e2, e3⟩
  · rw [List.map_cons, List.nodup_cons]
    refine ⟨fun hq => ?_, X.nd⟩
    obtain ⟨p, hp, e⟩ := List.mem_map.mp hq
    have := (X.mus p hp).2.2
    rw [e] at this
    dsimp only at this
    rw [Fz.put_self] at this
    cases this
end

section
variable {C : Cx} {K : Fz} {σ : St} {F : Fz} {s : Shared}

theorem VarAt.imp {env : Env} {h h' : Heap} {m m' : Str → Option Value} {x : Str} {v : Value} (X : VarAt env h m x v) (h1 : env.kindOf x = some .local → m x = some v → m' x = some v)
    (h2 : ∀ c, env.cells.lookup x = some c → h.IsCell c (some v) → h'.IsCell c (some v)) : VarAt env h' m' x v := by
  unfold VarAt at X ⊢
  revert X h1
  cases env.kindOf x with
  | none => intro X _; exact X
  | some k =>
    cases k <;> intro X h1
    case «local» => exact h1 rfl X
    case cell => obtain ⟨c, e1, e2⟩ := X; exact ⟨c, e1, h2 c e1 e2⟩
    case free => obtain ⟨c, e1, e2⟩ := X; exact ⟨c, e1, h2 c e1 e2⟩
    all_goals exact X
theorem VarAt.mono {env : Env} {h h' : Heap} {m : Str → Option Value} {x : Str} {v : Value} (hh : ∀ c ∈ env.cells, ∀ o, h.get? c.2 = some o → h'.get? c.2 = some o) (X : VarAt env h m x v) : VarAt env h' m x v :=
  X.imp (fun _ e => e) fun c e ⟨o, e1, e2⟩ => ⟨o, hh _ (mem_of_lookup e) _ e1, e2⟩

def St.set (σ : St) (x : Str) (d : D) : St := { σ with vars := (x, d) :: σ.vars }
def St.setMu (σ : St) (m : Mu) : St := { σ with mu := m }

theorem Mo.toks (X : Mo C K σ F s) (t : Nat) : Mo C K σ F { s with toks := t } :=
  ⟨X.ok, X.am.toks t, X.priv, X.live, X.loc, X.pmu, X.ro, X.pre⟩

theorem Mo.frame {K' : Fz} {mu' : Mu} {F' : Fz} {s' : Shared} (X : Mo C K σ F s) (A : Am C.G K' mu' F' s') (hk : ∀ a ∈ C.priv, F' a = none ∧ K' a = none ∧ s'.heap.get? a = s.heap.get? a)
    (hc : ∀ x ∈ C.env.cells, x.2 ∉ C.priv → (∃ o, K' x.2 = some o) ∧ s'.heap.get? x.2 = s.heap.get? x.2) (hF : Fle F F')
    (hp : ∀ p ∈ mu', p.1 ∉ C.priv) (hro : ∀ p ∈ C.ro, s'.heap.get? p.1 = s.heap.get? p.1 ∧ ∃ o, K' p.1 = some o) (hpre : C.pre K' F') : Mo C K' (σ.setMu mu') F' s' := by
  obtain ⟨m, hm, hv⟩ := X.loc
  have cel : ∀ x ∈ C.env.cells, s'.heap.get? x.2 = s.heap.get? x.2 := fun x hx => by
    by_cases h : x.2 ∈ C.priv
    · exact (hk _ h).2.2
    · exact (hc x hx h).2
  refine ⟨X.ok, A, fun a ha => ?_, fun x hx => ?_, ⟨m, ?_, fun x d e => ?_⟩, hp, fun p hq => ?_, hpre⟩
  · obtain ⟨h1, h2, h3⟩ := hk a ha
    exact ⟨h1, h2, by rw [h3]; exact (X.priv a ha).2.2⟩
  · obtain ⟨⟨v, o, h1, h2⟩, _⟩ := X.live x hx
    refine ⟨⟨v, o, (cel x hx).trans h1, h2⟩, ?_⟩
    by_cases h : x.2 ∈ C.priv
    · exact Or.inl h
    · exact Or.inr (hc x hx h).1
  · obtain ⟨o, es, ep, e, r⟩ := hm
    exact ⟨o, es, ep, (hk _ X.ok.loc).2.2.trans e, r⟩
  · obtain ⟨v, h1, h2⟩ := hv x d e
    exact ⟨v, h1.mono fun c hc o e => (cel c hc).trans e, h2.mono hF⟩
  · obtain ⟨h1, h2⟩ := X.ro p hq
    exact ⟨h1.mono hF fun o e => (hro p hq).1.trans e, (hro p hq).2⟩

theorem Mo.with {mu' : Mu} {F' : Fz} {s' : Shared} (X : Mo C K σ F s) (A : Am C.G K mu' F' s') (hk : ∀ a ∈ C.priv, F' a = none ∧ s'.heap.get? a = s.heap.get? a) (hF : Fle F F') (hp : ∀ p ∈ mu', p.1 ∉ C.priv) : Mo C K (σ.setMu mu') F' s' := by
  have kk : ∀ a o, K a = some o → s'.heap.get? a = s.heap.get? a := fun a o e => (A.keep _ _ e).trans (X.am.keep _ _ e).symm
  refine X.frame A (fun a ha => ⟨(hk a ha).1, (X.priv a ha).2.1, (hk a ha).2⟩) (fun x hx hn => ?_) hF hp (fun p hq => ?_) (X.ok.mon _ _ _ _ X.pre (Fle.refl _) hF)
  · rcases (X.live x hx).2 with h | ⟨o, h⟩
    · exact absurd h hn
    · exact ⟨⟨o, h⟩, kk _ _ h⟩
  · obtain ⟨o, h⟩ := (X.ro p hq).2
    exact ⟨kk _ _ h, o, h⟩

theorem Mo.grow {F' : Fz} {h' : Heap} {t : Nat} (X : Mo C K σ F s) (hk : ∀ a o, s.heap.get? a = some o → h'.get? a = some o)
    (hF : Fle F F') (hn : ∀ a o, F' a = some o → F a = some o ∨ s.heap.get? a = none) (hf : ∀ a o, F' a = some o → h'.get? a = some o) : Mo C K σ F' { s with heap := h', toks := t } := by
  refine X.with (X.am.grow hk hF hn hf) (fun a ha => ?_) hF X.pmu
  obtain ⟨h1, h2, o, ho⟩ := X.priv a ha
  refine ⟨?_, (hk _ _ ho).trans ho.symm⟩
  cases q : F' a with
  | none => rfl
  | some o' =>
    rcases hn a o' q with h | h
    · rw [h1] at h; cases h
    · rw [ho] at h; cases h
theorem Mo.alloc (X : Mo C K σ F s) (o : Obj) (ho : o.isFreed = false) (t : Nat) : Mo C K σ (F.put s.heap.objs.size o) { s with heap := s.heap.push o, toks := t } :=
  X.grow (fun a o' e => Heap.get?_push_of_some _ e) (Fle.put X.am.fresh _) (X.am.put_new o) (X.am.put_heap o ho)
theorem Mo.junk (X : Mo C K σ F s) (o : Obj) (t : Nat) : Mo C K σ F { s with heap := s.heap.push o, toks := t } :=
  X.grow (fun a o' e => Heap.get?_push_of_some _ e) (Fle.refl _) (fun a o e => .inl e) fun a o' e => Heap.get?_push_of_some _ (X.am.frz _ _ e)
theorem Mo.allocMu (X : Mo C K σ F s) (o : Obj) (mo : MO) (t : Nat) (hm : mo.At F (s.heap.push o) s.heap.objs.size) :
    Mo C K (σ.setMu ((s.heap.objs.size, mo) :: σ.mu)) F { s with heap := s.heap.push o, toks := t } := by
  have X' := X.junk o t
  refine X'.with (mu' := (s.heap.objs.size, mo) :: σ.mu) (X.am.allocMu o mo t hm) (fun a ha => ⟨(X.priv a ha).1, rfl⟩) (Fle.refl _) fun p hp => ?_
  rcases List.mem_cons.mp hp with rfl | hp
  · intro hq
    obtain ⟨o', ho'⟩ := (X.priv _ hq).2.2
    exact Nat.lt_irrefl _ (Heap.lt_size ho')
  · exact X.pmu p hp
theorem Mo.turn {h' : Heap} {a : Addr} {pre post : Mu} {mo mo' : MO} {t : Nat} (X : Mo C K σ F s) (hσ : σ.mu = pre ++ (a, mo) :: post) (hs : Heap.SameBut a s.heap h') (hm : mo'.At F h' a) :
    Mo C K (σ.setMu (pre ++ (a, mo') :: post)) F { s with heap := h', toks := t } := by
  have A := X.am
  rw [hσ] at A
  have ha : a ∉ C.priv := X.pmu (a, mo) (by rw [hσ]; simp)
  refine X.with (A.turn hs hm) (fun b hb => ⟨(X.priv b hb).1, hs.2 b fun e => ha (e ▸ hb)⟩) (Fle.refl _) fun p hp => ?_
  rcases List.mem_append.mp hp with hp | hp
  · exact X.pmu p (by rw [hσ]; exact List.mem_append_left _ hp)
  · rcases List.mem_cons.mp hp with rfl | hp
    · exact ha
    · exact X.pmu p (by rw [hσ]; exact List.mem_append_right _ (.tail _ hp))
theorem Mo.sub {mu' : Mu} (X : Mo C K σ F s) (h : ∀ p ∈ mu', p ∈ σ.mu) (nd : (mu'.map (·.1)).Nodup) : Mo C K (σ.setMu mu') F s :=
  X.with (X.am.sub h nd) (fun a ha => ⟨(X.priv a ha).1, rfl⟩) (Fle.refl _) fun p hp => X.pmu p (h p hp)
theorem Mo.perm {mu' : Mu} (X : Mo C K σ F s) (h : mu'.Perm σ.mu) : Mo C K (σ.setMu mu') F s :=
  X.sub (fun p hp => h.mem_iff.mp hp) ((h.map _).nodup_iff.mpr X.am.nd)
theorem Mo.freeze {a : Addr} {mo : MO} {mu : Mu} (X : Mo C K σ F s) (hσ : σ.mu = (a, mo) :: mu) : ∃ o, s.heap.get? a = some o ∧ mo.At F s.heap a ∧ F a = none ∧ Mo C K (σ.setMu mu) (F.put a o) s := by
  have A := X.am
  rw [hσ] at A
  obtain ⟨o, h1, h2, h3, A'⟩ := A.freeze
  have ha : a ∉ C.priv := X.pmu (a, mo) (by rw [hσ]; exact .head _)
  exact ⟨o, h1, h2, h3, X.with A' (fun b hb => ⟨by rw [Fz.put_ne _ _ (show b ≠ a from fun e => ha (e ▸ hb))]; exact (X.priv b hb).1, rfl⟩) (Fle.put h3 o) fun p hp => X.pmu p (by rw [hσ]; exact .tail _ hp)⟩
theorem Mo.hide {a : Addr} {mo : MO} {mu : Mu} (X : Mo C K σ F s) (hσ : σ.mu = (a, mo) :: mu) : ∃ o, s.heap.get? a = some o ∧ mo.At F s.heap a ∧ K a = none ∧ Mo C (K.put a o) (σ.setMu mu) F s := by
  have A := X.am
  rw [hσ] at A
  obtain ⟨o, h1, h2, h3, A'⟩ := A.hide
  have ha : a ∉ C.priv := X.pmu (a, mo) (by rw [hσ]; exact .head _)
  refine ⟨o, h1, h2, h3, X.frame A' (fun b hb => ⟨(X.priv b hb).1, by rw [Fz.put_ne _ _ (show b ≠ a from fun e => ha (e ▸ hb))]; exact (X.priv b hb).2.1, rfl⟩) (fun x hx hn => ⟨?_, rfl⟩) (Fle.refl _) (fun p hp => X.pmu p (by rw [hσ]; exact .tail _ hp)) (fun p hp => ⟨rfl, ?_⟩) (X.ok.mon _ _ _ _ X.pre (Fle.put h3 o) (Fle.refl _))⟩
  · rcases (X.live x hx).2 with h | ⟨o', h⟩
    · exact absurd h hn
    · exact ⟨o', Fle.put h3 o _ _ h⟩
  · obtain ⟨o', h⟩ := (X.ro p hp).2
    exact ⟨o', Fle.put h3 o _ _ h⟩
theorem Mo.show {a : Addr} {o : Obj} {mo : MO} (X : Mo C (K.put a o) σ F s) (hK : K a = none) (hm : mo.At F s.heap a) (hc : ∀ x ∈ C.env.cells, x.2 ≠ a) (hr : ∀ p ∈ C.ro, p.1 ≠ a) (hpre : C.pre K F) : Mo C K (σ.setMu ((a, mo) :: σ.mu)) F s := by
  have hp : ∀ b ∈ C.priv, b ≠ a := fun b hb e => by have := (X.priv b hb).2.1; rw [e, Fz.put_self] at this; cases this
  refine X.frame (X.am.show hK hm) (fun b hb => ⟨(X.priv b hb).1, ?_, rfl⟩) (fun x hx hn => ⟨?_, rfl⟩) (Fle.refl _) (fun p hq => ?_) (fun p hq => ⟨rfl, ?_⟩) hpre
  · have := (X.priv b hb).2.1
    rwa [Fz.put_ne _ _ (hp b hb)] at this
  · rcases (X.live x hx).2 with h | ⟨o', h⟩
    · exact absurd h hn
    · exact ⟨o', by rwa [Fz.put_ne _ _ (hc x hx)] at h⟩
  · rcases List.mem_cons.mp hq with rfl | hq
    · exact fun e => hp _ e rfl
    · exact X.pmu p hq
  · obtain ⟨o', h⟩ := (X.ro p hq).2
    exact ⟨o', by rwa [Fz.put_ne _ _ (hr p hq)] at h⟩

theorem Mo.storeL {h' : Heap} {x : Str} {v : Value} {d : D} {t : Nat} (X : Mo C K σ F s) {m : Str → Option Value} (hm : ∀ y d, σ.vars.lookup y = some d → ∃ v, VarAt C.env s.heap m y v ∧ Rep F v d)
    (hx : C.env.kindOf x = some .local) (hs : Heap.SameBut C.env.locals s.heap h') (hn : h'.Ns C.env.locals (fun y => if y = x then some v else m y)) (hr : Rep F v d) :
    Mo C K (σ.set x d) F { s with heap := h', toks := t } := by
  have hp := X.priv _ X.ok.loc
  have hL : ∀ c ∈ C.env.cells, ∀ o, s.heap.get? c.2 = some o → h'.get? c.2 = some o := fun c hc o e => (hs.2 _ (X.ok.cne c hc)).trans e
  have ex : ∀ b o, s.heap.get? b = some o → ∃ o, h'.get? b = some o := fun b o e => by
    by_cases h : b = C.env.locals
    · subst h; obtain ⟨o, es, ep, e, r⟩ := hn; exact ⟨o, e⟩
    · exact ⟨o, (hs.2 b h).trans e⟩
  refine ⟨X.ok, X.am.other hs hp.1 hp.2.1 (fun p hq e => X.pmu p hq (e ▸ X.ok.loc)), fun b hb => ?_, fun c hc => ?_, ⟨_, hn, fun y dy e => ?_⟩, X.pmu, fun p hq => ?_, X.pre⟩
  · obtain ⟨h1, h2, o, h3⟩ := X.priv b hb
    exact ⟨h1, h2, ex b o h3⟩
  · obtain ⟨⟨v, o, e1, e2⟩, e3⟩ := X.live c hc
    exact ⟨⟨v, o, hL c hc _ e1, e2⟩, e3⟩
  · simp only [St.set, List.lookup_cons] at e
    by_cases hyx : y = x
    · subst hyx
      simp only [beq_self_eq_true, Option.some.injEq] at e
      subst e
      refine ⟨v, ?_, hr⟩
      unfold VarAt
      rw [hx]
      simp
    · have hb : (y == x) = false := beq_eq_false_iff_ne.mpr hyx
      simp only [hb] at e
      obtain ⟨v', e1, e2⟩ := hm y dy e
      refine ⟨v', ?_, e2⟩
      exact (e1.mono hL).imp (fun _ e => by rw [if_neg hyx]; exact e) fun _ _ e => e
  · obtain ⟨q1, o, q2⟩ := X.ro p hq
    exact ⟨q1.sameBut hs (fun e => by { have := (X.priv _ X.ok.loc).2.1; rw [e, this] at q2; cases q2 }), o, q2⟩

theorem Mo.storeC {h' : Heap} {x : Str} {c : Addr} {v : Value} {d : D} {t : Nat} (X : Mo C K σ F s)
    (hx : C.env.kindOf x = some .cell) (hc : C.env.cells.lookup x = some c) (hcp : c ∈ C.priv) (hs : Heap.SameBut c s.heap h') (hn : h'.IsCell c (some v)) (hr : Rep F v d) :
    Mo C K (σ.set x d) F { s with heap := h', toks := t } := by
  have hp := X.priv _ hcp
  have hcm := mem_of_lookup hc
  obtain ⟨m, hns, hm⟩ := X.loc
  have hLc : C.env.locals ≠ c := fun e => X.ok.cne _ hcm e.symm
  have ex : ∀ b o, s.heap.get? b = some o → ∃ o, h'.get? b = some o := fun b o e => by
    by_cases h : b = c
    · subst h; obtain ⟨o, e, r⟩ := hn; exact ⟨o, e⟩
    · exact ⟨o, (hs.2 b h).trans e⟩
  refine ⟨X.ok, X.am.other hs hp.1 hp.2.1 (fun p hq e => X.pmu p hq (e ▸ hcp)), fun b hb => ?_, fun y hy => ?_, ⟨m, hns.sameBut hs hLc, fun y dy e => ?_⟩, X.pmu, fun p hq => ?_, X.pre⟩
  · obtain ⟨h1, h2, o, h3⟩ := X.priv b hb
    exact ⟨h1, h2, ex b o h3⟩
  · by_cases e : y.2 = c
    · refine ⟨?_, ?_⟩
      · rw [e]; exact ⟨_, hn⟩
      · exact Or.inl (e ▸ hcp)
    · obtain ⟨⟨v, o, e1, e2⟩, e3⟩ := X.live y hy
      exact ⟨⟨v, o, (hs.2 _ e).trans e1, e2⟩, e3⟩
  · simp only [St.set, List.lookup_cons] at e
    by_cases hyx : y = x
    · subst hyx
      simp only [beq_self_eq_true, Option.some.injEq] at e
      subst e
      refine ⟨v, ?_, hr⟩
      unfold VarAt
      rw [hx]
      exact ⟨c, hc, hn⟩
    · have hb : (y == x) = false := beq_eq_false_iff_ne.mpr hyx
      simp only [hb] at e
      obtain ⟨v', e1, e2⟩ := hm y dy e
      refine ⟨v', ?_, e2⟩
      exact e1.imp (fun _ e => e) fun c' f1 ⟨o, f2, f3⟩ => ⟨o, (hs.2 c' (fun q => hyx (name_of_addr X.ok.apart (mem_of_lookup f1) (by rw [q]; exact hcm)))).trans f2, f3⟩
  · obtain ⟨q1, o, q2⟩ := X.ro p hq
    exact ⟨q1.sameBut hs (fun e => by { have := (X.priv _ hcp).2.1; rw [e, this] at q2; cases q2 }), o, q2⟩

theorem Am.dropExt {G : Gx} {K F : Fz} {mu : Mu} {s : Shared} {h' : Heap} {a : Addr} {mo : MO} {t : Nat} (X : Am G K ((a, mo) :: mu) F s) (hs : Heap.ExtBut a s.heap h') : Am G K mu F { s with heap := h', toks := t } := by
  obtain ⟨h1, h2, h3⟩ := X.mus (a, mo) (.head _)
  have nd := X.nd
  rw [List.map_cons, List.nodup_cons] at nd
  refine ⟨X.ok, X.base, fun b o e => hs b o (fun q => by subst q; rw [h2] at e; cases e) (X.frz b o e), X.dis, fun b o e => hs b o (fun q => by subst q; rw [h3] at e; cases e) (X.keep b o e), fun p hp => ?_, nd.2, X.gens, X.drawn, X.os⟩
  have hpa : p.1 ≠ a := fun e => nd.1 (List.mem_map.mpr ⟨p, hp, e⟩)
  obtain ⟨e1, e2⟩ := X.mus p (.tail _ hp)
  exact ⟨e1.mono (Fle.refl _) fun o e => hs _ _ hpa e, e2⟩
theorem get_of_ext {h h' : Heap} {a b : Addr} {o : Obj} (hs : Heap.ExtBut a h h') (hb : b ≠ a) (e : h.get? b = some o) : h'.get? b = h.get? b := (hs b o hb e).trans e.symm
theorem Mo.dropExt {h' : Heap} {a : Addr} {mo : MO} {mu : Mu} {t : Nat} (X : Mo C K σ F s) (hσ : σ.mu = (a, mo) :: mu) (hs : Heap.ExtBut a s.heap h') : Mo C K (σ.setMu mu) F { s with heap := h', toks := t } := by
  have A := X.am
  rw [hσ] at A
  have ha : a ∉ C.priv := X.pmu (a, mo) (by rw [hσ]; exact .head _)
  refine X.with (A.dropExt hs) (fun b hb => ⟨(X.priv b hb).1, ?_⟩) (Fle.refl _) fun p hp => X.pmu p (by rw [hσ]; exact .tail _ hp)
  obtain ⟨o, ho⟩ := (X.priv b hb).2.2
  exact get_of_ext hs (fun e => ha (e ▸ hb)) ho

theorem Mo.weak {σ' : St} (X : Mo C K σ F s) (hv : ∀ y d, σ'.vars.lookup y = some d → σ.vars.lookup y = some d) (hm : σ'.mu = σ.mu) : Mo C K σ' F s := by
  obtain ⟨m, hn, hv'⟩ := X.loc
  exact ⟨X.ok, hm ▸ X.am, X.priv, X.live, ⟨m, hn, fun x d e => hv' x d (hv _ _ e)⟩, hm ▸ X.pmu, X.ro, X.pre⟩

def full (F : Fz) (h : Heap) (ex : List Addr) : Fz := fun a => if F a = none ∧ a ∉ ex then h.get? a else none
theorem full_some {F : Fz} {h : Heap} {ex : List Addr} {a : Addr} {o : Obj} (e : full F h ex a = some o) : F a = none ∧ a ∉ ex ∧ h.get? a = some o := by
  unfold full at e
  split at e
  · rename_i q; exact ⟨q.1, q.2, e⟩
  · cases e
theorem full_of {F : Fz} {h : Heap} {ex : List Addr} {a : Addr} {o : Obj} (h1 : F a = none) (h2 : a ∉ ex) (h3 : h.get? a = some o) : full F h ex a = some o := by
  unfold full; rw [if_pos ⟨h1, h2⟩]; exact h3
theorem full_none {F : Fz} {h : Heap} {ex : List Addr} {a : Addr} (h1 : a ∈ ex ∨ h.get? a = none) : full F h ex a = none := by
  unfold full
  split
  · rename_i q
    rcases h1 with h1 | h1
    · exact absurd h1 q.2
    · exact h1
  · rfl
theorem Am.leave {G : Gx} {K F : Fz} {mu : Mu} {s : Shared} {pas oth : Mu} (X : Am G K mu F s) (hm : mu = pas ++ oth) : Am G (full F s.heap (pas.map (·.1))) pas F s := by
  subst hm
  have nd := X.nd
  rw [List.map_append] at nd
  refine ⟨X.ok, X.base, X.frz, fun a o e => (full_some e).1, fun a o e => (full_some e).2.2, fun p hp => ?_, (List.nodup_append.mp nd).1, X.gens, X.drawn, X.os⟩
  obtain ⟨h1, h2, h3⟩ := X.mus p (List.mem_append_left _ hp)
  exact ⟨h1, h2, full_none (.inl (List.mem_map_of_mem hp))⟩
theorem Mo.back {F' : Fz} {s' : Shared} {pas oth mu' : Mu} (X : Mo C K σ F s) (hσ : σ.mu = pas ++ oth) (A : Am C.G (full F s.heap (pas.map (·.1))) mu' F' s') (hF : Fle F F') : Mo C K (σ.setMu (mu' ++ oth)) F' s' := by
  have key : ∀ a o, F a = none → a ∉ pas.map (·.1) → s.heap.get? a = some o → s'.heap.get? a = s.heap.get? a ∧ F' a = none := fun a o h1 h2 h3 => by
    have := full_of h1 h2 h3
    exact ⟨(A.keep _ _ this).trans h3.symm, A.dis _ _ this⟩
  have X0 := X.am
  rw [hσ] at X0
  have nd := X0.nd
  rw [List.map_append] at nd
  have nd' := List.nodup_append.mp nd
  have kout : ∀ a o, K a = some o → a ∉ pas.map (·.1) := fun a o e hm => by
    obtain ⟨p, hp, e'⟩ := List.mem_map.mp hm
    have := (X0.mus p (List.mem_append_left _ hp)).2.2
    rw [e', e] at this; cases this
  have kk : ∀ a o, K a = some o → s'.heap.get? a = s.heap.get? a ∧ F' a = none := fun a o e => key a o (X.am.dis _ _ e) (kout a o e) (X.am.keep _ _ e)
  have pk : ∀ a ∈ C.priv, s'.heap.get? a = s.heap.get? a ∧ F' a = none := fun a ha => by
    obtain ⟨h1, h2, o, h3⟩ := X.priv a ha
    refine key a o h1 (fun hm => ?_) h3
    obtain ⟨p, hp, e'⟩ := List.mem_map.mp hm
    exact X.pmu p (by rw [hσ]; exact List.mem_append_left _ hp) (e' ▸ ha)
  have ok : ∀ p ∈ oth, s'.heap.get? p.1 = s.heap.get? p.1 ∧ F' p.1 = none := fun p hp => by
    obtain ⟨h1, h2, h3⟩ := X0.mus p (List.mem_append_right _ hp)
    obtain ⟨o, ho⟩ := h1.some
    exact key p.1 o h2 (fun hm => nd'.2.2 _ hm _ (List.mem_map_of_mem hp) rfl) ho
  have mk : ∀ p ∈ mu', ∀ a o, F a = none → a ∉ pas.map (·.1) → s.heap.get? a = some o → p.1 ≠ a := fun p hp a o h1 h2 h3 e => by
    have := (A.mus p hp).2.2
    rw [e, full_of h1 h2 h3] at this; cases this
  have AA : Am C.G K (mu' ++ oth) F' s' := by
    refine ⟨A.ok, A.base, A.frz, fun a o e => (kk a o e).2, fun a o e => (kk a o e).1.trans (X.am.keep _ _ e), fun p hp => ?_, ?_, A.gens, A.drawn, A.os⟩
    · rcases List.mem_append.mp hp with hp | hp
      · obtain ⟨h1, h2, h3⟩ := A.mus p hp
        refine ⟨h1, h2, ?_⟩
        cases e : K p.1 with
        | none => rfl
        | some o => exact absurd rfl (mk p hp p.1 o (X.am.dis _ _ e) (kout _ _ e) (X.am.keep _ _ e))
      · obtain ⟨h1, h2, h3⟩ := X0.mus p (List.mem_append_right _ hp)
        exact ⟨h1.mono hF fun o e => (ok p hp).1.trans e, (ok p hp).2, h3⟩
    · rw [List.map_append, List.nodup_append]
      refine ⟨A.nd, nd'.2.1, fun a ha b hb e => ?_⟩
      subst e
      obtain ⟨p, hp, e1⟩ := List.mem_map.mp ha
      obtain ⟨q, hq, e2⟩ := List.mem_map.mp hb
      obtain ⟨h1, h2, h3⟩ := X0.mus q (List.mem_append_right _ hq)
      obtain ⟨o, ho⟩ := h1.some
      exact mk p hp q.1 o h2 (fun hm => nd'.2.2 _ hm _ (List.mem_map_of_mem hq) rfl) ho (e1.trans e2.symm)
  refine X.frame AA (fun a ha => ⟨(pk a ha).2, (X.priv a ha).2.1, (pk a ha).1⟩) (fun x hx hn => ?_) hF (fun p hp => ?_) (fun p hp => ?_) (X.ok.mon _ _ _ _ X.pre (Fle.refl _) hF)
  · rcases (X.live x hx).2 with h | ⟨o, h⟩
    · exact absurd h hn
    · exact ⟨⟨o, h⟩, (kk _ _ h).1⟩
  · rcases List.mem_append.mp hp with hp | hp
    · intro ha
      obtain ⟨h1, h2, o, h3⟩ := X.priv _ ha
      refine mk p hp p.1 o h1 (fun hm => ?_) h3 rfl
      obtain ⟨q, hq, e'⟩ := List.mem_map.mp hm
      exact X.pmu q (by rw [hσ]; exact List.mem_append_left _ hq) (e' ▸ ha)
    · exact X.pmu p (by rw [hσ]; exact List.mem_append_right _ hp)
  · obtain ⟨o, h⟩ := (X.ro p hp).2
    exact ⟨(kk _ _ h).1, o, h⟩
theorem Mo.preFull {ex : List Addr} (X : Mo C K σ F s) (h : ∀ a ∈ ex, K a = none) : C.pre (full F s.heap ex) F :=
  X.ok.mon _ _ _ _ X.pre (fun a o e => full_of (X.am.dis _ _ e) (fun hm => by rw [h a hm] at e; cases e) (X.am.keep _ _ e)) (Fle.refl _)
theorem Mo.apartMu {p : Addr × MO} (X : Mo C K σ F s) (hp : p ∈ σ.mu) : (∀ x ∈ C.env.cells, x.2 ≠ p.1) ∧ (∀ q ∈ C.ro, q.1 ≠ p.1) := by
  refine ⟨fun x hx e => ?_, fun q hq e => ?_⟩
  · rcases (X.live x hx).2 with h | ⟨o, h⟩
    · exact X.pmu p hp (e ▸ h)
    · have := (X.am.mus p hp).2.2
      rw [← e, h] at this; cases this
  · obtain ⟨o, h⟩ := (X.ro q hq).2
    have := (X.am.mus p hp).2.2
    rw [← e, h] at this; cases this
end
end Mine
end

section
set_option Elab.async false
set_option linter.unusedVariables false
namespace Mine
open PySem PySem.W PyProof.Rows PySem.Calls

def Ev (C : Cx) (σ : St) (e : Expr) (d : D) : Prop :=
  ∀ (K F : Fz) (s : Shared) (Q : Value → Shared → Prop) (E : Value → Shared → Prop), Mo C K σ F s →
    (∀ F' v s', Mo C K σ F' s' → Fle F F' → Rep F' v d → Q v s') → wpAny C.G.M C.A (eval e C.env) Q E s

def EvT (C : Cx) (σ : St) (e : Expr) (b : Bool) : Prop :=
  ∀ (K F : Fz) (s : Shared) (Q : Bool → Shared → Prop) (E : Value → Shared → Prop), Mo C K σ F s →
    (∀ F' s', Mo C K σ F' s' → Fle F F' → Q b s') → wpAny C.G.M C.A (isTrue e C.env (eval e C.env)) Q E s

def EvX (C : Cx) (σ : St) (e : Expr) (R : D → Mu → Prop) : Prop :=
  ∀ (K F : Fz) (s : Shared) (Q : Value → Shared → Prop) (E : Value → Shared → Prop), Mo C K σ F s →
    (∀ F' v s' d mu, R d mu → Mo C K (σ.setMu mu) F' s' → Fle F F' → Rep F' v d → Q v s') → wpAny C.G.M C.A (eval e C.env) Q E s

def NewL (σ : St) (ds : List D) (d : D) (mu : Mu) : Prop := ∃ a, d = .ref a ∧ mu = (a, .list ds) :: σ.mu
abbrev EvN (C : Cx) (σ : St) (e : Expr) (ds : List D) : Prop := EvX C σ e (NewL σ ds)

theorem Ev.of_new {C : Cx} {σ : St} {e : Expr} {ds : List D} (h : EvN C σ e ds) : Ev C σ e (.list ds) := fun K F s Q E X hQ =>
  h K F s Q E X fun F' v s' d mu ⟨a, e1, e2⟩ X' g r => by
    subst e1 e2
    obtain ⟨o, ho, ⟨o', vs, h1, h2, h3⟩, hF, X''⟩ := X'.freeze rfl
    have g' : Fle F' (F'.put a o) := Fle.put hF o
    refine hQ _ _ _ X'' (g.trans g') ?_
    rw [ho] at h1
    cases h1
    cases r.ref_inv
    exact .list (Fz.put_self _ _ _) h2 (h3.mono g')
theorem EvX.of {C : Cx} {σ : St} {e : Expr} {d : D} (h : Ev C σ e d) : EvX C σ e (fun d' mu => d' = d ∧ mu = σ.mu) := fun K F s Q E X hQ =>
  h K F s Q E X fun F' v s' X' g r => hQ F' v s' d σ.mu ⟨rfl, rfl⟩ X' g r
theorem EvX.mono {C : Cx} {σ : St} {e : Expr} {R R' : D → Mu → Prop} (h : EvX C σ e R) (hR : ∀ d mu, R d mu → R' d mu) : EvX C σ e R' := fun K F s Q E X hQ =>
  h K F s Q E X fun F' v s' d mu r => hQ F' v s' d mu (hR d mu r)
theorem Ev.cast {C : Cx} {σ : St} {e : Expr} {d d' : D} (h : Ev C σ e d) (hd : d = d') : Ev C σ e d' := hd ▸ h
theorem EvT.cast {C : Cx} {σ : St} {e : Expr} {d d' : Bool} (h : EvT C σ e d) (hd : d = d') : EvT C σ e d' := hd ▸ h
theorem EvN.cast {C : Cx} {σ : St} {e : Expr} {d d' : List D} (h : EvN C σ e d) (hd : d = d') : EvN C σ e d' := hd ▸ h

section
variable {C : Cx} {σ : St}

theorem Ev.int {i : Int} {k : Nat} {p : Pos} : Ev C σ (.Constant (.int i) k p) (.int i) := fun K F s Q E X hQ =>
  wpAny_Constant_int (hQ F _ _ (X.toks _) (Fle.refl _) (.int _ _))
theorem Ev.bool {i : Bool} {k : Nat} {p : Pos} : Ev C σ (.Constant (.bool i) k p) (.bool i) := fun K F s Q E X hQ =>
  wpAny_Constant_bool (hQ F _ _ X (Fle.refl _) (.bool _))
theorem Ev.none {k : Nat} {p : Pos} : Ev C σ (.Constant .none k p) .none := fun K F s Q E X hQ =>
  wpAny_Constant_none (hQ F _ _ X (Fle.refl _) .none)

theorem Ev.name {x : Str} {p : Pos} {d : D} (hx : σ.vars.lookup x = some d) (h1 : (x == ("__debug__" : Str)) = false := by decide) (h2 : (x == ("__classdict__" : Str)) = false := by decide) : Ev C σ (.Name x p) d := fun K F s Q E X hQ => by
  obtain ⟨m, hn, hm⟩ := X.loc
  obtain ⟨v, hv, hr⟩ := hm x d hx
  refine wpAny_Name ?_ h1
  have fin := hQ F v s X (Fle.refl _) hr
  unfold VarAt at hv
  split at hv
  · rename_i e; exact wpAny_loadName_local X.ok.fn e hn hv fin
  · rename_i e; obtain ⟨c, e1, e2⟩ := hv; exact wpAny_loadName_cell X.ok.fn e e1 e2 fin
  · rename_i e; obtain ⟨c, e1, e2⟩ := hv; exact wpAny_loadName_free X.ok.fn e e1 e2 fin h2
  · exact hv.elim

theorem Mo.nsg {K F : Fz} {s : Shared} (X : Mo C K σ F s) : s.heap.Ns C.env.globals C.G.mg := by
  rw [X.ok.gl]; exact X.am.ns
theorem Mo.nsb {K F : Fz} {s : Shared} (X : Mo C K σ F s) : s.heap.Ns C.env.builtins C.G.mb := by
  rw [X.ok.bu]; exact X.am.nsb

theorem gName {K F : Fz} {s : Shared} {Q : Value → Shared → Prop} {E : Value → Shared → Prop} {x : Str} {p : Pos} {v : Value} (X : Mo C K σ F s) (hk : C.env.kindOf x = some .globalImplicit) (hv : C.G.mg x = some v) (h : Q v s)
    (h1 : (x == ("__debug__" : Str)) = false := by decide) : wpAny C.G.M C.A (eval (.Name x p) C.env) Q E s :=
  Name_function_global X.ok.fn hk (loadGlobal_global X.nsg hv h) h1
theorem bName {K F : Fz} {s : Shared} {Q : Value → Shared → Prop} {E : Value → Shared → Prop} {x : Str} {p : Pos} {v : Value} (X : Mo C K σ F s) (hk : C.env.kindOf x = some .globalImplicit) (hn : C.G.mg x = none) (hv : C.G.mb x = some v) (h : Q v s)
    (h1 : (x == ("__debug__" : Str)) = false := by decide) : wpAny C.G.M C.A (eval (.Name x p) C.env) Q E s :=
  Name_function_global X.ok.fn hk (loadGlobal_builtin X.nsg hn X.nsb hv h) h1
theorem Ev.glob {x : Str} {p : Pos} {a : Addr} (hk : C.env.kindOf x = some .globalImplicit) (hv : C.G.mg x = some (.ref a)) (h1 : (x == ("__debug__" : Str)) = false := by decide) : Ev C σ (.Name x p) (.ref a) :=
  fun K F s Q E X hQ => gName X hk hv (hQ F _ s X (Fle.refl _) (.ref a)) h1

def OpX (C : Cx) (σ : St) (t : Value → Value → Sem Value) (d1 d2 : D) (R : D → Mu → Prop) : Prop :=
  ∀ (K F : Fz) (s : Shared) (v1 v2 : Value) (Q : Value → Shared → Prop) (E : Value → Shared → Prop), Mo C K σ F s → Rep F v1 d1 → Rep F v2 d2 →
    (∀ F' v s' d mu, R d mu → Mo C K (σ.setMu mu) F' s' → Fle F F' → Rep F' v d → Q v s') → wpAny C.G.M C.A (t v1 v2) Q E s
def OpSem (C : Cx) (σ : St) (t : Value → Value → Sem Value) (d1 d2 d : D) : Prop :=
  ∀ (K F : Fz) (s : Shared) (v1 v2 : Value) (Q : Value → Shared → Prop) (E : Value → Shared → Prop), Mo C K σ F s → Rep F v1 d1 → Rep F v2 d2 →
    (∀ F' v s', Mo C K σ F' s' → Fle F F' → Rep F' v d → Q v s') → wpAny C.G.M C.A (t v1 v2) Q E s

theorem Ev.bin {l r : Expr} {op : Operator} {p : Pos} {d1 d2 d : D} (hl : Ev C σ l d1) (hr : Ev C σ r d2) (ho : OpSem C σ (binaryOp op) d1 d2 d) : Ev C σ (.BinOp l op r p) d := fun K F s Q E X hQ =>
  wpAny_BinOp (hl K F s _ E X fun F1 v1 s1 X1 g1 r1 => hr K F1 s1 _ E X1 fun F2 v2 s2 X2 g2 r2 =>
    ho K F2 s2 v1 v2 Q E X2 (r1.mono g2) r2 fun F3 v s3 X3 g3 r3 => hQ F3 v s3 X3 ((g1.trans g2).trans g3) r3)
theorem EvX.bin {l r : Expr} {op : Operator} {p : Pos} {d1 d2 : D} {R : D → Mu → Prop} (hl : Ev C σ l d1) (hr : Ev C σ r d2) (ho : OpX C σ (binaryOp op) d1 d2 R) : EvX C σ (.BinOp l op r p) R := fun K F s Q E X hQ =>
  wpAny_BinOp (hl K F s _ E X fun F1 v1 s1 X1 g1 r1 => hr K F1 s1 _ E X1 fun F2 v2 s2 X2 g2 r2 =>
    ho K F2 s2 v1 v2 Q E X2 (r1.mono g2) r2 fun F3 v s3 d mu hR X3 g3 r3 => hQ F3 v s3 d mu hR X3 ((g1.trans g2).trans g3) r3)
theorem EvX.binX {l r : Expr} {op : Operator} {p : Pos} {R1 R : D → Mu → Prop} {R2 : D → Mu → D → Mu → Prop} (hl : EvX C σ l R1) (hr : ∀ d1 mu1, R1 d1 mu1 → EvX C (σ.setMu mu1) r (R2 d1 mu1))
    (ho : ∀ d1 mu1 d2 mu2, R1 d1 mu1 → R2 d1 mu1 d2 mu2 → OpX C (σ.setMu mu2) (binaryOp op) d1 d2 R) : EvX C σ (.BinOp l op r p) R := fun K F s Q E X hQ =>
  wpAny_BinOp (hl K F s _ E X fun F1 v1 s1 d1 mu1 h1 X1 g1 r1 => hr d1 mu1 h1 K F1 s1 _ E X1 fun F2 v2 s2 d2 mu2 h2 X2 g2 r2 =>
    ho d1 mu1 d2 mu2 h1 h2 K F2 s2 v1 v2 Q E X2 (r1.mono g2) r2 fun F3 v s3 d mu hR X3 g3 r3 => hQ F3 v s3 d mu hR X3 ((g1.trans g2).trans g3) r3)

theorem Op.add {a b : Int} : OpSem C σ (binaryOp .Add) (.int a) (.int b) (.int (a + b)) := fun K F s v1 v2 Q E X r1 r2 hQ => by
  obtain ⟨t, rfl⟩ := r1.int_inv; obtain ⟨u, rfl⟩ := r2.int_inv
  exact add_int (hQ F _ _ (X.toks _) (Fle.refl _) (.int _ _))
theorem Op.sub {a b : Int} : OpSem C σ (binaryOp .Sub) (.int a) (.int b) (.int (a - b)) := fun K F s v1 v2 Q E X r1 r2 hQ => by
  obtain ⟨t, rfl⟩ := r1.int_inv; obtain ⟨u, rfl⟩ := r2.int_inv
  exact sub_int (hQ F _ _ (X.toks _) (Fle.refl _) (.int _ _))
theorem Op.mod {a b : Int} (hb : b ≠ 0) : OpSem C σ (binaryOp .Mod) (.int a) (.int b) (.int (a.fmod b)) := fun K F s v1 v2 Q E X r1 r2 hQ => by
  obtain ⟨t, rfl⟩ := r1.int_inv; obtain ⟨u, rfl⟩ := r2.int_inv
  exact mod_int' hb (hQ F _ _ (X.toks _) (Fle.refl _) (.int _ _))
theorem Op.div {a b : Int} (hb : b ≠ 0) (hs : b.natAbs < 1073741824) : OpSem C σ (binaryOp .FloorDiv) (.int a) (.int b) (.int (a.fdiv b)) := fun K F s v1 v2 Q E X r1 r2 hQ => by
  obtain ⟨t, rfl⟩ := r1.int_inv; obtain ⟨u, rfl⟩ := r2.int_inv
  exact floordiv_int hb (hQ F _ _ (X.toks _) (Fle.refl _) (.int _ _)) (Or.inl (PyProof.noPylong_small hs))

def Items (C : Cx) (σ : St) (d : D) (ds : List D) : Prop := d = .list ds ∨ ∃ a, d = .ref a ∧ ((a, MO.list ds) ∈ σ.mu ∨ (a, MO.list ds) ∈ C.ro)
theorem Items.list {ds : List D} : Items C σ (.list ds) ds := .inl rfl
theorem Items.mu {a : Addr} {ds : List D} (h : (a, MO.list ds) ∈ σ.mu) : Items C σ (.ref a) ds := .inr ⟨a, rfl, .inl h⟩
theorem Items.ro {a : Addr} {ds : List D} (h : (a, MO.list ds) ∈ C.ro) : Items C σ (.ref a) ds := .inr ⟨a, rfl, .inr h⟩

theorem MO.At.isL {F : Fz} {h : Heap} {a : Addr} {ds : List D} (x : (MO.list ds).At F h a) : ∃ vs n, IsL h a vs.toArray n ∧ RepL F vs ds ∧ vs.length ≤ 100000 := by
  obtain ⟨o, vs, h1, ⟨h2, n, rfl⟩, h3⟩ := x
  exact ⟨vs, n, h1, h3, h2⟩
theorem Items.at {K F : Fz} {s : Shared} {v : Value} {d : D} {ds : List D} (X : Mo C K σ F s) (h : Items C σ d ds) (r : Rep F v d) :
    ∃ a vs n, v = .ref a ∧ IsL s.heap a vs.toArray n ∧ RepL F vs ds ∧ vs.length ≤ 100000 := by
  rcases h with rfl | ⟨a, rfl, h | h⟩
  · obtain ⟨a, o, vs, rfl, h1, ⟨h2, n, rfl⟩, h3⟩ := r.list_inv
    exact ⟨a, vs, n, rfl, X.am.frz _ _ h1, h3, h2⟩
  · obtain ⟨vs, n, k⟩ := (X.am.mus _ h).1.isL
    exact ⟨a, vs, n, r.ref_inv, k⟩
  · obtain ⟨vs, n, k⟩ := (X.ro _ h).1.isL
    exact ⟨a, vs, n, r.ref_inv, k⟩
theorem tup_at {K F : Fz} {s : Shared} {v : Value} {ds : List D} (X : Mo C K σ F s) (r : Rep F v (.tup ds)) :
    ∃ a vs n, v = .ref a ∧ s.heap.get? a = some { cls := .type "tuple", data := .seq vs.toArray n } ∧ RepL F vs ds ∧ vs.length ≤ 100000 := by
  obtain ⟨a, o, vs, rfl, h1, ⟨h2, n, rfl⟩, h3⟩ := r.tup_inv
  exact ⟨a, vs, n, rfl, X.am.frz _ _ h1, h3, h2⟩

theorem Mo.newList {K F : Fz} {s : Shared} (X : Mo C K σ F s) {vs : List Value} {ds : List D} (hr : RepL F vs ds) (hl : vs.length ≤ 100000) (t : Nat) :
    Mo C K (σ.setMu ((s.heap.objs.size, .list ds) :: σ.mu)) F { s with heap := s.heap.push { cls := .type "list", data := .seq vs.toArray }, toks := t } :=
  X.allocMu _ _ t ⟨_, vs, Heap.get?_push_size _ rfl, ⟨hl, 0, rfl⟩, hr⟩
theorem Mo.newTup {K F : Fz} {s : Shared} (X : Mo C K σ F s) {vs : List Value} {ds : List D} (hr : RepL F vs ds) (hl : vs.length ≤ 100000) (t : Nat) :
    ∃ F', Fle F F' ∧ Rep F' (.ref s.heap.objs.size) (.tup ds) ∧ Mo C K σ F' { s with heap := s.heap.push { cls := .type "tuple", data := .seq vs.toArray }, toks := t } := by
  have g : Fle F (F.put s.heap.objs.size { cls := .type "tuple", data := .seq vs.toArray }) := Fle.put X.am.fresh _
  exact ⟨_, g, .tup (Fz.put_self _ _ _) ⟨hl, 0, rfl⟩ (hr.mono g), X.alloc _ rfl t⟩
theorem fitsSz {n : Nat} (h : n ≤ 200000) : n ≤ sizeLine := by rw [sizeLine_eq]; omega

theorem OpN.concat {d1 d2 : D} {ds1 ds2 : List D} (i1 : Items C σ d1 ds1) (i2 : Items C σ d2 ds2) (hz : ds1.length + ds2.length ≤ 100000) : OpX C σ (binaryOp .Add) d1 d2 (NewL σ (ds1 ++ ds2)) := fun K F s v1 v2 Q E X r1 r2 hQ => by
  obtain ⟨a, vs, n, rfl, h1, h2, h3⟩ := i1.at X r1
  obtain ⟨b, ws, m, rfl, k1, k2, k3⟩ := i2.at X r2
  refine P.add_list h1 k1 ?_ (fitsSz (by simp only [List.size_toArray]; omega))
  rw [show vs.toArray ++ ws.toArray = (vs ++ ws).toArray by simp]
  have l1 := h2.length
  have l2 := k2.length
  exact hQ F _ _ _ _ ⟨_, rfl, rfl⟩ (X.newList (h2.append k2) (by rw [List.length_append]; omega) _) (Fle.refl _) (.ref _)

def EvL (C : Cx) (σ : St) (es : List Expr) (ds : List D) : Prop :=
  ∀ (pos : Pos) (K F : Fz) (s : Shared) (Q : List Value → Shared → Prop) (E : Value → Shared → Prop), Mo C K σ F s →
    (∀ F' vs s', Mo C K σ F' s' → Fle F F' → RepL F' vs ds → Q vs s') → wpAny C.G.M C.A (spliced (backTo pos (starEach es C.env))) Q E s
theorem EvL.nil : EvL C σ [] [] := fun pos K F s Q E X hQ => wpAny_items_nil (hQ F _ _ X (Fle.refl _) .nil)
theorem EvL.cons {e : Expr} {es : List Expr} {d : D} {ds : List D} (h : Ev C σ e d) (hr : EvL C σ es ds) (he : starEach (e :: es) C.env = (false, eval e C.env) :: starEach es C.env := by rfl) : EvL C σ (e :: es) (d :: ds) := fun pos K F s Q E X hQ =>
  wpAny_items_cons (h K F s _ E X fun F1 v s1 X1 g1 r1 => hr pos K F1 s1 _ E X1 fun F2 vs s2 X2 g2 r2 => hQ F2 _ s2 X2 (g1.trans g2) (.cons (r1.mono g2) r2)) he
theorem EvN.list {es : List Expr} {pos : Pos} {ds : List D} (h : EvL C σ es ds) (hz : ds.length ≤ 100000) : EvN C σ (.List es pos) ds := fun K F s Q E X hQ =>
  wpAny_List (h pos K F s _ E X fun F' vs s' X' g r => by
    have hl := r.length
    exact ⟨fitsSz (by omega), hQ F' _ _ _ _ ⟨_, rfl, rfl⟩ (X'.newList r (by omega) _) g (.ref _)⟩)
theorem Ev.tuple {es : List Expr} {k : Nat} {pos : Pos} {ds : List D} (h : EvL C σ es ds) (hz : ds.length ≤ 100000) : Ev C σ (.Tuple es k pos) (.tup ds) := fun K F s Q E X hQ =>
  wpAny_Tuple (h pos K F s _ E X fun F' vs s' X' g r => by
    have hl := r.length
    obtain ⟨F2, g2, r2, X2⟩ := X'.newTup r (by omega) s'.toks
    exact ⟨fitsSz (by omega), hQ F2 _ _ X2 (g.trans g2) r2⟩)

abbrev CmpSem (C : Cx) (σ : St) (op : CmpOp) (d1 d2 : D) (b : Bool) : Prop := OpSem C σ (compareOp op) d1 d2 (.bool b)

theorem Ev.cmp {l r : Expr} {op : CmpOp} {p : Pos} {d1 d2 : D} {b : Bool} (hl : Ev C σ l d1) (hr : Ev C σ r d2) (ho : CmpSem C σ op d1 d2 b) (hm : behindInMarks op r = false := by with_unfolding_all rfl) :
    Ev C σ (.Compare l [op] [r] p) (.bool b) := fun K F s Q E X hQ =>
  wpAny_Compare1 (hl K F s _ E X fun F1 v1 s1 X1 g1 r1 => hr K F1 s1 _ E X1 fun F2 v2 s2 X2 g2 r2 =>
    ho K F2 s2 v1 v2 Q E X2 (r1.mono g2) r2 fun F3 v s3 X3 g3 r3 => hQ F3 v s3 X3 ((g1.trans g2).trans g3) r3) hm
theorem EvT.cmp {l r : Expr} {op : CmpOp} {p : Pos} {d1 d2 : D} {b : Bool} (hl : Ev C σ l d1) (hr : Ev C σ r d2) (ho : CmpSem C σ op d1 d2 b) (hm : behindInMarks op r = false := by with_unfolding_all rfl) :
    EvT C σ (.Compare l [op] [r] p) b := fun K F s Q E X hQ =>
  wpAny_isTrue_Compare1 (hl K F s _ E X fun F1 v1 s1 X1 g1 r1 => hr K F1 s1 _ E X1 fun F2 v2 s2 X2 g2 r2 =>
    ho K F2 s2 v1 v2 _ E X2 (r1.mono g2) r2 fun F3 v s3 X3 g3 r3 => by
      cases r3.bool_inv
      exact wpAny_truthy_bool (hQ F3 s3 X3 ((g1.trans g2).trans g3))) hm

theorem Cm.gt {a b : Int} : CmpSem C σ .Gt (.int a) (.int b) (decide (b < a)) := fun K F s v1 v2 Q E X r1 r2 hQ => by
  obtain ⟨t, rfl⟩ := r1.int_inv; obtain ⟨u, rfl⟩ := r2.int_inv
  exact gt_int (hQ F _ _ X (Fle.refl _) (.bool _))
theorem Cm.eq {a b : Int} : CmpSem C σ .Eq (.int a) (.int b) (a == b) := fun K F s v1 v2 Q E X r1 r2 hQ => by
  obtain ⟨t, rfl⟩ := r1.int_inv; obtain ⟨u, rfl⟩ := r2.int_inv
  exact eq_int (hQ F _ _ X (Fle.refl _) (.bool _))
theorem EvT.not {x : Expr} {p : Pos} {b : Bool} (h : EvT C σ x b) : EvT C σ (.UnaryOp .Not x p) (!b) := fun K F s Q E X hQ =>
  wpAny_isTrue_Not (h K F s _ E X fun F' s' X' g => hQ F' s' X' g)
theorem EvT.bool {e : Expr} {b : Bool} (h : Ev C σ e (.bool b)) (he : ∀ whole, isTrue e C.env whole = (do let v ← whole; standAt e.pos; holding [v] (truthy v)) := by intro _; rfl) : EvT C σ e b := fun K F s Q E X hQ =>
  wpAny_isTrue_value (h K F s _ E X fun F' v s' X' g r => by cases r.bool_inv; exact wpAny_truthy_bool (hQ F' s' X' g)) (he _)
theorem EvT.list {e : Expr} {d : D} {ds : List D} (h : Ev C σ e d) (hi : Items C σ d ds) (he : ∀ whole, isTrue e C.env whole = (do let v ← whole; standAt e.pos; holding [v] (truthy v)) := by intro _; rfl) : EvT C σ e (!ds.isEmpty) := fun K F s Q E X hQ =>
  wpAny_isTrue_value (h K F s _ E X fun F' v s' X' g r => by
    obtain ⟨a, vs, n, rfl, h1, h2, h3⟩ := hi.at X' r
    refine wpAny_truthy_list (IsL.isList h1) (by rw [List.size_toArray]; omega) ?_
    have : vs.toArray.isEmpty = ds.isEmpty := by
      have := h2.length
      cases vs <;> cases ds <;> simp at this ⊢
    rw [this]
    exact hQ F' _ (X'.toks _) g) (he _)

theorem Ev.isNone {x : Expr} {p pc : Pos} {k : Nat} {d : D} (h : Ev C σ x d) (hd : d = .none ∨ ∃ i, d = .int i) : EvT C σ (.Compare x [.Is] [.Constant .none k pc] p) (match d with | .none => true | _ => false) := fun K F s Q E X hQ => by
  refine wpAny_isTrue_Compare1 (h K F s _ E X fun F' v s' X' g r => wpAny_Constant_none ?_) (by with_unfolding_all rfl)
  rcases hd with rfl | ⟨i, rfl⟩
  · cases r.none_inv
    exact wpAny_is_self rfl (wpAny_truthy_bool (hQ F' s' X' g))
  · obtain ⟨t, rfl⟩ := r.int_inv
    exact wpAny_is_other rfl (by intro e; cases e) (wpAny_truthy_bool (hQ F' s' X' g))
end
end Mine
end

section
set_option Elab.async false
set_option linter.unusedVariables false
namespace Mine
open PySem PySem.W PyProof.Rows PySem.Calls

section
variable {C : Cx} {σ : St}

theorem Ev.idx {value slice : Expr} {p : Pos} {d x : D} {ds : List D} {k : Int} (hv : Ev C σ value d) (hi : Items C σ d ds) (hs : Ev C σ slice (.int k)) (h0 : 0 ≤ k) (hx : ds[k.toNat]? = some x)
    (ho : ∀ a t, subscripted slice false (.ref a) (.int k t) = operate [.ref a, .int k t] (getItem (.ref a) (.int k t)) := by intro _ _; with_unfolding_all rfl) : Ev C σ (.Subscript value slice p) x := fun K F s Q E X hQ => by
  refine Subscript_ (hv K F s _ E X fun F1 v1 s1 X1 g1 r1 => hs K F1 s1 _ E X1 fun F2 v2 s2 X2 g2 r2 => ?_)
  obtain ⟨a, vs, n, rfl, h1, h2, h3⟩ := hi.at X2 (r1.mono g2)
  obtain ⟨t, rfl⟩ := r2.int_inv
  obtain ⟨v, hv, hr⟩ := h2.get hx
  have hlt : k.toNat < ds.length := (List.getElem?_eq_some_iff.mp hx).1
  have hl := h2.length
  exact tail_any (IsL.isList h1).typeIs slot_list_getitem.lookup (wpAny_getItem_list (IsL.isList h1) h0 (by omega) (by simpa using hv) (hQ F2 v s2 X2 (g1.trans g2) hr)) (ho a t)

theorem Ev.tupIdx {value slice : Expr} {p : Pos} {x : D} {ds : List D} {k : Int} (hv : Ev C σ value (.tup ds)) (hs : Ev C σ slice (.int k)) (h0 : 0 ≤ k) (hx : ds[k.toNat]? = some x)
    (ho : ∀ a t, subscripted slice false (.ref a) (.int k t) = operate [.ref a, .int k t] (getItem (.ref a) (.int k t)) := by intro _ _; with_unfolding_all rfl) : Ev C σ (.Subscript value slice p) x := fun K F s Q E X hQ => by
  refine Subscript_ (hv K F s _ E X fun F1 v1 s1 X1 g1 r1 => hs K F1 s1 _ E X1 fun F2 v2 s2 X2 g2 r2 => ?_)
  obtain ⟨a, vs, n, rfl, h1, h2, h3⟩ := tup_at X2 (r1.mono g2)
  obtain ⟨t, rfl⟩ := r2.int_inv
  obtain ⟨v, hv, hr⟩ := h2.get hx
  have hlt : k.toNat < ds.length := (List.getElem?_eq_some_iff.mp hx).1
  have hl := h2.length
  refine item_tupleT (l := vs) (j := k.toNat) ⟨_, h1, rfl, _, rfl⟩ (by omega) (by omega) (seqIndex_of h0 (by omega)) hv (hQ F2 v s2 X2 (g1.trans g2) hr) (ho a t)

def EvP (C : Cx) (σ : St) (e : Option Expr) (k : Option Int) : Prop :=
  ∀ (K F : Fz) (s : Shared) (Q : Value → Shared → Prop) (E : Value → Shared → Prop), Mo C K σ F s →
    (∀ F' v s', Mo C K σ F' s' → Fle F F' → IsPart v k → Q v s') → wpAny C.G.M C.A (evalPart e C.env) Q E s
theorem EvP.none : EvP C σ none none := fun K F s Q E X hQ => by
  rw [evalPart_none]
  exact wpAny_pure (hQ F _ s X (Fle.refl _) .none)
theorem EvP.some {e : Expr} {k : Int} (h : Ev C σ e (.int k)) : EvP C σ (some e) (some k) := fun K F s Q E X hQ => by
  rw [evalPart_some]
  refine h K F s _ E X fun F' v s' X' g r => ?_
  obtain ⟨t, rfl⟩ := r.int_inv
  exact hQ F' _ s' X' g (.int _ _)

theorem EvN.slice0 {value : Expr} {lower upper step : Option Expr} {p pos : Pos} {d : D} {ds ds' : List D} {lo hi st : Option Int} (hv : Ev C σ value d) (hi' : Items C σ d ds) (hl : EvP C σ lower lo) (hu : EvP C σ upper hi) (hst : EvP C σ step st) (h0 : st ≠ some 0)
    (hp : ∀ (F : Fz) (vs : List Value), RepL F vs ds → vs.length ≤ 100000 → ∃ ws, slicePick vs.toArray lo hi st = ws.toArray ∧ RepL F ws ds')
    (ho : ∀ a i, ∃ ops, subscripted (.Slice lower upper step p) false (.ref a) (.ref i) = operate ops (getItem (.ref a) (.ref i)) := by intro _ _; exact ⟨_, by with_unfolding_all rfl⟩) : EvN C σ (.Subscript value (.Slice lower upper step p) pos) ds' := fun K F s Q E X hQ => by
  refine Subscript_ (hv K F s _ E X fun F1 v1 s1 X1 g1 r1 => wpAny_Slice (hl K F1 s1 _ E X1 fun F2 v2 s2 X2 g2 r2 => hu K F2 s2 _ E X2 fun F3 v3 s3 X3 g3 r3 => hst K F3 s3 _ E X3 fun F4 v4 s4 X4 g4 r4 => ?_))
  obtain ⟨a, vs, n, rfl, h1, h2, h3⟩ := hi'.at X4 (((r1.mono g2).mono g3).mono g4)
  have hL : (s4.heap.push { cls := .type "slice", data := .fields #[v2, v3, v4] }).IsList a vs.toArray := (IsL.isList h1).push _
  obtain ⟨ws, e1, e2⟩ := hp F4 vs h2 h3
  have hz := slicePick_size_le vs.toArray lo hi st
  rw [e1, List.size_toArray, List.size_toArray] at hz
  refine tail_any hL.typeIs slot_list_getitem.lookup (wpAny_getItem_list_slice hL (Heap.IsSliceOf.new ..) r2 r3 r4 h0 ?_ (by rw [List.size_toArray]; exact fitsSz (by omega))) (ho _ _).choose_spec
  rw [e1]
  have X5 := X4.junk { cls := .type "slice", data := .fields #[v2, v3, v4] } s4.toks
  exact hQ F4 _ _ _ _ ⟨_, rfl, rfl⟩ (X5.newList e2 (by omega) s4.toks) (((g1.trans g2).trans g3).trans g4) (.ref _)

theorem EvN.upto {value upper : Expr} {p pos : Pos} {d : D} {ds : List D} {n : Nat} (hv : Ev C σ value d) (hi : Items C σ d ds) (hu : Ev C σ upper (.int n))
    (ho : ∀ a i, ∃ ops, subscripted (.Slice none (some upper) none p) false (.ref a) (.ref i) = operate ops (getItem (.ref a) (.ref i)) := by intro _ _; exact ⟨_, by with_unfolding_all rfl⟩) : EvN C σ (.Subscript value (.Slice none (some upper) none p) pos) (ds.take n) :=
  EvN.slice0 hv hi .none (.some hu) .none (by simp) (fun F vs h _ => ⟨vs.take n, slicePick_upto' _ _, h.take n⟩) ho
theorem EvN.from {value lower : Expr} {p pos : Pos} {d : D} {ds : List D} {n : Nat} (hv : Ev C σ value d) (hi : Items C σ d ds) (hu : Ev C σ lower (.int n))
    (ho : ∀ a i, ∃ ops, subscripted (.Slice (some lower) none none p) false (.ref a) (.ref i) = operate ops (getItem (.ref a) (.ref i)) := by intro _ _; exact ⟨_, by with_unfolding_all rfl⟩) : EvN C σ (.Subscript value (.Slice (some lower) none none p) pos) (ds.drop n) :=
  EvN.slice0 hv hi (.some hu) .none .none (by simp) (fun F vs h _ => ⟨vs.drop n, slicePick_from' _ _, h.drop n⟩) ho
theorem EvN.copy {value : Expr} {p pos : Pos} {d : D} {ds : List D} (hv : Ev C σ value d) (hi : Items C σ d ds)
    (ho : ∀ a i, ∃ ops, subscripted (.Slice none none none p) false (.ref a) (.ref i) = operate ops (getItem (.ref a) (.ref i)) := by intro _ _; exact ⟨_, by with_unfolding_all rfl⟩) : EvN C σ (.Subscript value (.Slice none none none p) pos) ds :=
  EvN.slice0 hv hi .none .none .none (by simp) (fun F vs h _ => ⟨vs, slicePick_all _, h⟩) ho
end
end Mine
end

section
set_option Elab.async false
set_option linter.unusedVariables false
namespace Mine
open PySem PySem.W PyProof.Rows PySem.Calls

structure IterOk (G : Gx) (A : Around) (K F : Fz) (it : Addr) (ds : List D) (P : Nat → Obj → Prop) : Prop where
  item : ∀ (k : Nat) (d : D) (F' : Fz) (s : Shared) (Q : Option Value → Shared → Prop) (E : Value → Shared → Prop), Fle F F' → (∀ a o, F' a = some o → s.heap.get? a = some o) → (∀ a o, K a = some o → s.heap.get? a = some o) → ds[k]? = some d →
    (∃ o, s.heap.get? it = some o ∧ P k o) → (∀ h' v t, Heap.SameBut it s.heap h' → (∃ o, h'.get? it = some o ∧ P (k + 1) o) → Rep F' v d → Q (some v) { s with heap := h', toks := t }) → wpAny (model G.prog G.w) A (pyNext (.ref it)) Q E s
  stop : ∀ (F' : Fz) (s : Shared) (Q : Option Value → Shared → Prop) (E : Value → Shared → Prop), Fle F F' → (∀ a o, F' a = some o → s.heap.get? a = some o) → (∀ a o, K a = some o → s.heap.get? a = some o) →
    (∃ o, s.heap.get? it = some o ∧ P ds.length o) → (∀ h' t, Heap.ExtBut it s.heap h' → Q none { s with heap := h', toks := t }) → wpAny (model G.prog G.w) A (pyNext (.ref it)) Q E s
  self : ∀ (k : Nat) (s : Shared) (Q : Value → Shared → Prop) (E : Value → Shared → Prop), (∃ o, s.heap.get? it = some o ∧ P k o) → Q (.ref it) s → wpAny (model G.prog G.w) A (pyIter (.ref it)) Q E s
theorem IterOk.mono {G : Gx} {A : Around} {K K' F F' : Fz} {it : Addr} {ds : List D} {P : Nat → Obj → Prop} (I : IterOk G A K F it ds P) (hK : Fle K K') (hF : Fle F F') : IterOk G A K' F' it ds P :=
  ⟨fun k d F2 s Q E h1 h2 h3 => I.item k d F2 s Q E (hF.trans h1) h2 fun a o e => h3 a o (hK a o e), fun F2 s Q E h1 h2 h3 => I.stop F2 s Q E (hF.trans h1) h2 fun a o e => h3 a o (hK a o e), I.self⟩

def rints (lo hi : Int) : List D := (List.range (hi - lo).toNat).map fun i : Nat => D.int (lo + i)

inductive Src (K F : Fz) : Value → List D → Prop
  | list {a : Addr} {o : Obj} {vs : List Value} {ds : List D} : (F a = some o ∨ K a = some o) → LstO o vs → RepL F vs ds → Src K F (.ref a) ds
  | rng {a : Addr} {o : Obj} {lo hi : Int} : F a = some o → RngO o lo hi → (-1000000 ≤ lo ∧ lo ≤ 1000000 ∧ -1000000 ≤ hi ∧ hi ≤ 1000000) → Src K F (.ref a) (rints lo hi)

theorem pyIter_src {G : Gx} {A : Around} {K F : Fz} {v : Value} {ds : List D} {s : Shared} {Q : Value → Shared → Prop} {E : Value → Shared → Prop} (hh : A.handled = none) (S : Src K F v ds)
    (hF : ∀ a o, F a = some o → s.heap.get? a = some o) (hK : ∀ a o, K a = some o → s.heap.get? a = some o)
    (h : ∀ o P, o.isFreed = false → P 0 o → (∀ A : Around, A.handled = none → IterOk G A K F s.heap.objs.size ds P) → Q (.ref s.heap.objs.size) { s with heap := s.heap.push o }) : wpAny (model G.prog G.w) A (pyIter v) Q E s := by
  cases S with
  | @list a o vs ds ha hl hr =>
    obtain ⟨hlen, n, rfl⟩ := hl
    have hget : ∀ (F' : Fz) (s : Shared), Fle F F' → (∀ a o, F' a = some o → s.heap.get? a = some o) → (∀ a o, K a = some o → s.heap.get? a = some o) → s.heap.IsList a vs.toArray := fun F' s h1 h2 h3 => by
      rcases ha with ha | ha
      · exact ⟨_, h2 _ _ (h1 _ _ ha), rfl, n, rfl⟩
      · exact ⟨_, h3 _ _ ha, rfl, n, rfl⟩
    refine wpAny_pyIter_list (hget F s (Fle.refl _) hF hK) (h _ (fun k o => o.cls = .type "list_iterator" ∧ o.data = .fields #[.ref a, .int k 0]) rfl ⟨rfl, rfl⟩ fun A' hh' => ⟨?_, ?_, fun k s Q E ⟨o, ho, hc, hd⟩ hQ => wpAny_pyIter_listiter ⟨o, ho, hc, hd⟩ hQ⟩)
    · intro k d F' s Q E h1 h2 h3 hk ⟨o, ho, hc, hd⟩ hQ
      obtain ⟨v, hv, hr'⟩ := hr.get hk
      exact wpAny_pyNext_list_item ⟨o, ho, hc, hd⟩ (hget F' s h1 h2 h3) (by simpa using hv) fun h' hit hs => hQ h' v _ hs hit (hr'.mono h1)
    · intro F' s Q E h1 h2 h3 ⟨o, ho, hc, hd⟩ hQ
      refine wpAny_pyNext_list_end hh' ⟨o, ho, hc, hd⟩ (hget F' s h1 h2 h3) ?_ fun h' hs => hQ h' _ hs
      rw [← hr.length]; simp
  | @rng a o lo hi ha ho hb =>
    obtain ⟨t, u, v, rfl⟩ := ho
    have hsz : Builtin.Range.rangeSize lo hi 1 = ((hi - lo).toNat : Int) := by rw [rangeSize_one]; split <;> omega
    refine wpAny_pyIter_range (a := lo) (b := hi) (c := 1) (t := t) (u := u) (v := v) (hF _ _ ha) (small_one (by omega) (by omega) (by omega) (by omega)) (h _ (fun k o => o = { cls := .type "range_iterator", dict := none, data := .fields #[rawInt (lo + k), rawInt ((hi - lo).toNat - k : Int), rawInt 1], slots := #[] }) rfl ?_ fun A' hh' => ⟨?_, ?_, fun k s Q E ⟨o, ho, hd⟩ hQ => wpAny_pyIter_rangeiter (hd ▸ ho) hQ⟩)
    · rw [hsz]; simp
    · intro k d F' s Q E h1 h2 h3 hk ⟨o, ho, hd⟩ hQ
      subst hd
      have hk' : k < (hi - lo).toNat := by
        have := (List.getElem?_eq_some_iff.mp hk).1
        simpa [rints] using this
      have hd' : d = .int (lo + k) := by
        rw [rints, List.getElem?_map, List.getElem?_range hk'] at hk
        simpa using hk.symm
      subst hd'
      refine wpAny_pyNext_range_item ho (by omega) fun h' hit hs => hQ h' _ _ hs ⟨_, hit, ?_⟩ (.int _ _)
      rw [show lo + ((k + 1 : Nat) : Int) = lo + k + 1 by omega, show (((hi - lo).toNat : Int) - ((k + 1 : Nat) : Int)) = (hi - lo).toNat - k - 1 by omega]
    · intro F' s Q E h1 h2 h3 ⟨o, ho, hd⟩ hQ
      subst hd
      refine wpAny_pyNext_range_end hh' ho ?_ fun h' hs => hQ h' _ hs
      simp [rints]

section
variable {C : Cx} {σ : St}

def Asg (C : Cx) (σ : St) (t : Expr) (d : D) (σ' : St) : Prop :=
  ∀ (K F : Fz) (s : Shared) (v : Value) (Q : Unit → Shared → Prop) (E : Value → Shared → Prop), Mo C K σ F s → Rep F v d →
    (∀ s', Mo C K σ' F s' → Q () s') → wpAny C.G.M C.A (assign t C.env v) Q E s
theorem Asg.local {x : Str} {p : Pos} {d : D} (hx : C.env.kindOf x = some .local) : Asg C σ (.Name x p) d (σ.set x d) := fun K F s v Q E X r hQ => by
  obtain ⟨m, hn, hm⟩ := X.loc
  exact wpAny_assign_Name (wpAny_storeName_local hx hn (fun h' hn' hs => hQ _ (X.storeL hm hx hs hn' r)) (by rw [X.ok.fn]; rfl))
theorem Asg.cell {x : Str} {p : Pos} {d : D} {c : Addr} (hx : C.env.kindOf x = some .cell) (hc : C.env.cells.lookup x = some c) (hp : c ∈ C.priv) : Asg C σ (.Name x p) d (σ.set x d) := fun K F s v Q E X r hQ => by
  obtain ⟨⟨v0, hv0⟩, _⟩ := X.live (x, c) (mem_of_lookup hc)
  exact wpAny_assign_Name (wpAny_storeName_cell X.ok.fn hx hc hv0 fun h' hn hs => hQ _ (X.storeC (t := s.toks) hx hc hp hs hn r))
end
end Mine
end

section
set_option Elab.async false
set_option linter.unusedVariables false
set_option linter.unusedSimpArgs false
namespace Mine
open PySem PySem.W PyProof.Rows PySem.Calls

theorem cellsFrom_acc : ∀ (names : List (Str × NameKind)) (n : Nat) (acc : List (Str × Addr)), cellsFrom n names acc = cellsFrom n names [] ++ acc
  | [], _, _ => rfl
  | (name, kind) :: r, n, acc => by
    unfold cellsFrom
    split
    · rw [cellsFrom_acc r (n + 1) ((name, n) :: acc), cellsFrom_acc r (n + 1) [(name, n)], List.append_assoc]; rfl
    · exact cellsFrom_acc r n acc
theorem cellsFrom_names : ∀ (names : List (Str × NameKind)) (n : Nat) (acc : List (Str × Addr)) (y : Str × Addr), y ∈ cellsFrom n names acc → y ∈ acc ∨ (y.1, NameKind.cell) ∈ names
  | [], _, _, _, h => .inl h
  | (name, kind) :: r, n, acc, y, h => by
    unfold cellsFrom at h
    split at h
    · rename_i hk
      rcases cellsFrom_names r _ _ y h with h | h
      · rcases List.mem_cons.mp h with rfl | h
        · have : kind = .cell := by simpa using hk
          subst this
          exact .inr (.head _)
        · exact .inl h
      · exact .inr (.tail _ h)
    · rcases cellsFrom_names r _ _ y h with h | h
      · exact .inl h
      · exact .inr (.tail _ h)
theorem lookup_append_none {α : Type} : ∀ {l r : List (Str × α)} {x : Str}, (∀ y ∈ l, y.1 ≠ x) → (l ++ r).lookup x = r.lookup x
  | [], _, _, _ => rfl
  | (k, v) :: l, r, x, h => by
    have : (x == k) = false := beq_eq_false_iff_ne.mpr fun e => h (k, v) (.head _) e.symm
    rw [List.cons_append, List.lookup_cons, this]
    exact lookup_append_none fun y hy => h y (.tail _ hy)
theorem lookup_filter {α : Type} (q : Str → Bool) : ∀ {l : List (Str × α)} {x : Str} {v : α}, (l.filter fun p => q p.1).lookup x = some v → q x = true ∧ l.lookup x = some v
  | [], _, _, h => by cases h
  | (k, w) :: l, x, v, h => by
    rw [List.filter_cons] at h
    split at h
    · rename_i hk
      rw [List.lookup_cons] at h ⊢
      cases hb : x == k with
      | true => rw [hb] at h; rw [beq_iff_eq.mp hb]; exact ⟨hk, h⟩
      | false => rw [hb] at h; exact lookup_filter q h
    · rename_i hk
      obtain ⟨h1, h2⟩ := lookup_filter q h
      refine ⟨h1, ?_⟩
      rw [List.lookup_cons]
      cases hb : x == k with
      | true => rw [beq_iff_eq.mp hb] at h1; exact absurd h1 hk
      | false => exact h2

theorem isCell_keeps {h h' : Heap} {c : Addr} {v : Option Value} (x : h.IsCell c v) (hk : ∀ o, h.get? c = some o → h'.get? c = some o) : h'.IsCell c v :=
  let ⟨o, ho, hd⟩ := x; ⟨o, hk o ho, hd⟩
theorem apA {a b : Addr} {n : Nat} (h1 : n + 1 ≤ b) (h2 : a < n) (e : b = a) : False := by subst e; exact absurd (Nat.lt_of_lt_of_le (Nat.lt_succ_self n) h1) (Nat.not_lt.mpr (Nat.le_of_lt h2))
theorem apB {a b : Addr} (h1 : a + 1 ≤ b) (e : b = a) : False := by subst e; exact Nat.lt_irrefl _ h1
theorem apC {a b : Addr} (h2 : a < b) (e : a = b) : False := by subst e; exact Nat.lt_irrefl _ h2
def sees (env : Env) (scope : Scope) (cl : List (Str × Addr)) (x : Str) (y : Str) : Bool :=
  !(y == x) && (cl.lookup y).isSome && (env.kindOf y == some .cell || env.kindOf y == some .free) && scope.names.lookup y == some .free
def compVars (env : Env) (scope : Scope) (cl : List (Str × Addr)) (x : Str) (vars : List (Str × D)) : List (Str × D) := vars.filter fun p => sees env scope cl x p.1

def compCx (C : Cx) (σ : St) (scope : Scope) (cl : List (Str × Addr)) (L : Addr) : Cx :=
  { G := C.G, A := C.A, env := compEnvC scope (cellsFrom (L + 1) scope.names cl) L C.env, priv := L :: (cellsFrom (L + 1) scope.names []).map (·.2), rm := C.rm, ro := σ.mu ++ C.ro, pre := C.pre }

structure CompOk (C : Cx) (scope : Scope) (cl : List (Str × Addr)) : Prop where
  clos : closureFor scope C.env = pure cl
  kind : scope.kind = .function
  names : ∀ y ∈ scope.names, y.2 = .local → scope.names.lookup y.1 = some .local
  look : ∀ x c, cl.lookup x = some c → C.env.cells.lookup x = some c
  clm : ∀ x ∈ cl, x ∈ C.env.cells
  pw : cl.Pairwise fun x y => x.2 ≠ y.2
  own : ∀ y, scope.names.lookup y = some .free → (y, NameKind.cell) ∉ scope.names

theorem lookup_relabel {env : Env} {y : Str} {k : NameKind} : ∀ {names : List (Str × NameKind)}, names.lookup y = some k →
    (names.map fun (n, k) => if (k == NameKind.free && env.scope.kind == .function && env.kindOf n == some .cell) then (n, NameKind.cell) else (n, k)).lookup y = some (if (k == NameKind.free && env.scope.kind == .function && env.kindOf y == some .cell) then NameKind.cell else k)
  | [], h => by cases h
  | (n, k') :: r, h => by
    rw [List.lookup_cons] at h
    show List.lookup y ((if (k' == NameKind.free && env.scope.kind == .function && env.kindOf n == some .cell) = true then (n, NameKind.cell) else (n, k')) :: _) = _
    cases hb : y == n with
    | true =>
      rw [hb] at h
      have e := beq_iff_eq.mp hb
      subst e
      simp only [Option.some.injEq] at h
      subst h
      split <;> simp [List.lookup_cons]
    | false =>
      rw [hb] at h
      split <;> (rw [List.lookup_cons, hb]; exact lookup_relabel h)

section
variable {C : Cx} {σ : St} {scope : Scope} {cl : List (Str × Addr)}

def compSt (C : Cx) (σ : St) (scope : Scope) (cl : List (Str × Addr)) (x : Str) (mu : Mu) : St := { vars := compVars C.env scope cl x σ.vars, mu := mu }

theorem comp_enter {K F : Fz} {s s1 : Shared} {x : Str} {mu : Mu} {Q : Env → Shared → Prop} {E : Value → Shared → Prop} (X : Mo C K σ F s) (ok : CompOk C scope cl) (A1 : Am C.G (full F s.heap []) mu F s1)
    (h : ∀ L s2, s.heap.get? L = none → Mo (compCx C σ scope cl L) (full F s.heap []) (compSt C σ scope cl x mu) F s2 → Q { (compCx C σ scope cl L).env with scope := scope } s2) :
    wpAny C.G.M C.A (newFunctionEnv scope C.env.globals cl [] C.env.qual none .none (some C.env)) Q E s1 := by
  simp only [newFunctionEnv, Option.isSome_some, if_true]
  refine wpAny_bind (wpAny_alloc ?_)
  refine wpAny_bind (wpAny_layCells _ (fun name kind cells => by cases hkc : kind == NameKind.cell <;> simp) _ _ _ _ ?_)
  rw [show ({ s1 with heap := s1.heap.push { cls := .type "dict", data := .dict #[] } } : Shared).heap.objs.size = s1.heap.objs.size + 1 from Heap.size_push ..]
  refine wpAny_bind ?_
  rw [List.forIn_nil]
  refine wpAny_pure (wpAny_pure ?_)
  refine h s1.heap.objs.size _ ?_ ?_
  · cases e : s.heap.get? s1.heap.objs.size with
    | none => rfl
    | some o =>
      cases f : F s1.heap.objs.size with
      | some o' => exact absurd (Heap.lt_size (A1.frz _ _ f)) (Nat.lt_irrefl _)
      | none => exact absurd (Heap.lt_size (A1.keep _ _ (full_of f (List.not_mem_nil (a := s1.heap.objs.size)) e))) (Nat.lt_irrefl _)
  have ck := cellsFrom_ok scope.names (s1.heap.push { cls := .type "dict", data := .dict #[] }) (s1.heap.objs.size + 1) [] ⟨fun _ _ hm => (nomatch hm), List.Pairwise.nil⟩ (by rw [Heap.size_push]; exact Nat.le_refl _)
  rw [Heap.size_push] at ck
  have keepAll : ∀ a o, s1.heap.get? a = some o → (pushCells (s1.heap.push { cls := .type "dict", data := .dict #[] }) scope.names).get? a = some o := fun a o e => pushCells_keeps _ _ a o (Heap.get?_push_of_some _ e)
  have ns : (pushCells (s1.heap.push { cls := .type "dict", data := .dict #[] }) scope.names).Ns s1.heap.objs.size fun _ => none := (Heap.Ns.new s1.heap (.type "dict")).keeps (pushCells_keeps _ _)
  -- what lies in the old heap is kept
  have old : ∀ a o, F a = none → s.heap.get? a = some o → full F s.heap [] a = some o ∧ s1.heap.get? a = some o := fun a o h1 h2 => by
    have := full_of h1 (List.not_mem_nil (a := a)) h2
    exact ⟨this, A1.keep _ _ this⟩
  have fresh : ∀ a, s1.heap.objs.size ≤ a → F a = none ∧ full F s.heap [] a = none := fun a ha => by
    refine ⟨?_, ?_⟩
    · cases e : F a with
      | none => rfl
      | some o => exact absurd (Heap.lt_size (A1.frz _ _ e)) (Nat.not_lt.mpr ha)
    · cases e : full F s.heap [] a with
      | none => rfl
      | some o => exact absurd (Heap.lt_size (A1.keep _ _ e)) (Nat.not_lt.mpr ha)
  have clK : ∀ x ∈ cl, ∃ v o, s.heap.get? x.2 = some o ∧ o.data = .cell v ∧ F x.2 = none := fun x hx => by
    obtain ⟨⟨v, o, h1, h2⟩, h3⟩ := X.live x (ok.clm x hx)
    refine ⟨v, o, h1, h2, ?_⟩
    rcases h3 with h3 | ⟨o', h3⟩
    · exact (X.priv _ h3).1
    · exact X.am.dis _ _ h3
  have memC : ∀ y ∈ cellsFrom (s1.heap.objs.size + 1) scope.names cl, y ∈ cellsFrom (s1.heap.objs.size + 1) scope.names [] ∨ y ∈ cl := fun y hy => by
    rw [cellsFrom_acc] at hy; exact List.mem_append.mp hy
  have AA := A1.grow (F' := F) (t := s1.toks) (h' := pushCells (s1.heap.push { cls := .type "dict", data := .dict #[] }) scope.names) keepAll (Fle.refl _) (fun a o e => .inl e) (fun a o e => keepAll _ _ (A1.frz _ _ e))
  refine ⟨⟨ok.kind, X.ok.gl, X.ok.bu, X.ok.rm, .head _, ?_, ?_, X.ok.mon⟩, AA, ?_, ?_, ⟨_, ns, ?_⟩, ?_, ?_, X.preFull (by simp)⟩
  · show (cellsFrom (s1.heap.objs.size + 1) scope.names cl).Pairwise _
    rw [cellsFrom_acc, List.pairwise_append]
    refine ⟨ck.apart, ok.pw, fun a ha b hb e => ?_⟩
    obtain ⟨v, o, h1, h2, h3⟩ := clK b hb
    have h4 := Heap.lt_size (old _ _ h3 h1).2
    have h5 := (ck.empty a.1 a.2 ha).2
    exact apA h5 h4 e
  · intro y hy e
    have e' : y.2 = s1.heap.objs.size := e
    rcases memC y hy with hy | hy
    · have h5 := (ck.empty y.1 y.2 hy).2
      exact apB h5 e'
    · obtain ⟨v, o, h1, h2, h3⟩ := clK y hy
      have h4 := Heap.lt_size (old _ _ h3 h1).2
      exact apC h4 e'
  · intro a ha
    rcases List.mem_cons.mp ha with rfl | ha
    · obtain ⟨o, es, ep, e, r⟩ := ns
      exact ⟨(fresh _ (Nat.le_refl _)).1, (fresh _ (Nat.le_refl _)).2, o, e⟩
    · obtain ⟨y, hy, rfl⟩ := List.mem_map.mp ha
      obtain ⟨⟨o, h1, h2⟩, h5⟩ := ck.empty y.1 y.2 hy
      exact ⟨(fresh _ (by omega)).1, (fresh _ (by omega)).2, o, h1⟩
  · intro y hy
    rcases memC y hy with hy | hy
    · exact ⟨⟨none, (ck.empty y.1 y.2 hy).1⟩, .inl (.tail _ (List.mem_map_of_mem hy))⟩
    · obtain ⟨v, o, h1, h2, h3⟩ := clK y hy
      exact ⟨⟨v, o, keepAll _ _ (old _ _ h3 h1).2, h2⟩, .inr ⟨o, (old _ _ h3 h1).1⟩⟩
  · intro y d e
    have e' : (compVars C.env scope cl x σ.vars).lookup y = some d := e
    unfold compVars at e'
    obtain ⟨q, e2⟩ := lookup_filter (fun n => sees C.env scope cl x n) e'
    obtain ⟨m, hn, hm⟩ := X.loc
    obtain ⟨v, hv, hr⟩ := hm y d e2
    refine ⟨v, ?_, hr⟩
    simp only [sees, Bool.and_eq_true, Bool.or_eq_true, beq_iff_eq] at q
    obtain ⟨⟨⟨q1, q2⟩, q3⟩, q4⟩ := q
    obtain ⟨c, hc⟩ := Option.isSome_iff_exists.mp q2
    have hce := ok.look y c hc
    have hcell : s.heap.IsCell c (some v) := by
      unfold VarAt at hv
      rcases q3 with q3 | q3 <;> (rw [q3] at hv; obtain ⟨c', h1, h2⟩ := hv; rw [hce] at h1; cases h1; exact h2)
    have hcell' : (pushCells (s1.heap.push { cls := .type "dict", data := .dict #[] }) scope.names).IsCell c (some v) := by
      obtain ⟨v', o, h1, h2, h3⟩ := clK (y, c) (mem_of_lookup hc)
      exact isCell_keeps hcell fun o e => keepAll _ _ (old _ _ h3 e).2
    have hlook : (cellsFrom (s1.heap.objs.size + 1) scope.names cl).lookup y = some c := by
      rw [cellsFrom_acc, lookup_append_none]
      · exact hc
      · intro z hz e
        rcases cellsFrom_names _ _ _ z hz with h | h
        · cases h
        · exact ok.own y q4 (e ▸ h)
    have hkind : (compCx C σ scope cl s1.heap.objs.size).env.kindOf y = some .cell ∨ (compCx C σ scope cl s1.heap.objs.size).env.kindOf y = some .free := by
      show (relabel scope C.env).names.lookup y = _ ∨ _
      unfold relabel
      dsimp only
      rw [lookup_relabel q4]
      split
      · exact .inl rfl
      · exact .inr (by
          show (relabel scope C.env).names.lookup y = _
          unfold relabel
          dsimp only
          rw [lookup_relabel q4]
          rename_i hh
          rw [if_neg hh])
    unfold VarAt
    rcases hkind with hk | hk <;> (rw [hk]; exact ⟨c, hlook, hcell'⟩)
  · intro p hp ha
    obtain ⟨o, ho⟩ := (A1.mus p hp).1.some
    have h4 := Heap.lt_size ho
    rcases List.mem_cons.mp ha with e | ha
    · exact apC h4 e
    · obtain ⟨y, hy, e⟩ := List.mem_map.mp ha
      have h5 := (ck.empty y.1 y.2 hy).2
      exact apA h5 h4 e
  · intro p hp
    rcases List.mem_append.mp hp with hp | hp
    · obtain ⟨h1, h2, h3⟩ := X.am.mus p hp
      obtain ⟨o, ho⟩ := h1.some
      obtain ⟨h4, h5⟩ := old _ _ h2 ho
      exact ⟨h1.mono (Fle.refl _) fun o e => keepAll _ _ (old _ _ h2 e).2, o, h4⟩
    · obtain ⟨h1, o, h3⟩ := X.ro p hp
      have h2 := X.am.dis _ _ h3
      exact ⟨h1.mono (Fle.refl _) fun o e => keepAll _ _ (old _ _ h2 e).2, o, (old _ _ h2 (X.am.keep _ _ h3)).1⟩

def Tests (C : Cx) (σ : St) : List Expr → Bool → Prop
  | [], b => b = true
  | [c], b => EvT C σ c b
  | _, _ => False
theorem wpAny_tests {K F : Fz} {s : Shared} {ifs : List Expr} {b : Bool} {Q : Bool → Shared → Prop} {E : Value → Shared → Prop} (X : Mo C K σ F s) (h : Tests C σ ifs b) (hQ : ∀ F' s', Mo C K σ F' s' → Fle F F' → Q b s') :
    wpAny C.G.M C.A (forIn ifs true fun c r => if r = true then do let ok ← isTrue c C.env (eval c C.env); pure (ForInStep.yield ok) else pure (ForInStep.yield r)) Q E s := by
  match ifs, h with
  | [], h =>
    have h' : b = true := h
    subst h'
    exact wpAny_tests_nil (hQ F s X (Fle.refl _))
  | [c], h => exact wpAny_tests_one (h K F s Q E X hQ)

theorem Mo.other {K F : Fz} {s : Shared} {h' : Heap} {a : Addr} {t : Nat} (X : Mo C K σ F s) (hs : Heap.SameBut a s.heap h') (hF : F a = none) (hK : K a = none) (hm : ∀ p ∈ σ.mu, p.1 ≠ a) (hp : a ∉ C.priv) : Mo C K σ F { s with heap := h', toks := t } :=
  X.with (X.am.other hs hF hK hm) (fun b hb => ⟨(X.priv b hb).1, hs.2 b fun e => hp (e ▸ hb)⟩) (Fle.refl _) X.pmu

theorem comp_loop {K0 F0 : Fz} {elt iter target : Expr} {ifs : List Expr} {pos : Pos} {it acc : Addr} {ds : List D} {P : Nat → Obj → Prop} {R : Result → Shared → Prop} {vs0 : List (Str × D)}
    (St' : Nat → List D → Mu → Prop) (I : IterOk C.G C.A K0 F0 it ds P) (hlen : ds.length ≤ 100000) (tv : D → List (Str × D) → List (Str × D)) (tv0 : D → List (Str × D))
    (hasg : ∀ d mu vs, Asg C { vars := vs, mu := mu } target d { vars := tv d vs, mu := mu })
    (htv : ∀ d vs, (∀ y e, vs0.lookup y = some e → vs.lookup y = some e) → ∀ y e, (tv0 d).lookup y = some e → (tv d vs).lookup y = some e)
    (htv0 : ∀ d y e, vs0.lookup y = some e → (tv0 d).lookup y = some e)
    (hout : ∀ k out nm, St' k out nm → out.length ≤ k)
    (step : ∀ k d out nm, ds[k]? = some d → St' k out nm → ∃ b, Tests C { vars := tv0 d, mu := nm } ifs b ∧
      (b = true → EvX C { vars := tv0 d, mu := nm } elt (fun e nm' => St' (k + 1) (out ++ [e]) nm')) ∧ (b = false → St' (k + 1) out nm))
    (hR : ∀ F' s' out nm vs, St' ds.length out nm → Mo C K0 { vars := vs, mu := (acc, .list out) :: nm } F' s' → Fle F0 F' → R (.ok .next) s')
    {s : Shared} {nm0 : Mu} (h0 : St' 0 [] nm0) (X : Mo C K0 { vars := vs0, mu := (it, .obj (P 0)) :: (acc, .list []) :: nm0 } F0 s)
    (ht : ∀ v, letOwnedTupleGo target (.ref it) v = pure () := by intro _; rfl) :
    codeAny C.G.M C.A (.compLoop (.ListComp elt [⟨target, iter, ifs, 0⟩] scope pos) 0 (.ref it) (.ref acc) C.env) R s := by
  refine codeAny_compLoop_tests (prog := C.G.prog) (w := C.G.w) (fun n s => ∃ k out nm vs F, n + k = ds.length ∧ St' k out nm ∧ Fle F0 F ∧ (∀ y e, vs0.lookup y = some e → vs.lookup y = some e) ∧
    Mo C K0 { vars := vs, mu := (it, .obj (P k)) :: (acc, .list out) :: nm } F s) ?_ ds.length ⟨0, [], nm0, vs0, F0, by simp, h0, Fle.refl _, fun _ _ e => e, X⟩ ht
  rintro n s ⟨k, out, nm, vs, F, hn, hSt, hF, hvs, X⟩
  have hit : ∃ o, s.heap.get? it = some o ∧ P k o := (X.am.mus (it, .obj (P k)) (.head _)).1
  cases n with
  | zero =>
    have hk : k = ds.length := by omega
    subst hk
    refine I.stop F s _ _ hF X.am.frz X.am.keep hit fun h' t hs => ?_
    have X' := X.dropExt (t := t) rfl hs
    exact hR F _ out nm vs hSt X' hF
  | succ n =>
    have hk : k < ds.length := by omega
    refine I.item k ds[k] F s _ _ hF X.am.frz X.am.keep (List.getElem?_eq_getElem hk) hit fun h' v t hs hit' hr => ?_
    have X1 := X.turn (pre := []) (mo' := .obj (P (k + 1))) (t := t) rfl hs hit'
    refine hasg ds[k] _ vs K0 F _ v _ _ X1 hr fun s2 X2 => ?_
    replace X2 := X2.weak (σ' := { vars := tv0 ds[k], mu := (it, .obj (P (k + 1))) :: (acc, .list out) :: nm }) (htv _ _ hvs) rfl
    -- hide the iterator and the list
    obtain ⟨a1, a2⟩ := X2.apartMu (p := (it, .obj (P (k + 1)))) (.head _)
    obtain ⟨oi, hoi, ⟨oi', hoi', hPi⟩, hKi, X3⟩ := X2.hide (a := it) (mo := .obj (P (k + 1))) (mu := (acc, .list out) :: nm) rfl
    rw [hoi] at hoi'; cases hoi'
    obtain ⟨b1, b2⟩ := X3.apartMu (p := (acc, .list out)) (.head _)
    obtain ⟨oa, hoa, ⟨oa', vsa, hoa', hla, hra⟩, hKa, X4⟩ := X3.hide (a := acc) (mo := .list out) (mu := nm) rfl
    rw [hoa] at hoa'; cases hoa'
    obtain ⟨b, hb, ht, hf⟩ := step k ds[k] out nm (List.getElem?_eq_getElem hk) hSt
    refine wpAny_tests X4 hb fun F5 s5 X5 g5 => ?_
    cases b with
    | false =>
      simp only [Bool.false_eq_true, if_false]
      have ha5 : s5.heap.get? acc = some oa := X5.am.keep _ _ (Fz.put_self _ _ _)
      have X6 := X5.show hKa (mo := .list out) ⟨oa, vsa, ha5, hla, hra.mono g5⟩ b1 b2 (X.ok.mon _ _ _ _ X3.pre (Fle.refl _) g5)
      have hi5 : s5.heap.get? it = some oi := X6.am.keep _ _ (Fz.put_self _ _ _)
      have X7 := X6.show hKi (mo := .obj (P (k + 1))) ⟨oi, hi5, hPi⟩ a1 a2 (X.ok.mon _ _ _ _ X2.pre (Fle.refl _) g5)
      exact ⟨n, Nat.lt_succ_self n, k + 1, out, nm, _, F5, by omega, hf rfl, hF.trans g5, htv0 _, X7⟩
    | true =>
      simp only [if_true]
      refine ht rfl _ F5 s5 _ _ X5 fun F6 v6 s6 e nm' hSt' X6 g6 r6 => ?_
      have ha6 : s6.heap.get? acc = some oa := X6.am.keep _ _ (Fz.put_self _ _ _)
      have X7 := X6.show hKa (mo := .list out) ⟨oa, vsa, ha6, hla, hra.mono (g5.trans g6)⟩ b1 b2 (X.ok.mon _ _ _ _ X3.pre (Fle.refl _) (g5.trans g6))
      obtain ⟨hl100, na, rfl⟩ := hla
      have hlo : vsa.length = out.length := hra.length
      have hok := hout k out nm hSt
      refine wpAny_list_append_plain ⟨na, ha6⟩ (fun h7 hp7 hs7 => ?_) (by rw [List.size_toArray]; exact fitsSz (by omega))
      obtain ⟨n7, hp7⟩ := hp7
      have X8 := X7.turn (pre := []) (mo' := .list (out ++ [e])) (t := s6.toks) rfl hs7 ⟨_, vsa ++ [v6], hp7, ⟨by rw [List.length_append]; simp; omega, n7, by simp⟩, (hra.mono (g5.trans g6)).append (.cons r6 .nil)⟩
      have hi8 : h7.get? it = some oi := X8.am.keep _ _ (Fz.put_self _ _ _)
      have X9 := X8.show hKi (mo := .obj (P (k + 1))) ⟨oi, hi8, hPi⟩ a1 a2 (X.ok.mon _ _ _ _ X2.pre (Fle.refl _) (g5.trans g6))
      exact ⟨n, Nat.lt_succ_self n, k + 1, out ++ [e], nm', _, F6, by omega, hSt', hF.trans (g5.trans g6), htv0 _, X9⟩

def ItD (C : Cx) (σ : St) (d : D) (ds : List D) : Prop := Items C σ d ds ∨ ∃ lo hi, d = .rng lo hi ∧ ds = rints lo hi ∧ (-1000000 ≤ lo ∧ lo ≤ 1000000 ∧ -1000000 ≤ hi ∧ hi ≤ 1000000)
theorem ItD.list {ds : List D} : ItD C σ (.list ds) ds := .inl .list
theorem ItD.rng {lo hi : Int} (h : -1000000 ≤ lo ∧ lo ≤ 1000000 ∧ -1000000 ≤ hi ∧ hi ≤ 1000000) : ItD C σ (.rng lo hi) (rints lo hi) := .inr ⟨lo, hi, rfl, rfl, h⟩
theorem ItD.src {K F : Fz} {s : Shared} {v : Value} {d : D} {ds : List D} (X : Mo C K σ F s) (h : ItD C σ d ds) (r : Rep F v d) : Src (full F s.heap []) F v ds := by
  have key : ∀ a ds', F a = none → (MO.list ds').At F s.heap a → Src (full F s.heap []) F (.ref a) ds' := by
    rintro a ds' h1 ⟨o, vs, h2, h3, h4⟩
    exact .list (.inr (full_of h1 List.not_mem_nil h2)) h3 h4
  rcases h with (rfl | ⟨a, rfl, h | h⟩) | ⟨lo, hi, rfl, rfl, hb⟩
  · obtain ⟨a, o, vs, rfl, h1, h2, h3⟩ := r.list_inv
    exact .list (.inl h1) h2 h3
  · cases r.ref_inv
    obtain ⟨h1, h2, h3⟩ := X.am.mus _ h
    exact key a ds h2 h1
  · cases r.ref_inv
    obtain ⟨h1, o, h3⟩ := X.ro _ h
    exact key a ds (X.am.dis _ _ h3) h1
  · obtain ⟨a, o, rfl, h1, h2⟩ := r.rng_inv
    exact .rng h1 h2 hb

theorem cellsFrom_has : ∀ (names : List (Str × NameKind)) (n : Nat) (acc : List (Str × Addr)) (x : Str), (x, NameKind.cell) ∈ names → ∃ c, (cellsFrom n names acc).lookup x = some c ∧ c ∈ (cellsFrom n names []).map (·.2)
  | (name, kind) :: r, n, acc, x, h => by
    unfold cellsFrom
    by_cases hr : (x, NameKind.cell) ∈ r
    · split
      · obtain ⟨c, h1, h2⟩ := cellsFrom_has r (n + 1) ((name, n) :: acc) x hr
        refine ⟨c, h1, ?_⟩
        rw [cellsFrom_acc, List.map_append]
        exact List.mem_append_left _ h2
      · exact cellsFrom_has r n acc x hr
    · rcases List.mem_cons.mp h with e | h
      · cases e
        simp only [beq_self_eq_true, if_true]
        refine ⟨n, ?_, ?_⟩
        · rw [cellsFrom_acc, lookup_append_none]
          · simp [List.lookup_cons]
          · intro y hy e
            rcases cellsFrom_names _ _ _ y hy with h | h
            · cases h
            · exact hr (e ▸ h)
        · rw [cellsFrom_acc, List.map_append]
          exact List.mem_append_right _ (.head _)
      · exact absurd h hr

theorem compAsg {x : Str} {px : Pos} {d : D} {L : Addr} {τ : St} (hx : scope.names.lookup x = some .local ∨ scope.names.lookup x = some .cell) : Asg (compCx C σ scope cl L) τ (.Name x px) d (τ.set x d) := by
  rcases hx with hx | hx
  · exact Asg.local (lookup_relabel_local hx)
  · obtain ⟨c, h1, h2⟩ := cellsFrom_has scope.names (L + 1) cl x (mem_of_lookup hx)
    refine Asg.cell ?_ h1 (.tail _ h2)
    show (relabel scope C.env).names.lookup x = _
    unfold relabel
    dsimp only
    rw [lookup_relabel hx]
    split <;> rfl

theorem comp_run {elt iter : Expr} {x : Str} {px : Pos} {ifs : List Expr} {pos pos' : Pos} {use : Option (Value → Sem Unit)} {d : D} {ds : List D} (ok : CompOk C scope cl) (hx : scope.names.lookup x = some .local ∨ scope.names.lookup x = some .cell)
    (hv : Ev C σ iter d) (hi : ItD C σ d ds) (hlen : ds.length ≤ 100000) (St' : Nat → List D → Mu → Prop) (h0 : St' 0 [] []) (hout : ∀ k out nm, St' k out nm → out.length ≤ k)
    (step : ∀ L k d out nm, ds[k]? = some d → St' k out nm → ∃ b, Tests (compCx C σ scope cl L) ((compSt C σ scope cl x nm).set x d) ifs b ∧
      (b = true → EvX (compCx C σ scope cl L) ((compSt C σ scope cl x nm).set x d) elt (fun e nm' => St' (k + 1) (out ++ [e]) nm')) ∧ (b = false → St' (k + 1) out nm))
    {K F : Fz} {s : Shared} {Q : Value → Shared → Prop} {E : Value → Shared → Prop} (X : Mo C K σ F s)
    (hQ : ∀ F' a s' out nm L, St' ds.length out nm → Mo C K (σ.setMu ((a, .list out) :: (nm ++ σ.mu))) F' s' → Fle F F' → F' L = none → K L = none → (∀ p ∈ (a, MO.list out) :: (nm ++ σ.mu), p.1 ≠ L) → L ∉ C.priv →
      (∃ m, s'.heap.Ns L m) → compPost C.G.M C.A E use Q (.ref a) L (.ok .next) s')
    (hs : ∀ x, foldedSetIterable iter C.env x = pure x := by intro _; rfl) :
    wpAny C.G.M C.A (comprehension (.ListComp elt [⟨.Name x px, iter, ifs, 0⟩] scope pos) scope C.env pos' (newList []) false (eval iter C.env) use) Q E s := by
  refine wpAny_comprehension_free rfl hs ok.clos ok.kind ok.names (hv K F s _ E X fun F1 v s1 X1 g1 r1 => ?_)
  have S := hi.src X1 r1
  have A0 := X1.am.leave (pas := []) rfl
  refine pyIter_src X.ok.rm.hh S X1.am.frz A0.keep fun o P hf hP IA => ?_
  have I := IA C.A X.ok.rm.hh
  have A1 := A0.allocMu o (.obj (P 0)) s1.toks ⟨o, Heap.get?_push_size _ hf, hP⟩
  refine wpAny_newObj_type ?_
  have A2 := A1.allocMu { cls := .type "list", data := .seq ([] : List Value).toArray } (.list []) s1.toks ⟨_, [], Heap.get?_push_size _ rfl, ⟨by simp, 0, rfl⟩, .nil⟩
  have A3 := A2.perm (mu' := [(s1.heap.objs.size, .obj (P 0)), ((s1.heap.push o).objs.size, .list [])]) (List.Perm.swap ..)
  refine comp_enter (x := x) X1 ok A3 fun L s2 hLn X2 => ?_
  have loop : codeAny C.G.M C.A (.compLoop (.ListComp elt [⟨.Name x px, iter, ifs, 0⟩] scope pos) 0 (.ref s1.heap.objs.size) (.ref (s1.heap.push o).objs.size) (compCx C σ scope cl L).env)
      (compPost C.G.M C.A E use Q (.ref (s1.heap.push o).objs.size) L) s2 := by
    refine comp_loop (C := compCx C σ scope cl L) (K0 := full F1 s1.heap []) (F0 := F1) (vs0 := compVars C.env scope cl x σ.vars) St' I hlen (fun d vs => (x, d) :: vs) (fun d => (x, d) :: compVars C.env scope cl x σ.vars)
      (fun d mu vs => compAsg hx) (fun d vs hvs y e h => ?_) (fun d y e h => ?_) hout (fun k d out nm hk hSt => step L k d out nm hk hSt) (fun F' s' out nm vs hSt X' g' => ?_) h0 X2
    · rw [List.lookup_cons] at h ⊢
      cases hb : y == x with
      | true => rw [hb] at h; exact h
      | false => rw [hb] at h; exact hvs y e h
    · have h' := h
      unfold compVars at h'
      obtain ⟨q, _⟩ := lookup_filter (fun n => sees C.env scope cl x n) h'
      simp only [sees, Bool.and_eq_true] at q
      have hb : (y == x) = false := by simpa using q.1.1.1
      rw [List.lookup_cons, hb]
      exact h
    · have B := X1.back (pas := []) (oth := σ.mu) (mu' := ((s1.heap.push o).objs.size, .list out) :: nm) rfl X'.am g'
      obtain ⟨p1, p2, p3⟩ := X'.priv L (.head _)
      have hs1 : ∀ o', s1.heap.get? L ≠ some o' := fun o' e => by rw [hLn] at e; cases e
      refine hQ F' _ s' out nm L hSt B (g1.trans g') p1 ?_ ?_ ?_ ?_
      · cases e : K L with
        | none => rfl
        | some o' => exact absurd (X1.am.keep _ _ e) (hs1 o')
      · intro p hp e
        rcases List.mem_cons.mp hp with rfl | hp
        · exact X'.pmu _ (.head _) (e ▸ .head _)
        · rcases List.mem_append.mp hp with hp | hp
          · exact X'.pmu p (.tail _ hp) (e ▸ .head _)
          · obtain ⟨o', ho'⟩ := (X1.am.mus p hp).1.some
            exact hs1 o' (e ▸ ho')
      · intro hp
        obtain ⟨o', ho'⟩ := (X1.priv L hp).2.2
        exact hs1 o' ho'
      · obtain ⟨m, hm, _⟩ := X'.loc
        exact ⟨m, hm⟩
  exact codeAny_compStart_list loop (I.self 0 s2 _ _ ((X2.am.mus (s1.heap.objs.size, .obj (P 0)) (.head _)).1) loop)
end
end Mine
end

section
set_option Elab.async false
set_option linter.unusedVariables false
set_option linter.unusedSimpArgs false
namespace Mine
open PySem PySem.W PyProof.Rows PySem.Calls

section
variable {C : Cx} {σ : St} {scope : Scope} {cl : List (Str × Addr)}

def EvC (C : Cx) (σ : St) (elt : Expr) (gens : List Comprehension) (scope : Scope) (pos : Pos) (R : D → Mu → Prop) : Prop :=
  ∀ (use : Option (Value → Sem Unit)) (K F : Fz) (s : Shared) (Q : Value → Shared → Prop) (E : Value → Shared → Prop), Mo C K σ F s →
    (∀ F' a s' mu L, R (.ref a) mu → Mo C K (σ.setMu mu) F' s' → Fle F F' → F' L = none → K L = none → (∀ p ∈ mu, p.1 ≠ L) → L ∉ C.priv → (∃ m, s'.heap.Ns L m) → compPost C.G.M C.A E use Q (.ref a) L (.ok .next) s') →
    wpAny C.G.M C.A (comprehension (.ListComp elt gens scope pos) scope C.env (firstIterPos gens pos) (newList []) (firstAsync gens) (firstIter gens C.env) use) Q E s

theorem EvC.run {elt iter : Expr} {x : Str} {px : Pos} {ifs : List Expr} {pos : Pos} {d : D} {ds : List D} (ok : CompOk C scope cl) (hx : scope.names.lookup x = some .local ∨ scope.names.lookup x = some .cell)
    (hv : Ev C σ iter d) (hi : ItD C σ d ds) (hlen : ds.length ≤ 100000) (St' : Nat → List D → Mu → Prop) (h0 : St' 0 [] []) (hout : ∀ k out nm, St' k out nm → out.length ≤ k)
    (step : ∀ L k d out nm, ds[k]? = some d → St' k out nm → ∃ b, Tests (compCx C σ scope cl L) ((compSt C σ scope cl x nm).set x d) ifs b ∧
      (b = true → EvX (compCx C σ scope cl L) ((compSt C σ scope cl x nm).set x d) elt (fun e nm' => St' (k + 1) (out ++ [e]) nm')) ∧ (b = false → St' (k + 1) out nm))
    (hs : ∀ x, foldedSetIterable iter C.env x = pure x := by intro _; rfl) :
    EvC C σ elt [⟨.Name x px, iter, ifs, 0⟩] scope pos (fun d mu => ∃ a out nm, St' ds.length out nm ∧ d = .ref a ∧ mu = (a, .list out) :: (nm ++ σ.mu)) := fun use K F s Q E X hQ =>
  comp_run ok hx hv hi hlen St' h0 hout step X (fun F' a s' out nm L hSt X' g h1 h2 h3 h4 h5 => hQ F' a s' _ L ⟨a, out, nm, hSt, rfl, rfl⟩ X' g h1 h2 h3 h4 h5) hs
theorem EvC.mono {elt : Expr} {gens : List Comprehension} {pos : Pos} {R R' : D → Mu → Prop} (h : EvC C σ elt gens scope pos R) (hR : ∀ d mu, R d mu → R' d mu) : EvC C σ elt gens scope pos R' := fun use K F s Q E X hQ =>
  h use K F s Q E X fun F' a s' mu L r => hQ F' a s' mu L (hR _ _ r)

theorem EvC.ev {elt : Expr} {gens : List Comprehension} {pos : Pos} {R : D → Mu → Prop} (h : EvC C σ elt gens scope pos R) : EvX C σ (.ListComp elt gens scope pos) R := fun K F s Q E X hQ => by
  rw [eval_ListComp]
  refine h none K F s Q E X fun F' a s' mu L hR X' g h1 h2 h3 h4 h5 => ?_
  obtain ⟨m, hm⟩ := h5
  exact ⟨m, hm, fun h' hs' => hQ F' _ _ _ mu hR (X'.other (t := s'.toks) hs' h1 h2 h3 h4) g (.ref a)⟩

theorem EvC.plain {α : Type} {elt iter : Expr} {x : Str} {px : Pos} {ifs : List Expr} {pos : Pos} {d : D} (xs : List α) (enc : α → D) (p : α → Bool) (g : α → D) (ok : CompOk C scope cl) (hx : scope.names.lookup x = some .local ∨ scope.names.lookup x = some .cell)
    (hv : Ev C σ iter d) (hi : ItD C σ d (xs.map enc)) (hlen : xs.length ≤ 100000)
    (step : ∀ L a, a ∈ xs → Tests (compCx C σ scope cl L) ((compSt C σ scope cl x []).set x (enc a)) ifs (p a) ∧ (p a = true → Ev (compCx C σ scope cl L) ((compSt C σ scope cl x []).set x (enc a)) elt (g a)))
    (hs : ∀ x, foldedSetIterable iter C.env x = pure x := by intro _; rfl) :
    EvC C σ elt [⟨.Name x px, iter, ifs, 0⟩] scope pos (NewL σ ((xs.filter p).map g)) := by
  refine EvC.mono (EvC.run ok hx hv hi (by simpa using hlen) (fun k out nm => nm = [] ∧ out = ((xs.take k).filter p).map g) (by simp) ?_ ?_ hs) ?_
  · rintro k out nm ⟨rfl, rfl⟩
    rw [List.length_map]
    exact Nat.le_trans (List.length_filter_le _ _) (by rw [List.length_take]; omega)
  · rintro L k d out nm hd ⟨rfl, rfl⟩
    rw [List.getElem?_map] at hd
    obtain ⟨a, ha, rfl⟩ := Option.map_eq_some_iff.mp hd
    have hk := (List.getElem?_eq_some_iff.mp ha)
    obtain ⟨hk1, hk2⟩ := hk
    obtain ⟨h1, h2⟩ := step L a (hk2 ▸ List.getElem_mem hk1)
    have ht : xs.take (k + 1) = xs.take k ++ [a] := by rw [List.take_add_one, ha]; rfl
    refine ⟨p a, h1, fun hp => ?_, fun hp => ?_⟩
    · refine EvX.mono (EvX.of (h2 hp)) ?_
      rintro d mu ⟨rfl, rfl⟩
      refine ⟨rfl, ?_⟩
      rw [ht, List.filter_append, List.map_append]
      simp [hp]
    · refine ⟨rfl, ?_⟩
      rw [ht, List.filter_append, List.map_append]
      simp [hp]
  · rintro d mu ⟨a, out, nm, ⟨rfl, rfl⟩, rfl, rfl⟩
    refine ⟨a, rfl, ?_⟩
    simp

def zipMu (as : List Addr) (gs : List (List D)) : Mu := List.zipWith (fun a g => (a, MO.list g)) as gs
def FreshL (σ : St) (gs : List (List D)) (d : D) (mu : Mu) : Prop := ∃ a as, as.length = gs.length ∧ d = .ref a ∧ mu = (a, .list (as.map .ref)) :: (zipMu as gs ++ σ.mu)
theorem EvC.perm {elt : Expr} {gens : List Comprehension} {pos : Pos} {R R' : D → Mu → Prop} (h : EvC C σ elt gens scope pos R) (hR : ∀ d mu, R d mu → ∃ mu', mu'.Perm mu ∧ R' d mu') : EvC C σ elt gens scope pos R' := fun use K F s Q E X hQ =>
  h use K F s Q E X fun F' a s' mu L r X' g h1 h2 h3 h4 h5 => by
    obtain ⟨mu', hp, hr⟩ := hR _ mu r
    exact hQ F' a s' mu' L hr (X'.perm hp) g h1 h2 (fun p hp' => h3 p (hp.mem_iff.mp hp')) h4 h5

theorem zipMu_append {as bs : List Addr} {gs hs : List (List D)} (h : as.length = gs.length) : zipMu (as ++ bs) (gs ++ hs) = zipMu as gs ++ zipMu bs hs := by
  unfold zipMu; rw [List.zipWith_append h]

theorem EvC.fresh {α : Type} {elt iter : Expr} {x : Str} {px : Pos} {ifs : List Expr} {pos : Pos} {d : D} (xs : List α) (enc : α → D) (p : α → Bool) (g : α → List D) (ok : CompOk C scope cl) (hx : scope.names.lookup x = some .local ∨ scope.names.lookup x = some .cell)
    (hv : Ev C σ iter d) (hi : ItD C σ d (xs.map enc)) (hlen : xs.length ≤ 100000)
    (step : ∀ L nm a, a ∈ xs → Tests (compCx C σ scope cl L) ((compSt C σ scope cl x nm).set x (enc a)) ifs (p a) ∧ (p a = true → EvN (compCx C σ scope cl L) ((compSt C σ scope cl x nm).set x (enc a)) elt (g a)))
    (hs : ∀ x, foldedSetIterable iter C.env x = pure x := by intro _; rfl) :
    EvC C σ elt [⟨.Name x px, iter, ifs, 0⟩] scope pos (FreshL σ ((xs.filter p).map g)) := by
  refine EvC.perm (EvC.run ok hx hv hi (by simpa using hlen) (fun k out nm => ∃ as : List Addr, as.length = ((xs.take k).filter p).length ∧ out = as.map .ref ∧ nm = (zipMu as (((xs.take k).filter p).map g)).reverse) ⟨[], by simp [zipMu]⟩ ?_ ?_ hs) ?_
  · rintro k out nm ⟨as, h1, rfl, rfl⟩
    rw [List.length_map, h1]
    exact Nat.le_trans (List.length_filter_le _ _) (by rw [List.length_take]; omega)
  · rintro L k d out nm hd ⟨as, hl, rfl, rfl⟩
    rw [List.getElem?_map] at hd
    obtain ⟨a, ha, rfl⟩ := Option.map_eq_some_iff.mp hd
    obtain ⟨hk1, hk2⟩ := (List.getElem?_eq_some_iff.mp ha)
    obtain ⟨h1, h2⟩ := step L (zipMu as (((xs.take k).filter p).map g)).reverse a (hk2 ▸ List.getElem_mem hk1)
    have ht : xs.take (k + 1) = xs.take k ++ [a] := by rw [List.take_add_one, ha]; rfl
    refine ⟨p a, h1, fun hp => ?_, fun hp => ?_⟩
    · refine EvX.mono (h2 hp) ?_
      rintro d mu ⟨b, rfl, rfl⟩
      refine ⟨as ++ [b], ?_, by simp, ?_⟩
      · rw [ht, List.filter_append]; simp [hp, hl]
      · rw [ht, List.filter_append, List.map_append, zipMu_append (by rw [List.length_map]; exact hl), List.reverse_append]
        simp [hp, zipMu]
        rfl
    · refine ⟨as, ?_, rfl, ?_⟩
      · rw [ht, List.filter_append]; simp [hp, hl]
      · rw [ht, List.filter_append]; simp [hp]
  · rintro d mu ⟨a, out, nm, ⟨as, hl, rfl, rfl⟩, rfl, rfl⟩
    refine ⟨(a, .list (as.map .ref)) :: (zipMu as ((xs.filter p).map g) ++ σ.mu), ?_, a, as, ?_, rfl, rfl⟩
    · refine List.Perm.cons _ (List.Perm.append_right _ ?_)
      rw [show xs.take (xs.map enc).length = xs by simp]
      exact (List.reverse_perm _).symm
    · rw [hl]; simp
end

/-! statements -/
inductive Out where
  | next
  | brk
  | cont
  | ret (d : D)
def OutIs (F : Fz) : Flow → Out → Prop
  | .next, .next => True
  | .brk, .brk => True
  | .cont, .cont => True
  | .ret v, .ret d => Rep F v d
  | _, _ => False

def WP (C : Cx) (σ : St) (ss : List Stmt) (Φ : Out → St → Prop) : Prop :=
  ∀ (K F : Fz) (s : Shared) (Q : Flow → Shared → Prop) (E : Value → Shared → Prop), Mo C K σ F s →
    (∀ f o F' s' σ', OutIs F' f o → Mo C K σ' F' s' → Fle F F' → Φ o σ' → Q f s') → wpAny C.G.M C.A (execs ss C.env) Q E s
def WP1 (C : Cx) (σ : St) (st : Stmt) (Φ : Out → St → Prop) : Prop :=
  ∀ (K F : Fz) (s : Shared) (Q : Flow → Shared → Prop) (E : Value → Shared → Prop), Mo C K σ F s →
    (∀ f o F' s' σ', OutIs F' f o → Mo C K σ' F' s' → Fle F F' → Φ o σ' → Q f s') → wpAny C.G.M C.A (exec st C.env) Q E s

section
variable {C : Cx} {σ : St} {Φ : Out → St → Prop}
theorem WP.nil (h : Φ .next σ) : WP C σ [] Φ := fun K F s Q E X hQ => wpAny_execs_nil (hQ .next .next F s σ trivial X (Fle.refl _) h)
theorem WP.cons {st : Stmt} {ss : List Stmt} (h : WP1 C σ st fun o σ' => match o with | .next => WP C σ' ss Φ | o => Φ o σ') : WP C σ (st :: ss) Φ := fun K F s Q E X hQ => by
  refine wpAny_execs_cons (h K F s _ E X fun f o F' s' σ' ho X' g hΦ => ?_)
  cases o with
  | next =>
    cases f <;> try exact ho.elim
    exact hΦ K F' s' Q E X' fun f o F2 s2 σ2 ho2 X2 g2 h2 => hQ f o F2 s2 σ2 ho2 X2 (g.trans g2) h2
  | brk => cases f <;> first | exact ho.elim | exact hQ _ .brk F' s' σ' ho X' g hΦ
  | cont => cases f <;> first | exact ho.elim | exact hQ _ .cont F' s' σ' ho X' g hΦ
  | ret d => cases f <;> first | exact ho.elim | exact hQ _ (.ret d) F' s' σ' ho X' g hΦ
theorem WP.weak {ss : List Stmt} {σ' : St} (h : WP C σ' ss Φ) (hv : ∀ y d, σ'.vars.lookup y = some d → σ.vars.lookup y = some d) (hm : σ'.mu = σ.mu) : WP C σ ss Φ := fun K F s Q E X hQ =>
  h K F s Q E (X.weak hv hm) hQ
theorem WP.drop {ss : List Stmt} {mu' : Mu} (hs : mu'.Sublist σ.mu) (h : WP C (σ.setMu mu') ss Φ) : WP C σ ss Φ := fun K F s Q E X hQ =>
  h K F s Q E (X.sub (fun p hp => hs.subset hp) (X.am.nd.sublist (hs.map _))) hQ
def Stores (C : Cx) (x : Str) : Prop := C.env.kindOf x = some .local ∨ (C.env.kindOf x = some .cell ∧ ∃ c, C.env.cells.lookup x = some c ∧ c ∈ C.priv)
theorem sto {K F : Fz} {s : Shared} {x : Str} {v : Value} {d : D} {Q : Unit → Shared → Prop} {E : Value → Shared → Prop} (hx : Stores C x) (X : Mo C K σ F s) (r : Rep F v d) (hQ : ∀ s', Mo C K (σ.set x d) F s' → Q () s') : wpAny C.G.M C.A (storeName C.env x v) Q E s := by
  rcases hx with hx | ⟨hx, c, hc, hp⟩
  · obtain ⟨m, hn, hm⟩ := X.loc
    exact wpAny_storeName_local hx hn (fun h' hn' hs => hQ _ (X.storeL hm hx hs hn' r)) (by rw [X.ok.fn]; rfl)
  · obtain ⟨⟨v0, hv0⟩, _⟩ := X.live (x, c) (mem_of_lookup hc)
    exact wpAny_storeName_cell X.ok.fn hx hc hv0 fun h' hn hs => hQ _ (X.storeC (t := s.toks) hx hc hp hs hn r)

theorem WP.setX {x : Str} {p : Pos} {e : Expr} {R : D → Mu → Prop} {pos : Pos} {ss : List Stmt} (hx : Stores C x) (he : EvX C σ e R) (h : ∀ d mu, R d mu → WP C ((σ.setMu mu).set x d) ss Φ)
    (hs : swapsWith e (some (.Name x p)) pos.line C.env = pure false := by rfl) : WP C σ (.Assign [.Name x p] e pos :: ss) Φ :=
  WP.cons fun K F s Q E X hQ => wpAny_Assign_Name (he K F s _ E X fun F' v s' d mu r X' g r' => sto hx X' r' fun s2 X2 => hQ .next .next F' s2 _ trivial X2 g (h d mu r)) hs
theorem WP.set {x : Str} {p : Pos} {e : Expr} {d : D} {pos : Pos} {ss : List Stmt} (hx : Stores C x) (he : Ev C σ e d) (h : WP C (σ.set x d) ss Φ)
    (hs : swapsWith e (some (.Name x p)) pos.line C.env = pure false := by rfl) : WP C σ (.Assign [.Name x p] e pos :: ss) Φ :=
  WP.cons fun K F s Q E X hQ => wpAny_Assign_Name (he K F s _ E X fun F' v s' X' g r' => sto hx X' r' fun s2 X2 => hQ .next .next F' s2 _ trivial X2 g h) hs
theorem WP.setC {x : Str} {p : Pos} {elt : Expr} {gens : List Comprehension} {scope : Scope} {cpos : Pos} {R : D → Mu → Prop} {pos : Pos} {ss : List Stmt} (hx : C.env.kindOf x = some .local) (he : EvC C σ elt gens scope cpos R)
    (h : ∀ d mu, R d mu → WP C ((σ.setMu mu).set x d) ss Φ)
    (hs : swapsWith (.ListComp elt gens scope cpos) (some (.Name x p)) pos.line C.env = pure true := by rfl) : WP C σ (.Assign [.Name x p] (.ListComp elt gens scope cpos) pos :: ss) Φ :=
  WP.cons fun K F s Q E X hQ => by
    rw [exec_Assign_Name_used _ _ _ _ hs]
    refine wpAny_bind (wpAny_standAt (wpAny_bind ?_))
    show wpAny _ _ (do let _ ← comprehension (.ListComp elt gens scope cpos) scope C.env (firstIterPos gens cpos) (newList []) (firstAsync gens) (firstIter gens C.env) (some (assign (.Name x p) C.env))) _ _ s
    refine wpAny_bind (wpAny_mono (he (some (assign (.Name x p) C.env)) K F s (fun _ s' => Q .next s') E X fun F' a s' mu L hR X' g h1 h2 h3 h4 h5 => ?_) (fun _ s' hq => wpAny_pure (wpAny_pure hq)) fun _ _ e => e)
    obtain ⟨m, hm⟩ := h5
    show wpAny _ _ (assign (.Name x p) C.env (.ref a)) _ _ _
    obtain ⟨m0, hn0, hm0⟩ := X'.loc
    have hL : C.env.locals ≠ L := fun e => h4 (e ▸ X'.ok.loc)
    refine wpAny_assign_Name (wpAny_storeName_local hx hn0 (fun h2' hn2 hs2 => ?_) (by rw [X'.ok.fn]; rfl))
    have X2 := X'.storeL (t := s'.toks + 1) hm0 hx hs2 hn2 (Rep.ref a)
    refine ⟨m, hm.sameBut hs2 (Ne.symm hL), fun h3' hs3 => ?_⟩
    exact hQ .next .next F' _ _ trivial (X2.other (t := s'.toks + 1) hs3 h1 h2 h3 h4) g (h _ mu hR)

theorem WP.ifs {test : Expr} {b : Bool} {body orelse ss : List Stmt} {pos : Pos} (ht : EvT C σ test b)
    (h1 : b = true → WP C σ body fun o σ' => match o with | .next => WP C σ' ss Φ | o => Φ o σ') (h2 : b = false → WP C σ orelse fun o σ' => match o with | .next => WP C σ' ss Φ | o => Φ o σ') : WP C σ (.If test body orelse pos :: ss) Φ :=
  WP.cons fun K F s Q E X hQ => wpAny_If (ht K F s _ E X fun F' s' X' g => by
    have fin : ∀ f o F2 s2 σ2, OutIs F2 f o → Mo C K σ2 F2 s2 → Fle F' F2 → (match o with | .next => WP C σ2 ss Φ | o => Φ o σ2) → Q f s2 := fun f o F2 s2 σ2 ho X2 g2 r => hQ f o F2 s2 σ2 ho X2 (g.trans g2) r
    cases b with
    | true => exact h1 rfl K F' s' Q E X' fin
    | false => exact h2 rfl K F' s' Q E X' fin)

theorem WP.retX {e : Expr} {R : D → Mu → Prop} {pos : Pos} {ss : List Stmt} (he : EvX C σ e R) (h : ∀ d mu, R d mu → Φ (.ret d) (σ.setMu mu)) : WP C σ (.Return (some e) pos :: ss) Φ :=
  WP.cons fun K F s Q E X hQ => wpAny_Return_some (he K F s _ E X fun F' v s' d mu r X' g r' => hQ (.ret v) (.ret d) F' s' _ r' X' g (h d mu r))
theorem WP.ret {e : Expr} {d : D} {pos : Pos} {ss : List Stmt} (he : Ev C σ e d) (h : Φ (.ret d) σ) : WP C σ (.Return (some e) pos :: ss) Φ :=
  WP.cons fun K F s Q E X hQ => wpAny_Return_some (he K F s _ E X fun F' v s' X' g r' => hQ (.ret v) (.ret d) F' s' _ r' X' g h)
theorem WP.brk {pos : Pos} {ss : List Stmt} (h : Φ .brk σ) : WP C σ (.Break pos :: ss) Φ := WP.cons fun K F s Q E X hQ => wpAny_Break (hQ .brk .brk F s σ trivial X (Fle.refl _) h)
theorem WP.exprX {e : Expr} {R : D → Mu → Prop} {pos : Pos} {ss : List Stmt} (he : EvX C σ e R) (h : ∀ d mu, R d mu → WP C (σ.setMu mu) ss Φ)
    (hi : interactive C.env = false := by rfl) (hs : swapsWith e none pos.line C.env = pure false := by rfl) : WP C σ (.Expr e pos :: ss) Φ :=
  WP.cons fun K F s Q E X hQ => wpAny_Expr_any (he K F s _ E X fun F' v s' d mu r X' g r' => hQ .next .next F' s' _ trivial X' g (h d mu r)) hi hs

theorem WP.while {test : Expr} {body ss : List Stmt} {pos : Pos} (I : Nat → St → Prop) (n : Nat) (h0 : I n σ)
    (turn : ∀ n σ, I n σ → ∃ b, EvT C σ test b ∧ (b = true → WP C σ body fun o σ' => match o with | .next => ∃ m, m < n ∧ I m σ' | .cont => ∃ m, m < n ∧ I m σ' | .brk => WP C σ' ss Φ | .ret d => Φ (.ret d) σ') ∧ (b = false → WP C σ ss Φ)) :
    WP C σ (.While test body [] pos :: ss) Φ := WP.cons fun K F s Q E X hQ => by
  refine wpAny_While (codeAny_whileLoop (prog := C.G.prog) (w := C.G.w) (fun n s' => ∃ σ' F', I n σ' ∧ Mo C K σ' F' s' ∧ Fle F F') ?_ n ⟨σ, F, h0, X, Fle.refl _⟩)
  rintro n s1 ⟨σ1, F1, hI, X1, g1⟩
  obtain ⟨b, ht, hb, he⟩ := turn n σ1 hI
  refine ht K F1 s1 _ _ X1 fun F2 s2 X2 g2 => ?_
  cases b with
  | false =>
    simp only [Bool.false_eq_true, if_false]
    exact wpAny_execs_nil (hQ .next .next F2 s2 σ1 trivial X2 (g1.trans g2) (he rfl))
  | true =>
    simp only [if_true]
    refine hb rfl K F2 s2 _ _ X2 fun f o F3 s3 σ3 ho X3 g3 hΦ => ?_
    have g := (g1.trans g2).trans g3
    cases o with
    | next => cases f <;> first | exact ho.elim | (obtain ⟨m, hm, hI'⟩ := hΦ; exact ⟨m, hm, σ3, F3, hI', X3, g⟩)
    | cont => cases f <;> first | exact ho.elim | (obtain ⟨m, hm, hI'⟩ := hΦ; exact ⟨m, hm, σ3, F3, hI', X3, g⟩)
    | brk => cases f <;> first | exact ho.elim | exact hQ .next .next F3 s3 σ3 trivial X3 g hΦ
    | ret d => cases f <;> first | exact ho.elim | exact hQ _ (.ret d) F3 s3 σ3 ho X3 g hΦ

theorem WP.for {target iter : Expr} {body orelse ss : List Stmt} {pos : Pos} {d : D} {ds : List D} (I : Nat → St → Prop) (he : Ev C σ iter d) (hi : d = .list ds ∨ ∃ lo hi, d = .rng lo hi ∧ ds = rints lo hi ∧ (-1000000 ≤ lo ∧ lo ≤ 1000000 ∧ -1000000 ≤ hi ∧ hi ≤ 1000000))
    (h0 : I 0 σ) (τ : D → St → St) (hτ : ∀ d σ m, τ d (σ.setMu m) = (τ d σ).setMu m) (hτm : ∀ d σ, (τ d σ).mu = σ.mu) (hasg : ∀ d σ, Asg C σ target d (τ d σ))
    (turn : ∀ k d σ, ds[k]? = some d → I k σ → WP C (τ d σ) body fun o σ' => match o with | .next => I (k + 1) σ' | .cont => I (k + 1) σ' | .brk => WP C σ' ss Φ | .ret d => Φ (.ret d) σ')
    (done : ∀ σ, I ds.length σ → WP C σ orelse fun o σ' => match o with | .next => WP C σ' ss Φ | o => Φ o σ')
    (hs : ∀ x, foldedSetIterable iter C.env x = pure x := by intro _; rfl) (ht : ∀ it v, letOwnedTupleGo target it v = pure () := by intro _ _; rfl) : WP C σ (.For target iter body orelse pos :: ss) Φ := WP.cons fun K F s Q E X hQ => by
  refine wpAny_For (he K F s _ E X fun F1 v s1 X1 g1 r1 => ?_) hs
  have S : Src K F1 v ds := by
    rcases hi with rfl | ⟨lo, hi, rfl, rfl, hb⟩
    · obtain ⟨a, o, vs, rfl, h1, h2, h3⟩ := r1.list_inv
      exact .list (.inl h1) h2 h3
    · obtain ⟨a, o, rfl, h1, h2⟩ := r1.rng_inv
      exact .rng h1 h2 hb
  refine pyIter_src X.ok.rm.hh S X1.am.frz X1.am.keep fun o P hf hP ITA => ?_
  have IT := ITA C.A X.ok.rm.hh
  have X2 := X1.allocMu o (.obj (P 0)) s1.toks ⟨o, Heap.get?_push_size _ hf, hP⟩
  generalize hit : s1.heap.objs.size = it at X2 IT ⊢
  obtain ⟨c1, c2⟩ := X2.apartMu (p := (it, .obj (P 0))) (.head _)
  refine codeAny_forLoop (prog := C.G.prog) (w := C.G.w) (fun n s' => ∃ k σ' F', n + k = ds.length ∧ I k σ' ∧ Mo C K (σ'.setMu ((it, .obj (P k)) :: σ'.mu)) F' s' ∧ Fle F1 F') ?_ ds.length ⟨0, σ, F1, by simp, h0, X2, Fle.refl _⟩ (ht _)
  rintro n s3 ⟨k, σ3, F3, hn, hI, X3, g3⟩
  have hit3 : ∃ o, s3.heap.get? it = some o ∧ P k o := (X3.am.mus (it, .obj (P k)) (.head _)).1
  cases n with
  | zero =>
    have hk : k = ds.length := by omega
    subst hk
    refine IT.stop F3 s3 _ _ g3 X3.am.frz X3.am.keep hit3 fun h' t hs' => ?_
    have X4 := X3.dropExt (t := t) rfl hs'
    refine done σ3 hI K F3 _ _ _ X4 fun f o F5 s5 σ5 ho X5 g5 hΦ => ?_
    exact hQ f o F5 s5 σ5 ho X5 ((g1.trans g3).trans g5) hΦ
  | succ n =>
    have hk : k < ds.length := by omega
    refine IT.item k ds[k] F3 s3 _ _ g3 X3.am.frz X3.am.keep (List.getElem?_eq_getElem hk) hit3 fun h' v t hs' hit' hr => ?_
    have X4 := X3.turn (pre := []) (mo' := .obj (P (k + 1))) (t := t) rfl hs' hit'
    refine hasg ds[k] _ K F3 _ v _ _ X4 hr fun s5 X5 => ?_
    rw [hτ] at X5
    obtain ⟨oi, hoi, ⟨oi', hoi', hPi⟩, hKi, X6⟩ := X5.hide (a := it) (mo := .obj (P (k + 1))) (mu := σ3.mu) rfl
    rw [hoi] at hoi'; cases hoi'
    have e6 : ((τ ds[k] σ3).setMu ((it, MO.obj (P (k + 1))) :: σ3.mu)).setMu σ3.mu = τ ds[k] σ3 := by
      show (τ ds[k] σ3).setMu σ3.mu = _
      rw [← hτm ds[k] σ3]; rfl
    have e7 : ((τ ds[k] (σ3.setMu ((it, MO.obj (P k)) :: σ3.mu))).setMu ([] ++ (it, MO.obj (P (k + 1))) :: σ3.mu)).setMu σ3.mu = τ ds[k] σ3 := by
      rw [hτ]; exact e6
    rw [show ∀ m, ((τ ds[k] (σ3.setMu ((it, MO.obj (P k)) :: σ3.mu))).setMu m).setMu σ3.mu = τ ds[k] σ3 from fun m => by rw [hτ]; exact e6] at X6
    refine turn k ds[k] σ3 (List.getElem?_eq_getElem hk) hI (K.put it oi) F3 s5 _ _ X6 fun f o F7 s7 σ7 ho X7 g7 hΦ => ?_
    have hi7 : s7.heap.get? it = some oi := X7.am.keep _ _ (Fz.put_self _ _ _)
    have X8 := X7.show hKi (mo := .obj (P (k + 1))) ⟨oi, hi7, hPi⟩ c1 c2 (X.ok.mon _ _ _ _ X5.pre (Fle.refl _) g7)
    have X9 := X8.sub (mu' := σ7.mu) (fun p hp => .tail _ hp) X7.am.nd
    cases o with
    | next => cases f <;> first | exact ho.elim | exact ⟨n, Nat.lt_succ_self n, k + 1, σ7, F7, by omega, hΦ, X8, g3.trans g7⟩
    | cont => cases f <;> first | exact ho.elim | exact ⟨n, Nat.lt_succ_self n, k + 1, σ7, F7, by omega, hΦ, X8, g3.trans g7⟩
    | brk => cases f <;> first | exact ho.elim | exact hQ .next .next F7 s7 σ7 trivial X9 ((g1.trans g3).trans g7) hΦ
    | ret d => cases f <;> first | exact ho.elim | exact hQ _ (.ret d) F7 s7 σ7 ho X9 ((g1.trans g3).trans g7) hΦ
end
end Mine
end

section
set_option Elab.async false
set_option linter.unusedVariables false
set_option linter.unusedSimpArgs false
namespace Mine
open PySem PySem.W PyProof.Rows PySem.Calls

def MuSet (mu : Mu) (a : Addr) (m m' : MO) (mu' : Mu) : Prop := ∃ pre post, mu = pre ++ (a, m) :: post ∧ mu' = pre ++ (a, m') :: post
theorem MuSet.head {mu : Mu} {a : Addr} {m m' : MO} : MuSet ((a, m) :: mu) a m m' ((a, m') :: mu) := ⟨[], mu, rfl, rfl⟩
theorem MuSet.tail {mu mu' : Mu} {a : Addr} {m m' : MO} {p : Addr × MO} (h : MuSet mu a m m' mu') : MuSet (p :: mu) a m m' (p :: mu') := by
  obtain ⟨pre, post, rfl, rfl⟩ := h
  exact ⟨p :: pre, post, rfl, rfl⟩
theorem MuSet.right {mu mu' nu : Mu} {a : Addr} {m m' : MO} (h : MuSet mu a m m' mu') : MuSet (nu ++ mu) a m m' (nu ++ mu') := by
  obtain ⟨pre, post, rfl, rfl⟩ := h
  exact ⟨nu ++ pre, post, by simp, by simp⟩
theorem MuSet.mem {mu mu' : Mu} {a : Addr} {m m' : MO} (h : MuSet mu a m m' mu') : (a, m) ∈ mu := by
  obtain ⟨pre, post, rfl, rfl⟩ := h
  simp
section
variable {C : Cx} {σ : St} {Φ : Out → St → Prop}
theorem Mo.set {K F : Fz} {s : Shared} {h' : Heap} {a : Addr} {mo mo' : MO} {mu' : Mu} {t : Nat} (X : Mo C K σ F s) (hm : MuSet σ.mu a mo mo' mu') (hs : Heap.SameBut a s.heap h') (h : mo'.At F h' a) : Mo C K (σ.setMu mu') F { s with heap := h', toks := t } := by
  obtain ⟨pre, post, h1, rfl⟩ := hm
  exact X.turn h1 hs h

theorem Mo.upd {K F : Fz} {s : Shared} {a : Addr} {ds ds' : List D} {vs ws : List Value} {n : Nat} {mu' : Mu} {t : Nat} {f : Array Value → Array Value} (X : Mo C K σ F s) (hm : MuSet σ.mu a (.list ds) (.list ds') mu') (h1 : IsL s.heap a vs.toArray n)
    (hf : f vs.toArray = ws.toArray) (hw : ws.length ≤ 100000) (hr : RepL F ws ds') : Mo C K (σ.setMu mu') F { s with heap := s.heap.update a (Obj.mapSeq f), toks := t } := by
  have := IsL.update h1 f
  rw [hf] at this
  exact X.set hm (Heap.SameBut.update ..) ⟨_, ws, this, ⟨hw, _, rfl⟩, hr⟩

theorem EvX.append {o elt : Expr} {apos pos : Pos} {a : Addr} {ds : List D} {e : D} {mu' : Mu} (ho : Ev C σ o (.ref a)) (he : Ev C σ elt e) (hm : MuSet σ.mu a (.list ds) (.list (ds ++ [e])) mu') (hl : ds.length < 100000)
    (hbase : attributeBase o "append" C.env (eval o C.env) = eval o C.env := by rfl)
    (hfew : ((backTo pos (starEach [elt] C.env)).all (fun x => !x.1) && (backToKw pos (keywordEach [] C.env)).all (fun x => x.1.isSome) && decide (([elt] : List Expr).length + ([] : List Keyword).length + (if ([] : List Keyword).isEmpty then 0 else 1) < 30)) = true := by rfl)
    (hline : (apos.endLine == pos.line) = true := by rfl) (htrees : backTo pos (starEach [elt] C.env) = [(false, eval elt C.env)] := by rfl) :
    EvX C σ (.Call (.Attribute o "append" apos) [elt] [] pos) (fun d mu => d = .none ∧ mu = mu') := fun K F s Q E X hQ => by
  refine wpAny_Call_method (T := "list") (id := "list.append") hbase hfew hline PySem.F.plainAttrs_list PySem.F.slot_list_append PySem.F.type_list_append (ho K F s _ E X fun F1 v s1 X1 g1 r1 => ?_)
  cases r1.ref_inv
  obtain ⟨vs, n, h1, h2, h3⟩ := (X1.am.mus _ hm.mem).1.isL
  refine ⟨⟨_, h1, rfl⟩, fun b hb => by cases hb; exact ⟨_, h1, rfl⟩, ?_⟩
  rw [htrees]
  refine P.append_list (he K F1 s1 _ E X1 fun F2 w s2 X2 g2 r2 => ?_)
  obtain ⟨vs', n', k1, k2, k3⟩ := (X2.am.mus _ hm.mem).1.isL
  have hl2 := k2.length
  refine ⟨vs'.toArray, n', by rw [List.size_toArray]; exact fitsSz (by omega), k1, ?_⟩
  exact hQ F2 _ _ _ _ ⟨rfl, rfl⟩ (X2.upd (t := s2.toks) hm k1 (ws := vs' ++ [w]) (by simp) (by simp; omega) (k2.append (.cons r2 .nil))) (g1.trans g2) .none

theorem WP.del0 {o i : Expr} {p pos : Pos} {a : Addr} {e : D} {ds : List D} {mu' : Mu} {ss : List Stmt} (ho : Ev C σ o (.ref a)) (hi : Ev C σ i (.int 0)) (hm : MuSet σ.mu a (.list (e :: ds)) (.list ds) mu') (h : WP C (σ.setMu mu') ss Φ) :
    WP C σ (.Delete [.Subscript o i p] pos :: ss) Φ := WP.cons fun K F s Q E X hQ => by
  refine wpAny_Delete (wpAny_deleteEach_cons (wpAny_delete_Subscript (ho K F s _ E X fun F1 v s1 X1 g1 r1 => hi K F1 s1 _ E X1 fun F2 w s2 X2 g2 r2 => ?_)))
  cases (r1.mono g2).ref_inv
  obtain ⟨t, rfl⟩ := r2.int_inv
  obtain ⟨vs, n, h1, h2, h3⟩ := (X2.am.mus _ hm.mem).1.isL
  have hl := h2.length
  simp only [List.length_cons] at hl
  refine P.delItem_list h1 (by decide) (k := 0) (seqIndex_of (k := 0) (by omega) (by rw [List.size_toArray]; omega)) ?_ (by rw [List.size_toArray]; exact fitsSz (by omega))
  refine wpAny_deleteEach_nil ?_
  have hrl := h2.eraseIdx 0
  exact hQ .next .next F2 _ _ trivial (X2.upd (t := s2.toks) hm h1 (ws := vs.eraseIdx 0) (by simp [Array.eraseIdxIfInBounds, show 0 < vs.length by omega]) (by have := List.length_eraseIdx_le vs 0; omega) hrl) (g1.trans g2) h

theorem WP.setItem {o i e : Expr} {p pos : Pos} {a : Addr} {k : Int} {d : D} {ds : List D} {mu' : Mu} {ss : List Stmt} (he : Ev C σ e d) (ho : Ev C σ o (.ref a)) (hi : Ev C σ i (.int k)) (h0 : 0 ≤ k) (hk : k.toNat < ds.length)
    (hm : MuSet σ.mu a (.list ds) (.list (ds.set k.toNat d)) mu') (h : WP C (σ.setMu mu') ss Φ) (hs : swapsWith e (some (.Subscript o i p)) pos.line C.env = pure false := by rfl) :
    WP C σ (.Assign [.Subscript o i p] e pos :: ss) Φ := WP.cons fun K F s Q E X hQ => by
  refine wpAny_Assign_Subscript (he K F s _ E X fun F0 u s0 X0 g0 r0 => ho K F0 s0 _ E X0 fun F1 v s1 X1 g1 r1 => hi K F1 s1 _ E X1 fun F2 w s2 X2 g2 r2 => ?_) hs
  cases (r1.mono g2).ref_inv
  obtain ⟨t, rfl⟩ := r2.int_inv
  obtain ⟨vs, n, h1, h2, h3⟩ := (X2.am.mus _ hm.mem).1.isL
  have hl := h2.length
  refine ki_setAt (n := n) h1 h0 (by omega) (by rw [List.size_toArray]; omega) ?_
  exact hQ .next .next F2 _ _ trivial (X2.upd (t := s2.toks) hm h1 (ws := vs.set k.toNat u) (by simp) (by rw [List.length_set]; exact h3) (h2.set _ ((r0.mono g1).mono g2))) ((g0.trans g1).trans g2) h

theorem WP.unpack {x y : Str} {px py tp pos : Pos} {k : Nat} {e : Expr} {d1 d2 : D} {ss : List Stmt} (hx : Stores C x) (hy : Stores C y) (he : Ev C σ e (.tup [d1, d2])) (h : WP C ((σ.set x d1).set y d2) ss Φ)
    (hs : swapsWithSole [.Tuple [.Name x px, .Name y py] k tp] e pos.line C.env = pure false := by rfl) (hw : swappedStores [.Tuple [.Name x px, .Name y py] k tp] e C.env = pure none := by rfl) :
    WP C σ (.Assign [.Tuple [.Name x px, .Name y py] k tp] e pos :: ss) Φ := WP.cons fun K F s Q E X hQ => by
  refine Assign_Tuple (he K F s _ E X fun F1 v s1 X1 g1 r1 => ?_) hs hw
  obtain ⟨a, vs, n, rfl, h1, h2, h3⟩ := tup_at X1 r1
  obtain ⟨va, vb, rfl, ra, rb⟩ : ∃ va vb, vs = [va, vb] ∧ Rep F1 va d1 ∧ Rep F1 vb d2 := by
    cases h2 with
    | cons ra t => cases t with
      | cons rb t => cases t with
        | nil => exact ⟨_, _, rfl, ra, rb⟩
  refine wpAny_assign_Tuple (items := #[va, vb]) X1.ok.rm.hh ⟨_, h1, rfl, n, rfl⟩ rfl rfl fun h' hs' => ?_
  have X2 : Mo C K σ F1 { s1 with heap := h' } := X1.grow (t := s1.toks) (fun b o e => hs' b o (fun q => by subst q; exact Nat.lt_irrefl _ (Heap.lt_size e)) e) (Fle.refl _) (fun _ _ e => .inl e) (fun b o e => hs' b o (fun q => by subst q; exact Nat.lt_irrefl _ (Heap.lt_size (X1.am.frz _ _ e))) (X1.am.frz _ _ e))
  refine wpAny_assignInOrder_more (wpAny_assign_Name (sto hx X2 ra fun s3 X3 => ?_))
  refine wpAny_assignInOrder_more (wpAny_assign_Name (sto hy X3 rb fun s4 X4 => ?_))
  exact wpAny_assignInOrder_none (hQ .next .next F1 _ _ trivial X4 g1 h)

/-! what turned stays from now on -/
def DLe (F : Fz) (d e : D) : Prop := ∀ v, Rep F v d → Rep F v e
theorem WP.freeze {a : Addr} {ds : List D} {mu : Mu} {vars : List (Str × D)} {ss : List Stmt} (hσ : σ.mu = (a, .list ds) :: mu) (hv : ∀ y e, vars.lookup y = some e → σ.vars.lookup y = some e ∨ (σ.vars.lookup y = some (.ref a) ∧ e = .list ds))
    (h : WP C { vars := vars, mu := mu } ss Φ) : WP C σ ss Φ := fun K F s Q E X hQ => by
  obtain ⟨o, ho, ⟨o', vs, h1, h2, h3⟩, hF, X'⟩ := X.freeze hσ
  rw [ho] at h1; cases h1
  have g : Fle F (F.put a o) := Fle.put hF o
  refine h K (F.put a o) s Q E ?_ fun f oo F' s' σ' ho' X2 g2 r => hQ f oo F' s' σ' ho' X2 (g.trans g2) r
  obtain ⟨m, hn, hm⟩ := X'.loc
  refine ⟨X'.ok, X'.am, X'.priv, X'.live, ⟨m, hn, fun y e hy => ?_⟩, X'.pmu, X'.ro, X'.pre⟩
  rcases hv y e hy with h' | ⟨h', rfl⟩
  · exact hm y e h'
  · obtain ⟨v, q1, q2⟩ := hm y _ h'
    cases q2.ref_inv
    exact ⟨_, q1, .list (Fz.put_self _ _ _) h2 (h3.mono g)⟩
theorem WP.frz {a : Addr} {ds : List D} {mu : Mu} (new : List (Str × D)) {ss : List Stmt} (hσ : σ.mu = (a, .list ds) :: mu) (hv : ∀ p ∈ new, σ.vars.lookup p.1 = some p.2 ∨ (σ.vars.lookup p.1 = some (.ref a) ∧ p.2 = .list ds))
    (h : WP C { vars := new, mu := mu } ss Φ) : WP C σ ss Φ := WP.freeze hσ (fun y e hy => hv (y, e) (mem_of_lookup hy)) h
theorem WP.keep (new : List (Str × D)) {ss : List Stmt} (hv : ∀ p ∈ new, σ.vars.lookup p.1 = some p.2) (h : WP C { vars := new, mu := σ.mu } ss Φ) : WP C σ ss Φ := WP.weak h (fun y e hy => hv (y, e) (mem_of_lookup hy)) rfl
end
end Mine
end

section
set_option Elab.async false
set_option linter.unusedVariables false
set_option linter.unusedSimpArgs false
namespace Mine
open PySem PySem.W PyProof.Rows PySem.Calls

abbrev zs (ns : List Int) : List D := ns.map .int
theorem RepL.ints {F : Fz} : ∀ {vs : List Value} {ns : List Int}, RepL F vs (zs ns) → IntsAre vs ns
  | _, [], h => by cases h; exact .nil
  | _, n :: ns, h => by
    cases h with
    | cons h t =>
      obtain ⟨u, rfl⟩ := h.int_inv
      exact .cons _ _ (RepL.ints t)
theorem RepL.of_ints {F : Fz} : ∀ {vs : List Value} {ns : List Int}, IntsAre vs ns → RepL F vs (zs ns)
  | _, _, .nil => .nil
  | _, _, .cons n t h => .cons (.int n t) (RepL.of_ints h)

theorem RepL.of_get {F : Fz} : ∀ {vs : List Value} {ds : List D}, vs.length = ds.length → (∀ (j : Nat) (v : Value) (d : D), vs[j]? = some v → ds[j]? = some d → Rep F v d) → RepL F vs ds
  | [], [], _, _ => .nil
  | v :: vs, d :: ds, hl, h => .cons (h 0 v d rfl rfl) (RepL.of_get (by simpa using hl) fun j v d h1 h2 => h (j + 1) v d (by simpa using h1) (by simpa using h2))
  | [], _ :: _, hl, _ => by simp at hl
  | _ :: _, [], hl, _ => by simp at hl

section
variable {C : Cx} {σ : St} {Φ : Out → St → Prop}

theorem Mo.kept {K F : Fz} {s : Shared} {h' : Heap} {t : Nat} (X : Mo C K σ F s) (hk : ∀ b o, s.heap.get? b = some o → h'.get? b = some o) : Mo C K σ F { s with heap := h', toks := t } :=
  X.grow hk (Fle.refl _) (fun _ _ e => .inl e) fun b o e => hk b o (X.am.frz _ _ e)
theorem Mo.addMu {K F : Fz} {s : Shared} {h' : Heap} {t : Nat} {a : Addr} {mo : MO} (X : Mo C K σ F s) (hk : ∀ b o, s.heap.get? b = some o → h'.get? b = some o) (ha : s.heap.get? a = none) (hm : mo.At F h' a) :
    Mo C K (σ.setMu ((a, mo) :: σ.mu)) F { s with heap := h', toks := t } := by
  have X' := X.kept (t := t) hk
  have hF : F a = none := by
    cases e : F a with
    | none => rfl
    | some o => rw [X.am.frz _ _ e] at ha; cases ha
  have hK : K a = none := by
    cases e : K a with
    | none => rfl
    | some o => rw [X.am.keep _ _ e] at ha; cases ha
  have hmu : ∀ p ∈ σ.mu, p.1 ≠ a := fun p hp e => by
    obtain ⟨o, ho⟩ := (X.am.mus p hp).1.some
    rw [e, ha] at ho; cases ho
  have A := X'.am
  refine X'.with ⟨A.ok, A.base, A.frz, A.dis, A.keep, fun p hp => ?_, ?_, A.gens, A.drawn, A.os⟩ (fun b hb => ⟨(X'.priv b hb).1, rfl⟩) (Fle.refl _) fun p hp => ?_
  · rcases List.mem_cons.mp hp with rfl | hp
    · exact ⟨hm, hF, hK⟩
    · exact A.mus p hp
  · rw [List.map_cons, List.nodup_cons]
    refine ⟨fun hq => ?_, A.nd⟩
    obtain ⟨p, hp, e⟩ := List.mem_map.mp hq
    exact hmu p hp e
  · rcases List.mem_cons.mp hp with rfl | hp
    · intro hb
      obtain ⟨o, ho⟩ := (X.priv _ hb).2.2
      rw [ha] at ho; cases ho
    · exact X.pmu p hp

structure BN (C : Cx) (x : Str) (v : Value) : Prop where
  kind : C.env.kindOf x = some .globalImplicit
  mg : C.G.mg x = none
  mb : C.G.mb x = some v
  nd : (x == ("__debug__" : Str)) = false

def C1 (C : Cx) (σ : St) (f : Value) (d : D) (R : D → Mu → Prop) : Prop :=
  ∀ (K F : Fz) (s : Shared) (v : Value) (Q : Value → Shared → Prop) (E : Value → Shared → Prop), Mo C K σ F s → Rep F v d →
    (∀ F' v' s' d' mu, R d' mu → Mo C K (σ.setMu mu) F' s' → Fle F F' → Rep F' v' d' → Q v' s') → wpAny C.G.M C.A (call f [v]) Q E s
def C2 (C : Cx) (σ : St) (f : Value) (d1 d2 : D) (R : D → Mu → Prop) : Prop :=
  ∀ (K F : Fz) (s : Shared) (v1 v2 : Value) (Q : Value → Shared → Prop) (E : Value → Shared → Prop), Mo C K σ F s → Rep F v1 d1 → Rep F v2 d2 →
    (∀ F' v' s' d' mu, R d' mu → Mo C K (σ.setMu mu) F' s' → Fle F F' → Rep F' v' d' → Q v' s') → wpAny C.G.M C.A (call f [v1, v2]) Q E s
def IsBT (f : Value) : Prop := (∃ id, f = .builtin id) ∨ ∃ T, f = .type T

theorem callWith_bt {pos : Pos} {f : Value} {args : List (Bool × Sem Value)} {Q : Value → Shared → Prop} {E : Value → Shared → Prop} {M : Model} {A : Around} {s : Shared} (hf : IsBT f) (hplain : args.any (·.1) = false)
    (h : wpAny M A (evalArgs f true args []) (fun a s₁ => wpAny M A (call f ([] ++ a.pos) a.kw) Q E s₁) E s) : wpAny M A (callWith pos f [] args []) Q E s := by
  rcases hf with ⟨id, rfl⟩ | ⟨T, rfl⟩
  · exact callWith_builtin hplain h
  · exact PyProof.Rows.callWith_type hplain h
theorem EvX.call1 {x : Str} {p pos : Pos} {f : Value} {e : Expr} {d : D} {R : D → Mu → Prop} (hf : IsBT f) (hb : BN C x f) (he : Ev C σ e d) (h : C1 C σ f d R)
    (hs : starEach [e] C.env = [(false, eval e C.env)] := by rfl) : EvX C σ (.Call (.Name x p) [e] [] pos) R := fun K F s Q E X hQ => by
  refine Call_Name1 (bName X hb.kind hb.mg hb.mb ?_ hb.nd) hs
  refine callWith_bt hf rfl (Calls.evalArgs_plain (Calls.spliced_cons (he K F s _ E X fun F1 v s1 X1 g1 r1 => Calls.spliced_nil ?_)))
  exact h K F1 s1 v Q E X1 r1 fun F' v' s' d' mu hR X' g r => hQ F' v' s' d' mu hR X' (g1.trans g) r
theorem EvX.call2 {x : Str} {p pos : Pos} {f : Value} {e1 e2 : Expr} {d1 d2 : D} {R : D → Mu → Prop} (hf : IsBT f) (hb : BN C x f) (he1 : Ev C σ e1 d1) (he2 : Ev C σ e2 d2) (h : C2 C σ f d1 d2 R)
    (hs : starEach [e1, e2] C.env = [(false, eval e1 C.env), (false, eval e2 C.env)] := by rfl) : EvX C σ (.Call (.Name x p) [e1, e2] [] pos) R := fun K F s Q E X hQ => by
  refine Call_Name2 (bName X hb.kind hb.mg hb.mb ?_ hb.nd) hs
  refine callWith_bt hf rfl (Calls.evalArgs_plain (Calls.spliced_cons (he1 K F s _ E X fun F1 v s1 X1 g1 r1 => Calls.spliced_cons (he2 K F1 s1 _ E X1 fun F2 v2 s2 X2 g2 r2 => Calls.spliced_nil ?_))))
  exact h K F2 s2 v v2 Q E X2 (r1.mono g2) r2 fun F' v' s' d' mu hR X' g r => hQ F' v' s' d' mu hR X' ((g1.trans g2).trans g) r
def Just (σ : St) (d : D) (d' : D) (mu : Mu) : Prop := d' = d ∧ mu = σ.mu
theorem Ev.of_just {e : Expr} {d : D} (h : EvX C σ e (Just σ d)) : Ev C σ e d := fun K F s Q E X hQ => h K F s Q E X fun F' v s' d' mu ⟨e1, e2⟩ X' g r => by
  subst e1 e2
  exact hQ F' v s' X' g r

theorem C1.len {d : D} {ds : List D} (hi : Items C σ d ds) : C1 C σ (.builtin "len") d (Just σ (.int ds.length)) := fun K F s v Q E X r hQ => by
  obtain ⟨a, vs, n, rfl, h1, h2, h3⟩ := hi.at X r
  refine Calls.call_len_list (IsL.isList h1) (by rw [List.size_toArray]; omega) ?_
  have := hQ F (.int ds.length (s.toks + 1)) { s with toks := s.toks + 1 + 1 } _ _ ⟨rfl, rfl⟩ (X.toks _) (Fle.refl _) (.int _ _)
  rw [List.size_toArray, h2.length]
  exact this
theorem intsAre_items {vs : List Value} {ns : List Int} (h : IntsAre vs ns) : ∃ xs : Array (Int × Tok), vs.toArray = intItems xs ∧ xs.toList.map (·.1) = ns := by
  obtain ⟨xs, hx⟩ := h.allInts.items
  refine ⟨xs, hx, ?_⟩
  have h1 := h.numsOf
  have h2 : vs = (intItems xs).toList := by rw [← hx]
  rw [h2, nums_intItems] at h1
  exact h1
theorem C1.sum {d : D} {ns : List Int} (hi : Items C σ d (zs ns)) : C1 C σ (.builtin "sum") d (Just σ (.int ns.sum)) := fun K F s v Q E X r hQ => by
  obtain ⟨a, vs, n, rfl, h1, h2, h3⟩ := hi.at X r
  obtain ⟨xs, e1, e2⟩ := intsAre_items h2.ints
  rw [e1] at h1
  refine sum_intListG X.ok.rm.hh (IsL.isList h1) fun h' tk t' hk => ?_
  rw [preSum_eq, List.take_of_length_le (by simp), e2]
  exact hQ F _ _ _ _ ⟨rfl, rfl⟩ (X.kept hk) (Fle.refl _) (.int _ _)
theorem C1.min {d : D} {ns : List Int} (hi : Items C σ d (zs ns)) (hne : ns ≠ []) : C1 C σ (.builtin "min") d (fun d' mu => ∃ m, d' = .int m ∧ mu = σ.mu ∧ m ∈ ns ∧ ∀ a ∈ ns, m ≤ a) := fun K F s v Q E X r hQ => by
  obtain ⟨a, vs, n, rfl, h1, h2, h3⟩ := hi.at X r
  obtain ⟨xs, e1, e2⟩ := intsAre_items h2.ints
  rw [e1] at h1
  have hsz : 0 < xs.size := by
    rw [← Array.length_toList]
    cases hx : xs.toList with
    | nil => rw [hx] at e2; exact absurd e2.symm hne
    | cons _ _ => simp
  refine min_intList X.ok.rm.hh (IsL.isList h1) hsz fun v h' tk hv hk => ?_
  obtain ⟨t, rfl⟩ := intItems_at hv
  obtain ⟨b1, b2⟩ := argBest_lt (numAt xs) (xs.size - 1)
  refine hQ F _ _ _ _ ⟨_, rfl, rfl, ?_, fun a ha => ?_⟩ (X.kept hk) (Fle.refl _) (.int _ _)
  · rw [← e2, numAt_eq]; exact getD_mem (by rw [List.length_map, Array.length_toList]; omega)
  · rw [← e2] at ha
    obtain ⟨j, hj, rfl⟩ := mem_getD ha
    rw [List.length_map, Array.length_toList] at hj
    rw [← numAt_eq]; exact b2 j (by omega)
theorem C1.sorted {d : D} {ns : List Int} (hi : Items C σ d (zs ns)) (h64 : ns.length < 64) : C1 C σ (.builtin "sorted") d (fun d' mu => ∃ ns', NewL σ (zs ns') d' mu ∧ ns'.Perm ns ∧ ns'.Pairwise (· ≤ ·)) := fun K F s v Q E X r hQ => by
  obtain ⟨a, vs, n, rfl, h1, h2, h3⟩ := hi.at X r
  have hl := h2.ints.length
  refine sorted_ints (IsL.isList h1) h2.ints (by omega) fun out ns' a1 a2 a3 => ?_
  obtain ⟨e, he⟩ := sortedAll_at s.heap vs out
  have hn : s.heap.get? (s.heap.objs.size + 1) = none := Heap.get?_none_of_le (by omega)
  refine hQ F _ _ _ _ ⟨ns', ⟨_, rfl, rfl⟩, a2, a3⟩ (X.addMu (t := s.toks) (fun b o e => sortedAll_old e) hn ⟨_, out.toList, he, ⟨?_, e, rfl⟩, RepL.of_ints a1⟩) (Fle.refl _) (.ref _)
  rw [a1.length, a2.length_eq]; omega
theorem C1.range {n : Int} : C1 C σ (.type "range") (.int n) (Just σ (.rng 0 n)) := fun K F s v Q E X r hQ => by
  obtain ⟨t, rfl⟩ := r.int_inv
  exact call_range_1 (hQ _ _ _ _ _ ⟨rfl, rfl⟩ (X.alloc _ rfl _) (Fle.put X.am.fresh _) (.rng (Fz.put_self _ _ _) ⟨_, _, _, rfl⟩))
theorem C2.range {a b : Int} : C2 C σ (.type "range") (.int a) (.int b) (Just σ (.rng a b)) := fun K F s v1 v2 Q E X r1 r2 hQ => by
  obtain ⟨t, rfl⟩ := r1.int_inv
  obtain ⟨u, rfl⟩ := r2.int_inv
  exact call_range_2 (hQ _ _ _ _ _ ⟨rfl, rfl⟩ (X.alloc _ rfl _) (Fle.put X.am.fresh _) (.rng (Fz.put_self _ _ _) ⟨_, _, _, rfl⟩))
theorem C1.listRange {a b : Int} (hb : -1000000 ≤ a ∧ a ≤ 1000000 ∧ -1000000 ≤ b ∧ b ≤ 1000000) (hl : b - a ≤ 100000) : C1 C σ (.type "list") (.rng a b) (NewL σ (rints a b)) := fun K F s v Q E X r hQ => by
  obtain ⟨x, o, rfl, h1, t, u, w, rfl⟩ := r.rng_inv
  have hsz : Builtin.Range.rangeSize a b 1 = ((b - a).toNat : Int) := by rw [rangeSize_one]; split <;> omega
  refine call_list_range X.ok.rm.hh (X.am.frz _ _ h1) (small_one (by omega) (by omega) (by omega) (by omega)) hsz (by omega) fun h' tk acc' c' hk hS hacc => ?_
  have hr : RepL F acc'.toList (rints a b) := by
    refine RepL.of_get (by rw [Array.length_toList, hacc.1]; simp [rints]) fun j v d h1 h2 => ?_
    obtain ⟨t, rfl⟩ := hacc.2 j v (by simpa using h1)
    have hj : j < (b - a).toNat := by
      have := (List.getElem?_eq_some_iff.mp h2).1
      simpa [rints] using this
    rw [rints, List.getElem?_map, List.getElem?_range hj] at h2
    simp only [Option.map_some, Option.some.injEq] at h2
    subst h2
    rw [show a + (j : Int) * 1 = a + j by omega]
    exact .int _ _
  have hn : s.heap.get? s.heap.objs.size = none := Heap.get?_none_of_le (Nat.le_refl _)
  refine hQ F _ _ _ _ ⟨_, rfl, rfl⟩ (X.addMu (t := tk) hk hn ⟨_, acc'.toList, hS, ⟨?_, c', by simp⟩, hr⟩) (Fle.refl _) (.ref _)
  rw [hr.length]; simp [rints]; omega

theorem items_eq {A : Around} {s : Shared} {vs : List Value} {ns : List Int} {x : Int} {t : Tok} (h : IntsAre vs ns) : ∀ y, y ∈ vs.toArray → SeqAt.EqAt A s y (.int x t) (match y with | .int a _ => a == x | _ => false) := by
  intro y hy
  have hy' : y ∈ vs := by simpa using hy
  have : ∃ a u, y = .int a u := by
    clear hy
    induction h with
    | nil => cases hy'
    | cons n t h ih =>
      rcases List.mem_cons.mp hy' with rfl | hy'
      · exact ⟨_, _, rfl⟩
      · exact ih hy'
  obtain ⟨a, u, rfl⟩ := this
  exact SeqAt.EqAt.int_int a u x t
theorem any_ints {vs : List Value} {ns : List Int} {x : Int} (h : IntsAre vs ns) : (vs.toArray.any fun y => match y with | .int a _ => a == x | _ => false) = decide (x ∈ ns) := by
  rw [List.any_toArray]
  induction h with
  | nil => rfl
  | cons n t h ih =>
    rw [List.any_cons, ih]
    by_cases e : n = x
    · subst e; simp
    · have : ¬ x = n := fun q => e q.symm
      simp [e, this]
theorem Cm.in {d : D} {ns : List Int} {x : Int} (hi : Items C σ d (zs ns)) : CmpSem C σ .In (.int x) d (decide (x ∈ ns)) := fun K F s v1 v2 Q E X r1 r2 hQ => by
  obtain ⟨t, rfl⟩ := r1.int_inv
  obtain ⟨a, vs, n, rfl, h1, h2, h3⟩ := hi.at X r2
  refine SeqAt.in_listAt _ (IsL.isList h1) (items_eq h2.ints) ?_
  rw [any_ints h2.ints]
  exact hQ F _ _ X (Fle.refl _) (.bool _)
theorem Cm.notIn {d : D} {ns : List Int} {x : Int} (hi : Items C σ d (zs ns)) : CmpSem C σ .NotIn (.int x) d (!decide (x ∈ ns)) := fun K F s v1 v2 Q E X r1 r2 hQ => by
  obtain ⟨t, rfl⟩ := r1.int_inv
  obtain ⟨a, vs, n, rfl, h1, h2, h3⟩ := hi.at X r2
  refine SeqAt.notIn_listAt _ (IsL.isList h1) (items_eq h2.ints) ?_
  rw [any_ints h2.ints]
  exact hQ F _ _ X (Fle.refl _) (.bool _)
end
end Mine
end

section
set_option Elab.async false
set_option linter.unusedVariables false
set_option linter.unusedSimpArgs false
namespace Mine
open PySem PySem.W PyProof.Rows PySem.Calls

/-! equality of nested data -/
mutual
inductive Vw (C : Cx) (σ : St) : D → PyData → Prop
  | bool (b : Bool) : Vw C σ (.bool b) (.bool b)
  | int (i : Int) : Vw C σ (.int i) (.int i)
  | list {ds : List D} {xs : List PyData} : VwL C σ ds xs → Vw C σ (.list ds) (.list xs)
  | tup {ds : List D} {xs : List PyData} : VwL C σ ds xs → Vw C σ (.tup ds) (.tuple xs)
  | mu {a : Addr} {ds : List D} {xs : List PyData} : ((a, MO.list ds) ∈ σ.mu ∨ (a, MO.list ds) ∈ C.ro) → VwL C σ ds xs → Vw C σ (.ref a) (.list xs)
inductive VwL (C : Cx) (σ : St) : List D → List PyData → Prop
  | nil : VwL C σ [] []
  | cons {d : D} {ds : List D} {x : PyData} {xs : List PyData} : Vw C σ d x → VwL C σ ds xs → VwL C σ (d :: ds) (x :: xs)
end

mutual
theorem Vw.reads {C : Cx} {σ : St} {K F : Fz} {s : Shared} (X : Mo C K σ F s) : ∀ {d : D} {x : PyData} {v : Value}, Vw C σ d x → Rep F v d → (∃ as, Reads s.heap v x as) ∧ x.canLay0 = true
  | _, _, _, .bool b, h => by cases h.bool_inv; exact ⟨⟨[], .bool b⟩, rfl⟩
  | _, _, _, .int i, h => by obtain ⟨t, rfl⟩ := h.int_inv; exact ⟨⟨[], .int i t⟩, rfl⟩
  | _, _, _, .list hv, h => by
    obtain ⟨a, o, vs, rfl, h1, ⟨h2, n, rfl⟩, h3⟩ := h.list_inv
    obtain ⟨⟨as, r⟩, hc⟩ := VwL.reads X hv h3
    exact ⟨⟨_, .list (X.am.frz _ _ h1) rfl rfl r⟩, by simpa [PyData.canLay0] using hc⟩
  | _, _, _, .tup hv, h => by
    obtain ⟨a, o, vs, rfl, h1, ⟨h2, n, rfl⟩, h3⟩ := h.tup_inv
    obtain ⟨⟨as, r⟩, hc⟩ := VwL.reads X hv h3
    exact ⟨⟨_, .tuple (X.am.frz _ _ h1) rfl rfl r⟩, by simpa [PyData.canLay0] using hc⟩
  | _, _, _, @Vw.mu _ _ a ds xs hm hv, h => by
    cases h.ref_inv
    have : ∃ vs n, IsL s.heap a vs.toArray n ∧ RepL F vs ds ∧ vs.length ≤ 100000 := by
      rcases hm with hm | hm
      · exact (X.am.mus _ hm).1.isL
      · exact (X.ro _ hm).1.isL
    obtain ⟨vs, n, h1, h2, h3⟩ := this
    obtain ⟨⟨as, r⟩, hc⟩ := VwL.reads X hv h2
    exact ⟨⟨_, .list h1 rfl rfl r⟩, by simpa [PyData.canLay0] using hc⟩
theorem VwL.reads {C : Cx} {σ : St} {K F : Fz} {s : Shared} (X : Mo C K σ F s) : ∀ {ds : List D} {xs : List PyData} {vs : List Value}, VwL C σ ds xs → RepL F vs ds → (∃ as, ReadsAll s.heap vs xs as) ∧ PyData.canLayAll0 xs = true
  | _, _, _, .nil, h => by cases h; exact ⟨⟨[], .nil⟩, rfl⟩
  | _, _, _, .cons hv hvs, h => by
    cases h with
    | cons h t =>
      obtain ⟨⟨as, r⟩, c1⟩ := Vw.reads X hv h
      obtain ⟨⟨bs, q⟩, c2⟩ := VwL.reads X hvs t
      exact ⟨⟨_, .cons r q⟩, by simp [PyData.canLayAll0, c1, c2]⟩
end

structure Enc (α : Type) where
  dec : DecidableEq α
  py : α → PyData
  d : α → D
  dep : Nat
  eqv : ∀ a b (h : Decidable (a = b)), PyData.eqv (py a) (py b) = @decide (a = b) h
  depth : ∀ a, (py a).depth ≤ dep
def encInt : Enc Int := ⟨inferInstance, .int, .int, 1, fun a b h => by
  by_cases e : a = b
  · subst e; simp [PyData.eqv]
  · simp [PyData.eqv, e], fun a => by simp [PyData.depth]⟩
theorem Enc.all {α : Type} (e : Enc α) : ∀ (l m : List α) (h : Decidable (l = m)), PyData.eqvAll (l.map e.py) (m.map e.py) = @decide (l = m) h
  | [], [], _ => by simp [PyData.eqvAll]
  | [], _ :: _, _ => by simp [PyData.eqvAll]
  | _ :: _, [], _ => by simp [PyData.eqvAll]
  | a :: l, b :: m, _ => by
    rw [List.map_cons, List.map_cons, PyData.eqvAll, e.eqv _ _ (e.dec a b), Enc.all e l m (@instDecidableEqList α e.dec l m)]
    by_cases h1 : a = b <;> by_cases h2 : l = m <;> simp [h1, h2]
theorem Enc.depthAll {α : Type} (e : Enc α) : ∀ l : List α, PyData.depthAll (l.map e.py) ≤ e.dep
  | [] => by simp [PyData.depthAll]
  | a :: l => by
    rw [List.map_cons]
    simp only [PyData.depthAll]
    exact Nat.max_le.mpr ⟨e.depth a, Enc.depthAll e l⟩
def encList {α : Type} (e : Enc α) : Enc (List α) := ⟨@instDecidableEqList α e.dec, fun l => .list (l.map e.py), fun l => .list (l.map e.d), e.dep + 1, fun a b h => by rw [PyData.eqv]; exact e.all a b h, fun a => by simp only [PyData.depth]; have := e.depthAll a; omega⟩
def encPair {α β : Type} (e : Enc α) (f : Enc β) : Enc (α × β) := ⟨@instDecidableEqProd α β e.dec f.dec, fun p => .tuple [e.py p.1, f.py p.2], fun p => .tup [e.d p.1, f.d p.2], max e.dep f.dep + 1, fun a b h => by
    obtain ⟨a1, a2⟩ := a; obtain ⟨b1, b2⟩ := b
    simp only [PyData.eqv, PyData.eqvAll]
    rw [e.eqv _ _ (e.dec a1 b1), f.eqv _ _ (f.dec a2 b2)]
    by_cases h1 : a1 = b1 <;> by_cases h2 : a2 = b2 <;> simp [h1, h2], fun a => by
    simp only [PyData.depth, PyData.depthAll]
    have h1 := e.depth a.1
    have h2 := f.depth a.2
    omega⟩

section
variable {C : Cx} {σ : St} {Φ : Out → St → Prop}
def Vs {α : Type} (e : Enc α) (C : Cx) (σ : St) (d : D) (a : α) : Prop := Vw C σ d (e.py a)
theorem Vs.int {i : Int} : Vs encInt C σ (.int i) i := Vw.int i
theorem VwL.map {α : Type} {e : Enc α} {f : α → D} (h : ∀ a, Vs e C σ (f a) a) : ∀ l : List α, VwL C σ (l.map f) (l.map e.py)
  | [] => .nil
  | a :: l => .cons (h a) (VwL.map h l)
theorem Vs.list {α : Type} {e : Enc α} {f : α → D} {l : List α} (h : ∀ a, Vs e C σ (f a) a) : Vs (encList e) C σ (.list (l.map f)) l := Vw.list (VwL.map h l)
theorem Vs.nums {l : List Int} : Vs (encList encInt) C σ (.list (zs l)) l := Vs.list fun _ => .int
theorem Vs.tup {α β : Type} {e : Enc α} {f : Enc β} {d1 d2 : D} {a : α} {b : β} (h1 : Vs e C σ d1 a) (h2 : Vs f C σ d2 b) : Vs (encPair e f) C σ (.tup [d1, d2]) (a, b) := Vw.tup (.cons h1 (.cons h2 .nil))
theorem Cm.eqD {α : Type} {e : Enc α} {d1 d2 : D} {a b : α} (h1 : Vs e C σ d1 a) (h2 : Vs e C σ d2 b) (hd : e.dep ≤ 20) : CmpSem C σ .Eq d1 d2 (@decide (a = b) (e.dec a b)) := fun K F s v1 v2 Q E X r1 r2 hQ => by
  obtain ⟨⟨as, q1⟩, c1⟩ := h1.reads X r1
  obtain ⟨⟨bs, q2⟩, c2⟩ := h2.reads X r2
  have e1 := e.depth a
  have hu := X.ok.rm.un
  refine SeqAt.compareEq_reads q1 q2 c1 c2 (by have := Nat.min_le_left (e.py a).depth (e.py b).depth; omega) ?_
  rw [e.eqv]
  exact hQ F _ _ X (Fle.refl _) (.bool _)
theorem Cm.neD {α : Type} {e : Enc α} {d1 d2 : D} {a b : α} (h1 : Vs e C σ d1 a) (h2 : Vs e C σ d2 b) (hd : e.dep ≤ 20) : CmpSem C σ .NotEq d1 d2 (!@decide (a = b) (e.dec a b)) := fun K F s v1 v2 Q E X r1 r2 hQ => by
  obtain ⟨⟨as, q1⟩, c1⟩ := h1.reads X r1
  obtain ⟨⟨bs, q2⟩, c2⟩ := h2.reads X r2
  have e1 := e.depth a
  have hu := X.ok.rm.un
  refine SeqAt.compareNe_reads q1 q2 c1 c2 (by have := Nat.min_le_left (e.py a).depth (e.py b).depth; omega) ?_
  rw [e.eqv]
  exact hQ F _ _ X (Fle.refl _) (.bool _)

theorem countP_ints {vs : List Value} {ns : List Int} {x : Int} (h : IntsAre vs ns) : vs.countP (fun y => match y with | .int a _ => a == x | _ => false) = ns.count x := by
  induction h with
  | nil => rfl
  | cons n t h ih => rw [List.countP_cons, List.count_cons, ih]
theorem eqGives_items {vs : List Value} {ns : List Int} {x : Int} {t : Tok} (h : IntsAre vs ns) : ∀ y, y ∈ vs.toArray → MeetsSeq.EqGives y (.int x t) (match y with | .int a _ => a == x | _ => false) := by
  intro y hy
  have hy' : y ∈ vs := by simpa using hy
  have : ∃ a u, y = .int a u := by
    clear hy
    induction h with
    | nil => cases hy'
    | cons n t h ih =>
      rcases List.mem_cons.mp hy' with rfl | hy'
      · exact ⟨_, _, rfl⟩
      · exact ih hy'
  obtain ⟨a, u, rfl⟩ := this
  exact MeetsSeq.EqGives.int a x u t
theorem Ev.count {o e : Expr} {apos pos : Pos} {d : D} {ns : List Int} {x : Int} (ho : Ev C σ o d) (hi : Items C σ d (zs ns)) (he : Ev C σ e (.int x))
    (hbase : attributeBase o "count" C.env (eval o C.env) = eval o C.env := by rfl)
    (hfew : ((backTo pos (starEach [e] C.env)).all (fun x => !x.1) && (backToKw pos (keywordEach [] C.env)).all (fun x => x.1.isSome) && decide (([e] : List Expr).length + ([] : List Keyword).length + (if ([] : List Keyword).isEmpty then 0 else 1) < 30)) = true := by rfl)
    (hline : (apos.endLine == pos.line) = true := by rfl) (htrees : backTo pos (starEach [e] C.env) = [(false, eval e C.env)] := by rfl) :
    Ev C σ (.Call (.Attribute o "count" apos) [e] [] pos) (.int (ns.count x)) := fun K F s Q E X hQ => by
  refine wpAny_Call_method (T := "list") (id := "list.count") hbase hfew hline PySem.F.plainAttrs_list PySem.F.slot_list_count PySem.F.type_list_count (ho K F s _ E X fun F1 v s1 X1 g1 r1 => ?_)
  obtain ⟨a, vs, n, rfl, h1, h2, h3⟩ := hi.at X1 r1
  refine ⟨⟨_, h1, rfl⟩, fun b hb => by cases hb; exact ⟨_, h1, rfl⟩, ?_⟩
  rw [htrees]
  refine P.count_list (he K F1 s1 _ E X1 fun F2 w s2 X2 g2 r2 => ?_)
  obtain ⟨t, rfl⟩ := r2.int_inv
  obtain ⟨a', vs', n', e', k1, k2, k3⟩ := hi.at X2 (r1.mono g2)
  cases e'
  refine ⟨_, _, _, k1, eqGives_items k2.ints, ?_⟩
  rw [show vs'.toArray.toList = vs' from rfl, countP_ints k2.ints]
  exact hQ F2 _ _ (X2.toks _) (g1.trans g2) (.int _ _)
theorem intsAre_get {vs : List Value} {ns : List Int} (h : IntsAre vs ns) : ∀ (m : Nat) (hm : m < vs.length), ∃ (hn : m < ns.length) (t : Tok), vs[m] = .int ns[m] t := by
  induction h with
  | nil => intro m hm; simp at hm
  | cons n t h ih =>
    intro m hm
    cases m with
    | zero => exact ⟨by simp, t, rfl⟩
    | succ m =>
      obtain ⟨h1, u, h2⟩ := ih m (by simpa using hm)
      exact ⟨by simpa using h1, u, by simpa using h2⟩
theorem Ev.index {o e : Expr} {apos pos : Pos} {d : D} {ns : List Int} {x : Int} {j : Nat} (ho : Ev C σ o d) (hi : Items C σ d (zs ns)) (he : Ev C σ e (.int x)) (hj : ns[j]? = some x) (hlt : ∀ m, m < j → ns[m]? ≠ some x)
    (hbase : attributeBase o "index" C.env (eval o C.env) = eval o C.env := by rfl)
    (hfew : ((backTo pos (starEach [e] C.env)).all (fun x => !x.1) && (backToKw pos (keywordEach [] C.env)).all (fun x => x.1.isSome) && decide (([e] : List Expr).length + ([] : List Keyword).length + (if ([] : List Keyword).isEmpty then 0 else 1) < 30)) = true := by rfl)
    (hline : (apos.endLine == pos.line) = true := by rfl) (htrees : backTo pos (starEach [e] C.env) = [(false, eval e C.env)] := by rfl) :
    Ev C σ (.Call (.Attribute o "index" apos) [e] [] pos) (.int j) := fun K F s Q E X hQ => by
  refine wpAny_Call_method (T := "list") (id := "list.index") hbase hfew hline PySem.F.plainAttrs_list PySem.F.slot_list_index PySem.F.type_list_index (ho K F s _ E X fun F1 v s1 X1 g1 r1 => ?_)
  obtain ⟨a, vs, n, rfl, h1, h2, h3⟩ := hi.at X1 r1
  refine ⟨⟨_, h1, rfl⟩, fun b hb => by cases hb; exact ⟨_, h1, rfl⟩, ?_⟩
  rw [htrees]
  refine P.index_list (he K F1 s1 _ E X1 fun F2 w s2 X2 g2 r2 => ?_)
  obtain ⟨t, rfl⟩ := r2.int_inv
  obtain ⟨a', vs', n', e', k1, k2, k3⟩ := hi.at X2 (r1.mono g2)
  cases e'
  have hlen := k2.ints.length
  obtain ⟨hj1, hj2⟩ := List.getElem?_eq_some_iff.mp hj
  refine ⟨vs'.toArray, n', _, j, by rw [List.size_toArray]; omega, k1, eqGives_items k2.ints, by omega, ?_, fun m hm hmj => ?_, ?_⟩
  · obtain ⟨q1, u, q2⟩ := intsAre_get k2.ints j (by omega)
    simp only [List.getElem_toArray, q2, hj2, beq_self_eq_true]
  · obtain ⟨q1, u, q2⟩ := intsAre_get k2.ints m (by simpa using hm)
    simp only [List.getElem_toArray, q2]
    have := hlt m hmj
    rw [List.getElem?_eq_getElem q1] at this
    simpa using fun e => this (by rw [e])
  · exact hQ F2 _ _ (X2.toks _) (g1.trans g2) (.int _ _)
end
end Mine
end

section
set_option Elab.async false
set_option linter.unusedVariables false
set_option linter.unusedSimpArgs false
namespace Mine
open PySem PySem.W PyProof.Rows PySem.Calls

theorem Room.mono {A : Around} {n m : Nat} (h : Room A m) (hn : n ≤ m) : Room A n := ⟨h.hh, by have := h.dp; omega, by have := h.un; omega⟩
theorem Room.deeper {A : Around} {n : Nat} {env : Env} (h : Room A (n + 1)) : Room (A.deeper env) n := ⟨h.hh, by have := h.dp; show A.depth + 1 + 3 * n + 20 < _; omega, by have := h.un; show A.units + 3 + 40 * n + 200 < _; omega⟩
theorem Room.in1 {A : Around} {n : Nat} (h : Room A (n + 1)) : Room A.in1 n := ⟨h.hh, by have := h.dp; show A.depth + 3 * n + 20 < _; omega, by have := h.un; show A.units + 1 + 40 * n + 200 < _; omega⟩

def FnF (F : Fz) (f : Addr) (fd : FuncData) : Prop := (∃ o, F f = some o ∧ o.data = .func fd) ∧ ∃ c o vs t, fd.code = .ref c ∧ F c = some o ∧ o.data = .fields vs ∧ vs[1]? = some (.str fd.qualname t)
theorem FnF.mono {F F' : Fz} {f : Addr} {fd : FuncData} (h : FnF F f fd) (g : Fle F F') : FnF F' f fd := by
  obtain ⟨⟨o, h1, h2⟩, c, o', vs, t, h3, h4, h5, h6⟩ := h
  exact ⟨⟨o, g _ _ h1, h2⟩, c, o', vs, t, h3, g _ _ h4, h5, h6⟩

structure CallSem (G : Gx) (n : Nat) (P : Pred) (f : Addr) (pas : Mu) (ds : List D) (R : D → Mu → Prop) : Prop where
  fn : ∀ K F, Fle G.hb.get? F → P K F → ∃ fd o, F f = some o ∧ o.data = .func fd
  sem : ∀ A K F s vs Q E, Room A n → P K F → Am G K pas F s → RepL F vs ds →
    (∀ F' v s' d mu, R d mu → Am G K mu F' s' → Fle F F' → Rep F' v d → Q v s') → wpAny G.M A (call (.ref f) vs) Q E s
theorem CallSem.mono {G : Gx} {n m : Nat} {P P' : Pred} {f : Addr} {pas : Mu} {ds : List D} {R R' : D → Mu → Prop} (h : CallSem G n P f pas ds R) (hn : n ≤ m) (hP : ∀ K F, P' K F → P K F) (hR : ∀ d mu, R d mu → R' d mu) : CallSem G m P' f pas ds R' :=
  ⟨fun K F hb hp => h.fn K F hb (hP _ _ hp), fun A K F s vs Q E hr hp X r hQ => h.sem A K F s vs Q E (hr.mono hn) (hP _ _ hp) X r fun F' v s' d mu hr => hQ F' v s' d mu (hR _ _ hr)⟩

theorem lookup_zip {F : Fz} : ∀ {ns : List Str} {vs : List Value} {ds : List D} {x : Str} {d : D}, RepL F vs ds → (ns.zip ds).lookup x = some d → ∃ v, (x, v) ∈ ns.zip vs ∧ Rep F v d
  | [], _, _, _, _, _, h => by cases h
  | n :: ns, _, _, x, d, .nil, h => by cases h
  | n :: ns, _, _, x, d, .cons (v := v) h t, e => by
    rw [List.zip_cons_cons, List.lookup_cons] at e
    cases hb : x == n with
    | true =>
      rw [hb] at e
      simp only [Option.some.injEq] at e
      subst e
      rw [beq_iff_eq.mp hb]
      exact ⟨v, .head _, h⟩
    | false =>
      rw [hb] at e
      obtain ⟨w, h1, h2⟩ := lookup_zip t e
      exact ⟨w, .tail _ h1, h2⟩
theorem lookup_of_mem {α : Type} : ∀ {l : List (Str × α)} {x : Str} {v : α}, (l.map (·.1)).Nodup → (x, v) ∈ l → l.lookup x = some v
  | (k, w) :: l, x, v, nd, h => by
    rw [List.map_cons, List.nodup_cons] at nd
    rw [List.lookup_cons]
    rcases List.mem_cons.mp h with e | h
    · cases e; simp
    · have : (x == k) = false := beq_eq_false_iff_ne.mpr fun e => nd.1 (List.mem_map.mpr ⟨(x, v), h, e⟩)
      rw [this]
      exact lookup_of_mem nd.2 h
theorem zip_keys {α : Type} : ∀ (ns : List Str) (vs : List α), ((ns.zip vs).map (·.1)).Sublist ns
  | [], _ => by simp
  | _ :: _, [] => by simp
  | n :: ns, v :: vs => by
    rw [List.zip_cons_cons, List.map_cons]
    exact (zip_keys ns vs).cons_cons n
theorem lookup_rev {ns : List Str} {vs : List Value} {x : Str} {v : Value} (nd : ns.Nodup) (h : (x, v) ∈ ns.zip vs) : (ns.zip vs).reverse.lookup x = some v := by
  refine lookup_of_mem ?_ (List.mem_reverse.mpr h)
  rw [List.map_reverse]
  exact (List.reverse_perm _).nodup_iff.mpr (nd.sublist (zip_keys ns vs))

section
variable {G : Gx} {n : Nat} {P : Pred} {f : Addr} {fd : FuncData} {body : List Stmt} {ns : List Str} {ds : List D} {pas : Mu} {R : D → Mu → Prop}

def fnCx (G : Gx) (A : Around) (fd : FuncData) (f L : Addr) (n : Nat) (P : Pred) : Cx := { G := G, A := A.deeper (callEnv fd L f), env := callEnv fd L f, priv := [L], rm := n, ro := [], pre := P }
def fnCxC (G : Gx) (A : Around) (fd : FuncData) (f L : Addr) (n : Nat) (P : Pred) : Cx := { G := G, A := A.deeper (callEnvC fd L f), env := callEnvC fd L f, priv := L :: (cellsFrom (L + 1) fd.scope.names []).map (·.2), rm := n, ro := [], pre := P }

def Fin (R : D → Mu → Prop) (o : Out) (σ : St) : Prop := match o with | .ret d => R d σ.mu | .next => R .none σ.mu | _ => False

structure FnOk (G : Gx) (fd : FuncData) (body : List Stmt) (ns : List Str) (k : Nat) : Prop where
  body : fd.body = .stmts body
  bind : ∀ (s : Shared) (vs : List Value), (∀ a o, G.hb.get? a = some o → s.heap.get? a = some o) → vs.length = k → BindsTo s fd ⟨vs, []⟩ (ns.zip vs)
  nd : ns.Nodup
  kind : fd.scope.kind = .function
  co : fd.scope.isCoroutine = false
  gen : fd.scope.isGenerator = false
  gl : fd.globals = mainGlobals
  bu : fd.builtins = builtinsNs

theorem call_fn (hmon : P.Mon) (ok : FnOk G fd body ns ds.length) (hf : ∀ K F, Fle G.hb.get? F → P K F → FnF F f fd) (hcell : ∀ x ∈ fd.scope.names, x.2 ≠ .cell) (hloc : ∀ x ∈ ns, fd.scope.names.lookup x = some .local) (cv : List (Str × D))
    (hcv : ∀ K F, P K F → (∀ x ∈ fd.closure, ∃ o v, K x.2 = some o ∧ o.data = .cell v) ∧ ∀ x d, cv.lookup x = some d → ∃ c o v, fd.scope.names.lookup x = some .free ∧ fd.closure.lookup x = some c ∧ K c = some o ∧ o.data = .cell (some v) ∧ Rep F v d)
    (hpw : fd.closure.Pairwise fun x y => x.2 ≠ y.2) (hdis : ∀ x ∈ ns, cv.lookup x = none)
    (hb : ∀ A L, Room A (n + 1) → WP (fnCx G A fd f L n P) { vars := ns.zip ds ++ cv, mu := pas } body (Fin R)) : CallSem G (n + 1) P f pas ds R := by
  refine ⟨fun K F hbs hp => ?_, fun A K F s vs Q E hr hp X r hQ => ?_⟩
  · obtain ⟨⟨o, h1, h2⟩, _⟩ := hf K F hbs hp
    exact ⟨fd, o, h1, h2⟩
  · obtain ⟨⟨o, h1, h2⟩, c, oc, cvs, t, h3, h4, h5, h6⟩ := hf K F X.base hp
    have hl := r.length
    refine wpAny_call (codeAny_call_def (prog := G.prog) (w := G.w) (body := body) (binds := ns.zip vs) (by have := hr.dp; omega) (X.frz _ _ h1) h2 X.nl ⟨c, oc, cvs, t, h3, X.frz _ _ h4, h5, h6⟩ ok.body (ok.bind s vs (fun a o e => X.frz _ _ (X.base _ _ e)) hl) hcell
      (fun x hx => hloc _ (by obtain ⟨a, b⟩ := x; exact (List.of_mem_zip hx).1)) (fun h₀ hns hk => ?_) ok.co ok.gen ok.kind)
    have ns0 := hns
    have freshL : ∀ o, s.heap.get? s.heap.objs.size ≠ some o := fun o e => Nat.lt_irrefl _ (Heap.lt_size e)
    obtain ⟨hc1, hc2⟩ := hcv K F hp
    refine hb A s.heap.objs.size hr K F _ (fun f s' => match (Except.ok (Flow.ret (match f with | .ret v => v | _ => .none)) : Result) with | .ok (.ret v) => Q v s' | .ok _ => False | .error e => E e s') _ ?_ fun fl o F' s' σ' ho X' g hΦ => ?_
    · refine ⟨⟨ok.kind, ok.gl, ok.bu, hr.deeper, .head _, hpw, fun x hx e => ?_, hmon⟩, (X.grow (t := s.toks + (ns.zip vs).length) hk (Fle.refl _) (fun _ _ e => .inl e) fun a o e => hk _ _ (X.frz _ _ e)), fun a ha => ?_, fun x hx => ?_, ⟨_, ns0, fun x d e => ?_⟩, fun p hp ha => ?_, (fun p hp => nomatch hp), hp⟩
      · obtain ⟨o', v', q1, q2⟩ := hc1 x hx
        have e' : x.2 = s.heap.objs.size := e
        exact freshL _ (e' ▸ X.keep _ _ q1)
      · obtain rfl : a = s.heap.objs.size := by simpa [fnCx] using ha
        obtain ⟨oL, es, ep, eL, _⟩ := ns0
        exact ⟨X.fresh, X.freshK, oL, eL⟩
      · obtain ⟨o', v', q1, q2⟩ := hc1 x hx
        exact ⟨⟨v', o', hk _ _ (X.keep _ _ q1), q2⟩, .inr ⟨o', q1⟩⟩
      · have : ∀ {l r : List (Str × D)}, (l ++ r).lookup x = some d → l.lookup x = some d ∨ (l.lookup x = none ∧ r.lookup x = some d) := fun {l r} h => by
          induction l with
          | nil => exact .inr ⟨rfl, h⟩
          | cons a l ih =>
            rw [List.cons_append, List.lookup_cons] at h
            rw [List.lookup_cons]
            cases hb : x == a.1 with
            | true => rw [hb] at h; exact .inl h
            | false => rw [hb] at h; exact ih h
        rcases this e with e | ⟨_, e⟩
        · obtain ⟨v, q1, q2⟩ := lookup_zip r e
          refine ⟨v, ?_, q2⟩
          unfold VarAt
          rw [show (fnCx G A fd f s.heap.objs.size n P).env.kindOf x = some .local from hloc x (List.of_mem_zip q1).1]
          exact lookup_rev ok.nd q1
        · obtain ⟨c', o', v, q1, q2, q3, q4, q5⟩ := hc2 x d e
          refine ⟨v, ?_, q5⟩
          unfold VarAt
          rw [show (fnCx G A fd f s.heap.objs.size n P).env.kindOf x = some .free from q1]
          exact ⟨c', q2, o', hk _ _ (X.keep _ _ q3), q4⟩
      · obtain ⟨o', ho'⟩ := (X.mus p hp).1.some
        have : p.1 = s.heap.objs.size := by simpa [fnCx] using ha
        rw [this] at ho'
        exact freshL _ ho'
    · cases o with
      | next => cases fl <;> first | exact ho.elim | exact hQ F' .none s' .none σ'.mu hΦ X'.am g .none
      | brk => exact hΦ.elim
      | cont => exact hΦ.elim
      | ret d =>
        cases fl <;> first | exact ho.elim | skip
        exact hQ F' _ s' d σ'.mu hΦ X'.am g ho

theorem bindL_at {k : Str → Option NameKind} : ∀ {binds : List (Str × Value)} {m : Str → Option Value} {x : Str} {v : Value}, (binds.map (·.1)).Nodup → (x, v) ∈ binds → k x = some .local → bindL k binds m x = some v
  | (n, w) :: r, m, x, v, nd, h, hk => by
    rw [List.map_cons, List.nodup_cons] at nd
    have keep : ∀ {r : List (Str × Value)} {m : Str → Option Value}, x ∉ r.map (·.1) → bindL k r m x = m x := fun {r} => by
      induction r with
      | nil => intro m _; rfl
      | cons a r ih =>
        obtain ⟨n', w'⟩ := a
        intro m hx
        rw [List.map_cons, List.mem_cons, not_or] at hx
        unfold bindL
        rw [ih hx.2]
        split
        · exact if_neg hx.1
        · rfl
    unfold bindL
    rcases List.mem_cons.mp h with e | h
    · cases e
      rw [keep nd.1, if_pos hk]
      simp
    · exact bindL_at nd.2 h hk
theorem bindC_at {k : Str → Option NameKind} : ∀ {binds : List (Str × Value)} {m : Str → Option Value} {x : Str} {v : Value}, (binds.map (·.1)).Nodup → (x, v) ∈ binds → k x ≠ some .local → bindC k binds m x = some v
  | (n, w) :: r, m, x, v, nd, h, hk => by
    rw [List.map_cons, List.nodup_cons] at nd
    have keep : ∀ {r : List (Str × Value)} {m : Str → Option Value}, x ∉ r.map (·.1) → bindC k r m x = m x := fun {r} => by
      induction r with
      | nil => intro m _; rfl
      | cons a r ih =>
        obtain ⟨n', w'⟩ := a
        intro m hx
        rw [List.map_cons, List.mem_cons, not_or] at hx
        unfold bindC
        rw [ih hx.2]
        split
        · rfl
        · exact if_neg hx.1
    unfold bindC
    rcases List.mem_cons.mp h with e | h
    · cases e
      rw [keep nd.1, if_neg hk]
      simp
    · exact bindC_at nd.2 h hk

theorem cellsFrom_keys : ∀ (names : List (Str × NameKind)) (n m : Nat) (acc acc' : List (Str × Addr)), acc.map (·.1) = acc'.map (·.1) → (cellsFrom n names acc).map (·.1) = (cellsFrom m names acc').map (·.1)
  | [], _, _, _, _, h => h
  | (name, kind) :: r, n, m, acc, acc', h => by
    unfold cellsFrom
    split
    · exact cellsFrom_keys r _ _ _ _ (by simp [h])
    · exact cellsFrom_keys r _ _ _ _ h
theorem call_fnC (hmon : P.Mon) (ok : FnOk G fd body ns ds.length) (bind : ∀ vs : List Value, vs.length = ds.length → bindArgs fd ⟨vs, []⟩ = pure (ns.zip vs)) (hf : ∀ K F, Fle G.hb.get? F → P K F → FnF F f fd) (hclo : fd.closure = []) (hnd : ((cellsFrom 0 fd.scope.names []).map (·.1)).Nodup) (hkd : ∀ x ∈ ns, fd.scope.names.lookup x = some .local ∨ fd.scope.names.lookup x = some .cell)
    (hb : ∀ A L, Room A (n + 1) → WP (fnCxC G A fd f L n P) { vars := ns.zip ds, mu := pas } body (Fin R)) : CallSem G (n + 1) P f pas ds R := by
  refine ⟨fun K F hbs hp => ?_, fun A K F s vs Q E hr hp X r hQ => ?_⟩
  · obtain ⟨⟨o, h1, h2⟩, _⟩ := hf K F hbs hp
    exact ⟨fd, o, h1, h2⟩
  · obtain ⟨⟨o, h1, h2⟩, c, oc, cvs, t, h3, h4, h5, h6⟩ := hf K F X.base hp
    have hl := r.length
    have hkind : ∀ n, ∀ x ∈ ns.zip vs, fd.scope.names.lookup x.1 = some .local ∨ (fd.scope.names.lookup x.1 = some .cell ∧ ((cellsFrom n fd.scope.names []).lookup x.1).isSome = true) := fun n x hx => by
      obtain ⟨a, b⟩ := x
      rcases hkd a (List.of_mem_zip hx).1 with h | h
      · exact .inl h
      · obtain ⟨c, q, _⟩ := cellsFrom_has fd.scope.names n [] a (mem_of_lookup h)
        exact .inr ⟨h, by rw [q]; rfl⟩
    have ndz : ((ns.zip vs).map (·.1)).Nodup := ok.nd.sublist (zip_keys ns vs)
    refine wpAny_call (codeAny_call_cells (prog := G.prog) (w := G.w) (body := body) (binds := ns.zip vs) (by have := hr.dp; omega) (X.frz _ _ h1) h2 X.nl ⟨c, oc, cvs, t, h3, X.frz _ _ h4, h5, h6⟩ ok.body (bind vs hl) hclo (hkind _)
      (fun s1 hin => ?_) ok.co ok.gen ok.kind)
    obtain ⟨h', tk, rfl, hk⟩ := hin.done
    have ns0 : h'.Ns s.heap.objs.size _ := hin.toInCall.ns
    have freshL : ∀ a o, s.heap.objs.size ≤ a → s.heap.get? a ≠ some o := fun a o ha e => Nat.lt_irrefl _ (Nat.lt_of_lt_of_le (Heap.lt_size e) ha)
    have cellAt : ∀ y ∈ cellsFrom (s.heap.objs.size + 1) fd.scope.names [], s.heap.objs.size < y.2 ∧ ∃ v, h'.IsCell y.2 v := fun y hy => by
      refine ⟨hin.above y.1 y.2 hy, ?_⟩
      have q := lookup_of_mem (by rw [cellsFrom_keys _ _ 0 [] []]; exact hnd; rfl) hy
      exact ⟨_, hin.cell y.1 y.2 q⟩
    refine hb A s.heap.objs.size hr K F _ (fun f s' => match (Except.ok (Flow.ret (match f with | .ret v => v | _ => .none)) : Result) with | .ok (.ret v) => Q v s' | .ok _ => False | .error e => E e s') _ ?_ fun fl o F' s' σ' ho X' g hΦ => ?_
    · refine ⟨⟨ok.kind, ok.gl, ok.bu, hr.deeper, .head _, hin.apart, fun x hx e => ?_, hmon⟩, (X.grow (t := tk) hk (Fle.refl _) (fun _ _ e => .inl e) fun a o e => hk _ _ (X.frz _ _ e)), fun a ha => ?_, fun x hx => ?_, ⟨_, ns0, fun x d e => ?_⟩, fun p hp ha => ?_, (fun p hp => nomatch hp), hp⟩
      · exact Nat.lt_irrefl _ (e ▸ (cellAt x hx).1)
      · have hfr : s.heap.objs.size ≤ a ∧ ∃ o, h'.get? a = some o := by
          rcases List.mem_cons.mp ha with rfl | ha
          · obtain ⟨oL, es, ep, eL, _⟩ := ns0
            exact ⟨Nat.le_refl _, oL, eL⟩
          · obtain ⟨y, hy, rfl⟩ := List.mem_map.mp ha
            obtain ⟨q1, v, o, q2, q3⟩ := cellAt y hy
            exact ⟨Nat.le_of_lt q1, o, q2⟩
        refine ⟨?_, ?_, hfr.2⟩
        · cases e : F a with
          | none => rfl
          | some o => exact absurd (X.frz _ _ e) (freshL _ _ hfr.1)
        · cases e : K a with
          | none => rfl
          | some o => exact absurd (X.keep _ _ e) (freshL _ _ hfr.1)
      · exact ⟨(cellAt x hx).2, .inl (.tail _ (List.mem_map_of_mem hx))⟩
      · obtain ⟨v, q1, q2⟩ := lookup_zip r e
        refine ⟨v, ?_, q2⟩
        unfold VarAt
        rcases hkd x (List.of_mem_zip q1).1 with h | h
        · rw [show (fnCxC G A fd f s.heap.objs.size n P).env.kindOf x = some .local from h]
          exact bindL_at ndz q1 h
        · rw [show (fnCxC G A fd f s.heap.objs.size n P).env.kindOf x = some .cell from h]
          obtain ⟨c, q, _⟩ := cellsFrom_has fd.scope.names (s.heap.objs.size + 1) [] x (mem_of_lookup h)
          refine ⟨c, q, ?_⟩
          have := hin.cell x c q
          rw [bindC_at ndz q1 (by rw [show (callEnvC fd s.heap.objs.size f).kindOf x = some .cell from h]; intro e; cases e)] at this
          exact this
      · obtain ⟨o', ho'⟩ := (X.mus p hp).1.some
        have : s.heap.objs.size ≤ p.1 := by
          rcases List.mem_cons.mp ha with e | ha
          · exact Nat.le_of_eq e.symm
          · obtain ⟨y, hy, e⟩ := List.mem_map.mp ha
            exact e ▸ Nat.le_of_lt (cellAt y hy).1
        exact freshL _ _ this ho'
    · cases o with
      | next => cases fl <;> first | exact ho.elim | exact hQ F' .none s' .none σ'.mu hΦ X'.am g .none
      | brk => exact hΦ.elim
      | cont => exact hΦ.elim
      | ret d =>
        cases fl <;> first | exact ho.elim | skip
        exact hQ F' _ s' d σ'.mu hΦ X'.am g ho
end
end Mine
end

section
set_option Elab.async false
set_option linter.unusedVariables false
set_option linter.unusedSimpArgs false
namespace Mine
open PySem PySem.W PyProof.Rows PySem.Calls

section
variable {C : Cx} {σ : St} {Φ : Out → St → Prop}
theorem EvX.callS {x : Str} {p pos : Pos} {e : Expr} {es : List Expr} {f : Addr} {ds : List D} {pas oth : Mu} {n : Nat} {P : Pred} {R : D → Mu → Prop} (hf : Ev C σ (.Name x p) (.ref f)) (he : EvL C σ (e :: es) ds) (hσ : σ.mu.Perm (pas ++ oth)) (hc : CallSem C.G n P f pas ds R) (hn : n ≤ C.rm)
    (hP : ∀ K F s, Mo C K (σ.setMu (pas ++ oth)) F s → P (full F s.heap (pas.map (·.1))) F) (hs : starEach (e :: es) C.env = (false, eval e C.env) :: starEach es C.env := by rfl) :
    EvX C σ (.Call (.Name x p) (e :: es) [] pos) (fun d mu => ∃ mu', R d mu' ∧ mu = mu' ++ oth) := fun K F s Q E X hQ => by
  refine wpAny_Call_NameR (hf K F s _ E X fun F1 v s1 X1 g1 r1 => ?_)
  cases r1.ref_inv
  have X1p := X1.perm hσ.symm
  obtain ⟨fd, o, ho, hd⟩ := hc.fn _ F1 X1.am.base (hP K F1 s1 X1p)
  have hev := he pos K F1 s1
  rw [hs] at hev ⊢
  refine callWith_function (o := o) (fd := fd) (Calls.evalArgs_plain (hev _ E X1 fun F2 vs s2 X2 g2 r2 => ?_))
  have X2p := X2.perm hσ.symm
  refine ⟨⟨X2.am.frz _ _ (g2 _ _ ho), hd⟩, ?_⟩
  refine hc.sem C.A _ F2 s2 _ Q E (X.ok.rm.mono hn) (hP K F2 s2 X2p) (X2p.am.leave rfl) r2 fun F' v' s' d mu hR A' g' r' => ?_
  have B := X2p.back (pas := pas) (oth := oth) rfl A' g'
  exact hQ F' v' s' d _ ⟨mu, hR, rfl⟩ B ((g1.trans g2).trans g') r'
theorem EvX.callP {x : Str} {p pos : Pos} {e : Expr} {es : List Expr} {f : Addr} {ds : List D} {n : Nat} {P : Pred} {R : D → Mu → Prop} (hf : Ev C σ (.Name x p) (.ref f)) (he : EvL C σ (e :: es) ds) (hc : CallSem C.G n P f [] ds R) (hn : n ≤ C.rm)
    (hP : ∀ K F s, Mo C K σ F s → P (full F s.heap []) F) (hs : starEach (e :: es) C.env = (false, eval e C.env) :: starEach es C.env := by rfl) :
    EvX C σ (.Call (.Name x p) (e :: es) [] pos) (fun d mu => ∃ mu', R d mu' ∧ mu = mu' ++ σ.mu) :=
  EvX.callS (pas := []) (oth := σ.mu) hf he (List.Perm.refl _) hc hn (fun K F s X => hP K F s X) hs
def Pure (d : D) (d' : D) (mu : Mu) : Prop := d' = d ∧ mu = []
theorem Ev.call {x : Str} {p pos : Pos} {e : Expr} {es : List Expr} {f : Addr} {ds : List D} {n : Nat} {P : Pred} {d : D} (hf : Ev C σ (.Name x p) (.ref f)) (he : EvL C σ (e :: es) ds) (hc : CallSem C.G n P f [] ds (Pure d)) (hn : n ≤ C.rm)
    (hP : ∀ K F s, Mo C K σ F s → P (full F s.heap []) F) (hs : starEach (e :: es) C.env = (false, eval e C.env) :: starEach es C.env := by rfl) : Ev C σ (.Call (.Name x p) (e :: es) [] pos) d :=
  Ev.of_just (EvX.mono (EvX.callP hf he hc hn hP hs) fun d' mu ⟨mu', ⟨h1, h2⟩, h3⟩ => ⟨h1, by rw [h3, h2]; rfl⟩)

theorem WP.forIt {target : Expr} {y : Str} {yp : Pos} {body orelse ss : List Stmt} {pos : Pos} {ds : List D} {it : Addr} {PO : Nat → Obj → Prop} (I : Nat → St → Prop)
    (hit : ∀ σ k, I k σ → σ.vars.lookup y = some (.ref it)) (h0 : I 0 σ) (hmu : ∀ σ k, I k σ → σ.mu = []) (τ : D → St → St) (hτ : ∀ d σ m, τ d (σ.setMu m) = (τ d σ).setMu m) (hτm : ∀ d σ, (τ d σ).mu = σ.mu) (hasg : ∀ d σ, Asg C σ target d (τ d σ))
    (turn : ∀ k d σ, ds[k]? = some d → I k σ → WP C (τ d σ) body fun o σ' => match o with | .next => I (k + 1) σ' | _ => False)
    (done : ∀ σ, I ds.length σ → WP C σ orelse fun o σ' => match o with | .next => WP C σ' ss Φ | o => Φ o σ')
    (hs : ∀ x, foldedSetIterable (.Name y yp) C.env x = pure x := by intro _; rfl) (ht : ∀ it v, letOwnedTupleGo target it v = pure () := by intro _ _; rfl) (hd : (y == ("__debug__" : Str)) = false := by decide) (hd2 : (y == ("__classdict__" : Str)) = false := by decide)
    {K F : Fz} {s : Shared} {Q : Flow → Shared → Prop} {E : Value → Shared → Prop} (hX : Mo C K (σ.setMu [(it, .obj (PO 0))]) F s) (IT : ∀ F', Fle F F' → IterOk C.G C.A K F' it ds PO)
    (hQ : ∀ f o F' s' σ', OutIs F' f o → Mo C K σ' F' s' → Fle F F' → Φ o σ' → Q f s') : wpAny C.G.M C.A (execs (.For target (.Name y yp) body orelse pos :: ss) C.env) Q E s := by
  refine wpAny_execs_cons (wpAny_For ((Ev.name (p := yp) (σ := σ.setMu [(it, .obj (PO 0))]) (hit σ 0 h0) hd hd2) K F s _ _ hX fun F1 v s1 X1 g1 r1 => ?_) hs)
  cases r1.ref_inv
  have hit1 : ∃ o, s1.heap.get? it = some o ∧ PO 0 o := (X1.am.mus (it, .obj (PO 0)) (.head _)).1
  refine (IT F1 g1).self 0 s1 _ _ hit1 ?_
  obtain ⟨c1, c2⟩ := X1.apartMu (p := (it, .obj (PO 0))) (.head _)
  refine codeAny_forLoop (prog := C.G.prog) (w := C.G.w) (fun n s' => ∃ k σ' F', n + k = ds.length ∧ I k σ' ∧ Mo C K (σ'.setMu [(it, .obj (PO k))]) F' s' ∧ Fle F1 F') ?_ ds.length ⟨0, σ, F1, by simp, h0, X1, Fle.refl _⟩ (ht _)
  rintro n s3 ⟨k, σ3, F3, hn, hI, X3, g3⟩
  have hit3 : ∃ o, s3.heap.get? it = some o ∧ PO k o := (X3.am.mus (it, .obj (PO k)) (.head _)).1
  have IT1 := IT F1 g1
  have hm3 := hmu σ3 k hI
  cases n with
  | zero =>
    have hk : k = ds.length := by omega
    subst hk
    refine IT1.stop F3 s3 _ _ g3 X3.am.frz X3.am.keep hit3 fun h' t hs' => ?_
    have X4 := X3.dropExt (mu := []) (t := t) rfl hs'
    have X4' : Mo C K σ3 F3 { s3 with heap := h', toks := t } := by
      have e : (σ3.setMu [(it, MO.obj (PO ds.length))]).setMu [] = σ3 := by rw [← hm3]; rfl
      rw [e] at X4; exact X4
    refine done σ3 hI K F3 _ _ _ X4' fun f o F5 s5 σ5 ho X5 g5 hΦ => ?_
    cases o with
    | next =>
      cases f <;> first | exact ho.elim | skip
      exact hΦ K F5 s5 _ _ X5 fun f o F6 s6 σ6 ho6 X6 g6 h6 => hQ f o F6 s6 σ6 ho6 X6 (((g1.trans g3).trans g5).trans g6) h6
    | brk => cases f <;> first | exact ho.elim | exact hQ _ .brk F5 s5 σ5 ho X5 ((g1.trans g3).trans g5) hΦ
    | cont => cases f <;> first | exact ho.elim | exact hQ _ .cont F5 s5 σ5 ho X5 ((g1.trans g3).trans g5) hΦ
    | ret d => cases f <;> first | exact ho.elim | exact hQ _ (.ret d) F5 s5 σ5 ho X5 ((g1.trans g3).trans g5) hΦ
  | succ n =>
    have hk : k < ds.length := by omega
    refine IT1.item k ds[k] F3 s3 _ _ g3 X3.am.frz X3.am.keep (List.getElem?_eq_getElem hk) hit3 fun h' v t hs' hit' hr => ?_
    have X4 := X3.turn (pre := []) (post := []) (mo' := .obj (PO (k + 1))) (t := t) rfl hs' hit'
    refine hasg ds[k] _ K F3 _ v _ _ X4 hr fun s5 X5 => ?_
    rw [hτ] at X5
    obtain ⟨oi, hoi, ⟨oi', hoi', hPi⟩, hKi, X6⟩ := X5.hide (a := it) (mo := .obj (PO (k + 1))) (mu := []) rfl
    rw [hoi] at hoi'; cases hoi'
    rw [show ∀ m, ((τ ds[k] (σ3.setMu [(it, MO.obj (PO k))])).setMu m).setMu [] = τ ds[k] σ3 from fun m => by
      rw [hτ]; show (τ ds[k] σ3).setMu [] = _; rw [← hm3, ← hτm ds[k] σ3]; rfl] at X6
    refine turn k ds[k] σ3 (List.getElem?_eq_getElem hk) hI (K.put it oi) F3 s5 _ _ X6 fun f o F7 s7 σ7 ho X7 g7 hΦ => ?_
    have hi7 : s7.heap.get? it = some oi := X7.am.keep _ _ (Fz.put_self _ _ _)
    have X8 := X7.show hKi (mo := .obj (PO (k + 1))) ⟨oi, hi7, hPi⟩ c1 c2 (hX.ok.mon _ _ _ _ X5.pre (Fle.refl _) g7)
    cases o with
    | next =>
      cases f <;> first | exact ho.elim | skip
      have hm7 := hmu σ7 (k + 1) hΦ
      rw [hm7] at X8
      exact ⟨n, Nat.lt_succ_self n, k + 1, σ7, F7, by omega, hΦ, X8, g3.trans g7⟩
    | brk => exact hΦ.elim
    | cont => exact hΦ.elim
    | ret d => exact hΦ.elim

theorem call_iter {K F : Fz} {s : Shared} {v : Value} {ds : List D} {Q : Value → Shared → Prop} {E : Value → Shared → Prop} {G : Gx} {A : Around} (hh : A.handled = none) (S : Src K F v ds)
    (hF : ∀ a o, F a = some o → s.heap.get? a = some o) (hK : ∀ a o, K a = some o → s.heap.get? a = some o)
    (h : ∀ o P, o.isFreed = false → P 0 o → (∀ F', Fle F F' → IterOk G A K F' s.heap.objs.size ds P) → Q (.ref s.heap.objs.size) { s with heap := s.heap.push o }) : wpAny (model G.prog G.w) A (call (.builtin "iter") [v]) Q E s := by
  refine call_function_entry (by decide +kernel) (by decide +kernel) kdk_entry_iter (kdk_args_iter _) ?_
  unfold Builtin.«iter»
  refine wpAny_bind (m := someArgs "iter" 1 2 _) (wpAny_of_eq (a := [v]) (by first | rfl | kernel_rfl!) ?_)
  show wpAny _ _ (pyIter v >>= _) _ _ _
  refine wpAny_bind (pyIter_src (G := G) hh S hF hK fun o P h1 h2 h3 => ?_)
  refine wpAny_pure ⟨_, rfl, h o P h1 h2 fun F' hF' => ?_⟩
  exact (h3 A hh).mono (Fle.refl _) hF'
end
end Mine
end

section
/-! merging of rows, in plain Lean -/
namespace Mine

def free (rows : List (List Int)) (c : Int) : Bool := rows.all fun r => !decide (c ∈ r.tail)
def pick (rows : List (List Int)) : Option Int := (rows.filterMap List.head?).find? (free rows)
def strip1 (c : Int) (r : List Int) : List Int := if r.head? = some c then r.tail else r
def strip (c : Int) (rows : List (List Int)) : List (List Int) := rows.map (strip1 c)
def c3 : Nat → List (List Int) → List Int × List (List Int)
  | 0, rows => ([], rows)
  | n + 1, rows => match pick rows with
    | none => ([], rows)
    | some c => (c :: (c3 n (strip c rows)).1, (c3 n (strip c rows)).2)
def total (rows : List (List Int)) : Nat := (rows.map List.length).sum

theorem strip_total {c : Int} : ∀ {rows : List (List Int)}, total (strip c rows) ≤ total rows
  | [] => Nat.le_refl _
  | r :: rows => by
    have ih := strip_total (c := c) (rows := rows)
    unfold total strip at ih ⊢
    simp only [List.map_cons, List.sum_cons]
    have : (strip1 c r).length ≤ r.length := by
      unfold strip1
      split
      · simp
      · exact Nat.le_refl _
    omega
theorem strip_lt {c : Int} : ∀ {rows : List (List Int)}, c ∈ rows.filterMap List.head? → total (strip c rows) < total rows
  | [], h => by simp at h
  | [] :: rows, h => by
    have ih := strip_lt (c := c) (rows := rows) (by simpa using h)
    simpa [total, strip, strip1] using ih
  | (x :: r) :: rows, h => by
    have h1 := strip_total (c := c) (rows := rows)
    unfold total strip at h1 ⊢
    simp only [List.map_cons, List.sum_cons]
    by_cases e : x = c
    · subst e
      simp [strip1, -List.map_map]; omega
    · have ih := strip_lt (c := c) (rows := rows) (by simpa [Ne.symm e] using h)
      unfold total strip at ih
      simp [strip1, e, -List.map_map]; omega
theorem pick_mem {rows : List (List Int)} {c : Int} (h : pick rows = some c) : c ∈ rows.filterMap List.head? := List.mem_of_find?_eq_some h
theorem c3_fuel : ∀ {n m : Nat} {rows : List (List Int)}, total rows ≤ n → total rows ≤ m → c3 n rows = c3 m rows
  | 0, 0, _, _, _ => rfl
  | 0, m + 1, rows, h, _ => by
    have : pick rows = none := by
      cases e : pick rows with
      | none => rfl
      | some c => have := strip_lt (pick_mem e); omega
    simp [c3, this]
  | n + 1, 0, rows, _, h => by
    have : pick rows = none := by
      cases e : pick rows with
      | none => rfl
      | some c => have := strip_lt (pick_mem e); omega
    simp [c3, this]
  | n + 1, m + 1, rows, h1, h2 => by
    unfold c3
    cases e : pick rows with
    | none => rfl
    | some c =>
      have := strip_lt (pick_mem e)
      simp only
      rw [c3_fuel (n := n) (m := m) (by omega) (by omega)]
def mrg (rows : List (List Int)) : List Int × List (List Int) := c3 (total rows) rows
theorem mrg_some {rows : List (List Int)} {c : Int} (h : pick rows = some c) : mrg rows = (c :: (mrg (strip c rows)).1, (mrg (strip c rows)).2) := by
  unfold mrg
  have hl := strip_lt (pick_mem h)
  obtain ⟨k, hk⟩ : ∃ k, total rows = k + 1 := ⟨total rows - 1, by omega⟩
  rw [hk, c3, h]
  simp only
  rw [c3_fuel (n := k) (m := total (strip c rows)) (by omega) (Nat.le_refl _)]
theorem mrg_none {rows : List (List Int)} (h : pick rows = none) : mrg rows = ([], rows) := by
  unfold mrg
  cases total rows with
  | zero => rfl
  | succ k => rw [c3, h]
theorem pick_filter (rows : List (List Int)) : pick (rows.filter fun r => !r.isEmpty) = pick rows := by
  have h1 : (rows.filter fun r => !r.isEmpty).filterMap List.head? = rows.filterMap List.head? := by
    induction rows with
    | nil => rfl
    | cons r rows ih => cases r <;> simp [ih, List.filterMap_cons]
  have h2 : free (rows.filter fun r => !r.isEmpty) = free rows := by
    clear h1
    funext c
    unfold free
    induction rows with
    | nil => rfl
    | cons r rows ih =>
      cases r with
      | nil => simp [ih]
      | cons x r => simp [ih]
  unfold pick
  rw [h1, h2]
end Mine
end

section
set_option Elab.async false
set_option linter.unusedVariables false
set_option linter.unusedSimpArgs false
set_option maxRecDepth 100000
namespace Mine
open PySem PySem.W PyProof.Rows PySem.Calls

def nthSt (n : Nat) : Stmt := (PySem.Challenge.pw_sn0003_02.main.body[n]?).getD (.Pass ⟨0, 0, 0, 0⟩)
def pa (n : Nat) : Arguments := match nthSt n with | .FunctionDef _ a _ _ _ _ _ _ _ _ => a | _ => { posonlyargs := [], args := [], vararg := none, kwonlyargs := [], kw_defaults := [], kwarg := none, defaults := [] }
def bo (n : Nat) : List Stmt := match nthSt n with | .FunctionDef _ _ b _ _ _ _ _ _ _ => b | _ => []
def sc (n : Nat) : Scope := match nthSt n with | .FunctionDef _ _ _ _ _ _ s _ _ _ => s | _ => { kind := .function, names := [], isGenerator := false, isCoroutine := false }
abbrev fdN (n : Nat) (name qual : Str) (dV kV doc pm : Value) (an : Option Addr) (cdv ct : Value) : FuncData := fnX name qual (pa n) (bo n) (sc n) [] dV kV doc pm an cdv ct

section
variable {G : Gx} {f : Addr} {name qual : Str} {dV kV doc pm cdv ct : Value} {an : Option Addr}

theorem reduce_ok {T : Addr} {o : Obj} {m : Value} {n : Nat} (ho : G.hb.get? T = some o) (hs : o.data = .seq #[m] n) : FnOk G (fdN 3 name qual (.ref T) .none doc pm an cdv ct) (bo 3) ["function", "sequence", "initial"] 3 :=
  ⟨rfl, fun s vs hb h => by
    match vs, h with
    | [a, b, c], _ => exact BindsTo.of_defaults (T := T) (o := o) rfl (hb _ _ ho) hs rfl rfl, by decide, rfl, rfl, rfl, rfl, rfl⟩

theorem Ev.use {C : Cx} {σ : St} {e : Expr} {d : D} (h : Ev C σ e d) {K F : Fz} {s : Shared} {Q : Value → Shared → Prop} {E : Value → Shared → Prop} (X : Mo C K σ F s) (hQ : ∀ F' v s', Mo C K σ F' s' → Fle F F' → Rep F' v d → Q v s') : wpAny C.G.M C.A (eval e C.env) Q E s := h K F s Q E X hQ
theorem EvT.use {C : Cx} {σ : St} {e : Expr} {d : Bool} (h : EvT C σ e d) {K F : Fz} {s : Shared} {Q : Bool → Shared → Prop} {E : Value → Shared → Prop} (X : Mo C K σ F s) (hQ : ∀ F' s', Mo C K σ F' s' → Fle F F' → Q d s') : wpAny C.G.M C.A (isTrue e C.env (eval e C.env)) Q E s := h K F s Q E X hQ
theorem WP.use {C : Cx} {σ : St} {ss : List Stmt} {Φ : Out → St → Prop} (h : WP C σ ss Φ) {K F : Fz} {s : Shared} {Q : Flow → Shared → Prop} {E : Value → Shared → Prop} (X : Mo C K σ F s) (hQ : ∀ f o F' s' σ', OutIs F' f o → Mo C K σ' F' s' → Fle F F' → Φ o σ' → Q f s') : wpAny C.G.M C.A (execs ss C.env) Q E s := h K F s Q E X hQ
structure RedG (G : Gx) (mi : Addr) (om : Obj) : Prop where
  it1 : G.mg "iter" = none
  it2 : G.mb "iter" = some (.builtin "iter")
  m1 : G.mg "_initial_missing" = some (.ref mi)
  m2 : G.hb.get? mi = some om
  m3 : om.cls ≠ .type "list"
  m4 : om.cls ≠ .type "tuple"
def IsCont (d : D) : Prop := (∃ ds, d = .list ds) ∨ ∃ ds, d = .tup ds
theorem is_miss {M : Model} {A : Around} {s : Shared} {Q : Value → Shared → Prop} {E : Value → Shared → Prop} {x y : Addr} {ox oy : Obj} (hxy : x ≠ y) (hx : s.heap.get? x = some ox) (hy : s.heap.get? y = some oy) (hnt : oy.cls ≠ .type "tuple")
    (h : Q (.bool false) s) : wpAny M A (compareOp .Is (.ref x) (.ref y)) Q E s := by
  show wpAny M A (do return .bool (← isSame (.ref x) (.ref y))) Q E s
  refine wpAny_bind ?_
  show wpAny M A (if (x == y) = true then pure true else _) _ E s
  rw [if_neg (by simpa using hxy)]
  refine wpAny_bind (wpAny_load hx (wpAny_bind (wpAny_load hy ?_)))
  split
  · rename_i h1 _ _; exact absurd h1 hnt
  · exact wpAny_pure (wpAny_pure h)
theorem EvT.miss {C : Cx} {σ : St} {x y : Str} {p q r : Pos} {d : D} {mi : Addr} {om : Obj} (hx : Ev C σ (.Name x p) d) (hd : IsCont d) (hk : C.env.kindOf y = some .globalImplicit) (hy : (y == ("__debug__" : Str)) = false) (h1 : C.G.mg y = some (.ref mi)) (h2 : C.G.hb.get? mi = some om) (h3 : om.cls ≠ .type "list") (h4 : om.cls ≠ .type "tuple") :
    EvT C σ (.Compare (.Name x p) [.Is] [.Name y q] r) false := fun K F s Q E X hQ => by
  refine wpAny_isTrue_Compare1 (hx K F s _ E X fun F1 v s1 X1 g1 r1 => gName X1 hk h1 ?_ hy) rfl
  have hm := X1.am.base _ _ h2
  rcases hd with ⟨ds, rfl⟩ | ⟨ds, rfl⟩
  · obtain ⟨a, o, vs, rfl, e1, ⟨e2, n, rfl⟩, e3⟩ := r1.list_inv
    refine is_miss (fun e => ?_) (X1.am.frz _ _ e1) (X1.am.frz _ _ hm) h4 (wpAny_truthy_bool (hQ F1 s1 X1 g1))
    subst e
    rw [hm] at e1
    cases e1
    exact h3 rfl
  · obtain ⟨a, o, vs, rfl, e1, ⟨e2, n, rfl⟩, e3⟩ := r1.tup_inv
    refine is_miss (fun e => ?_) (X1.am.frz _ _ e1) (X1.am.frz _ _ hm) h4 (wpAny_truthy_bool (hQ F1 s1 X1 g1))
    subst e
    rw [hm] at e1
    cases e1
    exact h4 rfl


abbrev rdCx (G : Gx) (A : Around) (name qual : Str) (doc pm cdv ct : Value) (an : Option Addr) (T f L : Addr) (n : Nat) (P : Pred) : Cx := fnCx G A (fdN 3 name qual (.ref T) .none doc pm an cdv ct) f L n P
theorem reduce_body {A : Around} {L mi g : Addr} {om : Obj} {n m : Nat} {P : Pred} {ds : List D} {acc : Nat → D} {T : Addr} (RG : RedG G mi om) (h0 : IsCont (acc 0)) (hm : m ≤ n)
    (hg : ∀ k d, ds[k]? = some d → CallSem G m P g [] [acc k, d] (Pure (acc (k + 1)))) :
    WP (rdCx G A name qual doc pm cdv ct an T f L n P) { vars := [("function", .ref g), ("sequence", .list ds), ("initial", acc 0)], mu := [] } (bo 3) (Fin (Pure (acc ds.length))) := by
  intro K F s Q E X hQ
  refine wpAny_execs_cons (wpAny_Assign_Name (Call_Name1 (bName X rfl RG.it1 RG.it2 (callWith_bt (.inl ⟨_, rfl⟩) rfl (Calls.evalArgs_plain (Calls.spliced_cons (Ev.use (d := .list ds) (Ev.name rfl) X fun F1 v s1 X1 g1 r1 => Calls.spliced_nil ?_)))))))
  obtain ⟨a, o, vs, rfl, e1, e2, e3⟩ := r1.list_inv
  refine call_iter (G := G) X.ok.rm.hh (.list (.inl e1) e2 e3) X1.am.frz X1.am.keep fun oi PO hf hPO IT => ?_
  have X2 := X1.allocMu oi (.obj (PO 0)) s1.toks ⟨oi, Heap.get?_push_size _ hf, hPO⟩
  refine sto (.inl rfl) X2 (.ref _) fun s3 X3 => ?_
  refine wpAny_execs_cons (wpAny_If (EvT.use (EvT.miss (Ev.name rfl) h0 rfl rfl RG.m1 RG.m2 RG.m3 RG.m4) X3 fun F4 s4 X4 g4 => ?_))
  simp only [Bool.false_eq_true, if_false]
  refine WP.use (WP.set (x := "value") (.inl rfl) (Ev.name (d := acc 0) rfl) (WP.nil (Φ := fun o σ' => o = .next ∧ σ' = _) ⟨rfl, rfl⟩)) X4 fun f o F5 s5 σ5 ho X5 g5 hΦ => ?_
  obtain ⟨rfl, rfl⟩ := hΦ
  cases f <;> first | exact ho.elim | skip
  refine WP.forIt (Φ := Fin (Pure (acc ds.length))) (σ := { vars := [("value", acc 0), ("it", .ref s1.heap.objs.size), ("function", .ref g), ("sequence", .list ds), ("initial", acc 0)], mu := [] }) (it := s1.heap.objs.size) (PO := PO) (ds := ds)
    (fun k σ => σ.mu = [] ∧ σ.v "it" = some (.ref s1.heap.objs.size) ∧ σ.v "function" = some (.ref g) ∧ σ.v "value" = some (acc k))
    (fun σ k h => h.2.1) ⟨rfl, rfl, rfl, rfl⟩ (fun σ k h => h.1) (fun d σ => σ.set "element" d) (fun _ _ _ => rfl) (fun _ _ => rfl) (fun d σ => Asg.local rfl) (fun k d σ hk ⟨h1, h2, h3, h4⟩ => ?_) (fun σ ⟨h1, h2, h3, h4⟩ => ?_)
    (hX := X5) (IT := fun F' h => IT F' ((g4.trans g5).trans h)) (hQ := fun f o F' s' σ' ho X' g' hΦ => hQ f o F' s' σ' ho X' (((g1.trans g4).trans g5).trans g') hΦ)
  · have e1 : (σ.set "element" d).vars.lookup ("function" : Str) = some (.ref g) := h3
    have e2 : (σ.set "element" d).v "value" = some (acc k) := h4
    refine WP.set (.inl rfl) (Ev.call (d := acc (k + 1)) (Ev.name e1) (EvL.cons (Ev.name e2) (EvL.cons (Ev.name (d := d) rfl) EvL.nil)) (hg k d hk) hm fun K F s X => X.preFull (by simp)) (WP.nil ⟨h1, h2, h3, rfl⟩)
  · exact WP.nil (WP.ret (Ev.name h4) ⟨rfl, h1⟩)
theorem reduce_sem {mi g : Addr} {om : Obj} {n m : Nat} {P : Pred} {ds : List D} {acc : Nat → D} {T : Addr} {oT : Obj} {mm : Value} {nT : Nat} (RG : RedG G mi om) (hT : G.hb.get? T = some oT) (hT2 : oT.data = .seq #[mm] nT) (hF : FnF G.hb.get? f (fdN 3 name qual (.ref T) .none doc pm an cdv ct)) (h0 : IsCont (acc 0)) (hm : m ≤ n) (hmon : P.Mon)
    (hg : ∀ k d, ds[k]? = some d → CallSem G m P g [] [acc k, d] (Pure (acc (k + 1)))) : CallSem G (n + 1) P f [] [.ref g, .list ds, acc 0] (Pure (acc ds.length)) := by
  refine call_fn (fd := fdN 3 name qual (.ref T) .none doc pm an cdv ct) hmon (reduce_ok hT hT2) (fun K F hb _ => hF.mono hb) (show ∀ x ∈ (sc 3).names, _ by decide) (show ∀ x ∈ (["function", "sequence", "initial"] : List Str), (sc 3).names.lookup x = _ by decide) [] (fun K F _ => ⟨fun x hx => (nomatch hx), fun x d h => (nomatch h)⟩) List.Pairwise.nil (by simp) fun A L hr => ?_
  exact reduce_body RG h0 hm hg
end
end Mine
end

section
set_option Elab.async false
set_option linter.unusedVariables false
set_option linter.unusedSimpArgs false
set_option maxRecDepth 100000
namespace Mine
open PySem PySem.W PyProof.Rows PySem.Calls

abbrev Prs := List (Addr × List Int)
def ent (prs : Prs) : Mu := prs.map fun p => (p.1, MO.list (zs p.2))
def refs (prs : Prs) : List D := prs.map fun p => D.ref p.1
def rowsOf (prs : Prs) : List (List Int) := prs.map (·.2)
def ne (p : Addr × List Int) : Bool := !p.2.isEmpty
def stripP (c : Int) (prs : Prs) : Prs := prs.map fun p => (p.1, strip1 c p.2)
theorem ent_mem {prs : Prs} {p : Addr × List Int} (h : p ∈ prs) : (p.1, MO.list (zs p.2)) ∈ ent prs := List.mem_map.mpr ⟨p, h, rfl⟩
theorem ent_append (a b : Prs) : ent (a ++ b) = ent a ++ ent b := List.map_append
theorem zs_isEmpty (l : List Int) : (zs l).isEmpty = l.isEmpty := by cases l <;> rfl

section
variable {C : Cx}
theorem compOk0 {scope : Scope} (h1 : closureFor scope C.env = pure []) (h2 : scope.kind = .function) (h3 : ∀ y ∈ scope.names, y.2 = .local → scope.names.lookup y.1 = some .local) (h4 : ∀ y ∈ scope.names, y.2 ≠ .cell) : CompOk C scope [] :=
  ⟨h1, h2, h3, fun x c h => (nomatch h), fun x h => (nomatch h), List.Pairwise.nil, fun y _ hm => h4 _ hm rfl⟩
end

theorem filter_nil_all {cur : Prs} (h : cur.filter ne = []) : ∀ p ∈ cur, p.2 = [] := fun p hp => by
  have := List.filter_eq_nil_iff.mp h p hp
  simpa [ne] using this
theorem pick_all_nil {rows : List (List Int)} (h : ∀ r ∈ rows, r = []) : pick rows = none := by
  have : rows.filterMap List.head? = [] := by
    rw [List.filterMap_eq_nil_iff]
    intro r hr
    rw [h r hr]; rfl
  unfold pick
  rw [this]; rfl
theorem all_nil_eq {cur prs : Prs} (h : ∀ p ∈ cur, p.2 = []) (ha : cur.map (·.1) = prs.map (·.1)) : cur = prs.map fun p => (p.1, []) := by
  induction cur generalizing prs with
  | nil => cases prs with
    | nil => rfl
    | cons _ _ => simp at ha
  | cons p cur ih =>
    cases prs with
    | nil => simp at ha
    | cons q prs =>
      simp only [List.map_cons, List.cons.injEq] at ha ⊢
      refine ⟨?_, ih (fun p hp => h p (.tail _ hp)) ha.2⟩
      have := h p (.head _)
      obtain ⟨a, b⟩ := p
      simp only at this ha
      rw [this, ha.1]
theorem rowsOf_filter (cur : Prs) : rowsOf (cur.filter ne) = (rowsOf cur).filter fun r => !r.isEmpty := by
  unfold rowsOf
  induction cur with
  | nil => rfl
  | cons p cur ih =>
    rw [List.filter_cons, List.map_cons, List.filter_cons]
    by_cases h : ne p = true
    · rw [if_pos h, List.map_cons, ih, if_pos (show (!p.2.isEmpty) = true from h)]
    · rw [if_neg h, ih, if_neg (show ¬(!p.2.isEmpty) = true from h)]
theorem refs_isEmpty (prs : Prs) : (refs prs).isEmpty = prs.isEmpty := by cases prs <;> rfl
theorem heads_ne {S : Prs} (h : ∀ p ∈ S, ne p = true) : (rowsOf S).filterMap List.head? = S.map fun p => p.2.headD 0 := by
  induction S with
  | nil => rfl
  | cons p S ih =>
    have h1 := h p (.head _)
    obtain ⟨a, l⟩ := p
    cases l with
    | nil => simp [ne] at h1
    | cons x l =>
      have := ih fun p hp => h p (.tail _ hp)
      unfold rowsOf at this ⊢
      simp [this]

theorem refs_get {S : Prs} {k : Nat} {d : D} (h : (refs S)[k]? = some d) : ∃ p, S[k]? = some p ∧ d = .ref p.1 := by
  rw [refs, List.getElem?_map] at h
  obtain ⟨p, h1, h2⟩ := Option.map_eq_some_iff.mp h
  exact ⟨p, h1, h2.symm⟩
theorem head_get {l : List Int} (h : l ≠ []) : (zs l)[(0 : Int).toNat]? = some (.int (l.headD 0)) := by
  cases l with
  | nil => exact absurd rfl h
  | cons x l => rfl
theorem ne_nil {p : Addr × List Int} (h : ne p = true) : p.2 ≠ [] := fun e => by simp [ne, e] at h
theorem find_first {α : Type} {q : α → Bool} : ∀ {l : List α} {k : Nat} {x : α}, l[k]? = some x → q x = true → (∀ i, i < k → ∀ y, l[i]? = some y → q y = false) → l.find? q = some x
  | a :: l, 0, x, h, hq, _ => by
    simp only [List.getElem?_cons_zero, Option.some.injEq] at h
    subst h
    simp [hq]
  | a :: l, k + 1, x, h, hq, hp => by
    have h0 := hp 0 (Nat.succ_pos k) a rfl
    rw [List.find?_cons, h0]
    exact find_first (k := k) (by simpa using h) hq fun i hi y hy => hp (i + 1) (by omega) y (by simpa using hy)
theorem find_none {α : Type} {q : α → Bool} {l : List α} (h : ∀ i, i < l.length → ∀ y, l[i]? = some y → q y = false) : l.find? q = none := by
  rw [List.find?_eq_none]
  intro x hx
  obtain ⟨i, hi, rfl⟩ := List.getElem_of_mem hx
  rw [h i hi _ (List.getElem?_eq_getElem hi)]
  simp
theorem pick_at {S : Prs} (hS : ∀ p ∈ S, ne p = true) {k : Nat} {p : Addr × List Int} (hk : S[k]? = some p) (h1 : free (rowsOf S) (p.2.headD 0) = true) (h2 : ∀ i, i < k → ∀ p, S[i]? = some p → free (rowsOf S) (p.2.headD 0) = false) : pick (rowsOf S) = some (p.2.headD 0) := by
  unfold pick
  rw [heads_ne hS]
  refine find_first (k := k) (by rw [List.getElem?_map, hk]; rfl) h1 fun i hi y hy => ?_
  rw [List.getElem?_map] at hy
  obtain ⟨q, hq, rfl⟩ := Option.map_eq_some_iff.mp hy
  exact h2 i hi q hq
theorem pick_not {S : Prs} (hS : ∀ p ∈ S, ne p = true) (h2 : ∀ i, i < S.length → ∀ p, S[i]? = some p → free (rowsOf S) (p.2.headD 0) = false) : pick (rowsOf S) = none := by
  unfold pick
  rw [heads_ne hS]
  refine find_none fun i hi y hy => ?_
  rw [List.getElem?_map] at hy
  obtain ⟨q, hq, rfl⟩ := Option.map_eq_some_iff.mp hy
  exact h2 i (by simpa using hi) q hq
theorem free_iff {S : Prs} {c : Int} : free (rowsOf S) c = true ↔ ∀ (j : Nat) (p : Addr × List Int), S[j]? = some p → c ∉ p.2.tail := by
  unfold free rowsOf
  rw [List.all_map, List.all_eq_true]
  constructor
  · intro h j p hj
    have := h p (List.mem_of_getElem? hj)
    simpa using this
  · intro h p hp
    obtain ⟨j, hj, rfl⟩ := List.getElem_of_mem hp
    simpa using h j S[j] (List.getElem?_eq_getElem hj)
theorem filter_split {S1 : Prs} {p : Addr × List Int} : ∀ {post : Prs}, post.filter ne = p :: S1 → ∃ a b, post = a ++ p :: b ∧ (∀ q ∈ a, ne q = false) ∧ ne p = true ∧ b.filter ne = S1
  | [], h => by cases h
  | q :: post, h => by
    rw [List.filter_cons] at h
    by_cases hq : ne q = true
    · rw [if_pos hq] at h
      obtain ⟨rfl, rfl⟩ := List.cons.inj h
      exact ⟨[], post, rfl, by simp, hq, rfl⟩
    · rw [if_neg hq] at h
      obtain ⟨a, b, rfl, h1, h2, h3⟩ := filter_split h
      exact ⟨q :: a, b, rfl, List.forall_mem_cons.mpr ⟨by simpa using hq, h1⟩, h2, h3⟩
theorem stripP_empty {c : Int} : ∀ {a : Prs}, (∀ q ∈ a, ne q = false) → stripP c a = a
  | [], _ => rfl
  | q :: a, h => by
    have h1 := h q (.head _)
    obtain ⟨x, l⟩ := q
    cases l with
    | nil => rw [stripP, List.map_cons]; exact congrArg _ (stripP_empty fun q hq => h q (.tail _ hq))
    | cons y l => simp [ne] at h1
theorem stripP_append {c : Int} (a b : Prs) : stripP c (a ++ b) = stripP c a ++ stripP c b := List.map_append
theorem stripP_filter {c : Int} (cur : Prs) : (stripP c (cur.filter ne)).filter ne = (stripP c cur).filter ne := by
  induction cur with
  | nil => rfl
  | cons p cur ih =>
    rw [List.filter_cons]
    by_cases h : ne p = true
    · rw [if_pos h]
      show (List.filter ne ((p.1, strip1 c p.2) :: stripP c (cur.filter ne))) = List.filter ne ((p.1, strip1 c p.2) :: stripP c cur)
      rw [List.filter_cons, List.filter_cons, ih]
    · rw [if_neg h]
      have he : p.2 = [] := by simpa [ne] using h
      show _ = List.filter ne ((p.1, strip1 c p.2) :: stripP c cur)
      rw [List.filter_cons, ih, if_neg]
      simp [ne, he, strip1]
theorem rowsOf_strip (c : Int) (cur : Prs) : rowsOf (stripP c cur) = strip c (rowsOf cur) := by
  unfold rowsOf stripP strip
  rw [List.map_map, List.map_map]; rfl
theorem zs_snoc (l : List Int) (c : Int) : zs l ++ [.int c] = zs (l ++ [c]) := by simp [zs]

section
variable {G : Gx} {f : Addr} {name qual : Str} {dV kV doc pm cdv ct : Value} {an : Option Addr}
abbrev mgCx (G : Gx) (A : Around) (name qual : Str) (doc pm cdv ct : Value) (an : Option Addr) (f L : Addr) (n : Nat) (P : Pred) : Cx := fnCx G A (fdN 4 name qual .none .none doc pm an cdv ct) f L n P

theorem mrg_body {A : Around} {L : Addr} {n : Nat} {P : Pred} {prs : Prs} (hz : prs.length ≤ 1000) (hz2 : ∀ p ∈ prs, p.2.length ≤ 1000) (hok : ∀ r ∈ (mrg (rowsOf prs)).2, r = []) (hol : (mrg (rowsOf prs)).1.length ≤ 1000) :
    WP (mgCx G A name qual doc pm cdv ct an f L n P) { vars := [("sequences", .list (refs prs))], mu := ent prs } (bo 4)
      (Fin fun d mu => d = .list (zs (mrg (rowsOf prs)).1) ∧ mu = ent (prs.map fun p => (p.1, []))) := by
  refine WP.setX (.inl rfl) (EvN.list (ds := []) EvL.nil (by simp)) ?_
  rintro d mu ⟨fa, rfl, rfl⟩
  refine WP.while (fun n σ => ∃ (cur sub : Prs) (done : List Int), n = total (rowsOf cur) ∧ cur.map (·.1) = prs.map (·.1) ∧ sub.filter ne = cur.filter ne ∧ (∀ p ∈ sub, p ∈ cur) ∧ sub.length ≤ 1000 ∧ (∀ p ∈ cur, p.2.length ≤ 1000) ∧
    done ++ (mrg (rowsOf cur)).1 = (mrg (rowsOf prs)).1 ∧ (mrg (rowsOf cur)).2 = (mrg (rowsOf prs)).2 ∧ σ.mu = (fa, .list (zs done)) :: ent cur ∧ σ.v "result" = some (.ref fa) ∧ σ.v "sequences" = some (.list (refs sub))) (total (rowsOf prs))
    ⟨prs, prs, [], rfl, rfl, rfl, fun _ h => h, hz, hz2, rfl, rfl, rfl, rfl, rfl⟩ ?_
  rintro n σ ⟨cur, sub, done, rfl, hadr, hsub, hmem, hsz, hsz2, hout, hrest, hmu, hres, hseq⟩
  refine ⟨true, EvT.bool Ev.bool, fun _ => ?_, fun h => (nomatch h)⟩
  refine WP.setC rfl (EvC.plain (scope := _) sub (fun p => .ref p.1) ne (fun p => .ref p.1) (compOk0 rfl rfl (by decide) (by decide)) (.inl rfl) (Ev.name hseq) ItD.list (by omega) fun L p hp => ⟨?_, fun _ => Ev.name rfl⟩) ?_
  · exact EvT.cast (EvT.list (Ev.name rfl) (Items.ro (ds := zs p.2) (List.mem_append_left _ (hmu ▸ List.mem_cons_of_mem _ (ent_mem (hmem p hp)))))) (by unfold ne; rw [zs_isEmpty])
  rintro d mu ⟨sa, rfl, rfl⟩
  refine WP.frz [("sequences", .list (refs (cur.filter ne))), ("result", .ref fa)] (mu := (fa, .list (zs done)) :: ent cur) (by rw [← hmu]; rfl) (List.forall_mem_cons.mpr ⟨.inr ⟨rfl, by rw [← hsub]; rfl⟩, List.forall_mem_cons.mpr ⟨.inl hres, by simp⟩⟩) ?_
  have hS : ∀ p ∈ cur.filter ne, p ∈ cur ∧ ne p = true := fun p hp => List.mem_filter.mp hp
  have hpk : pick (rowsOf (cur.filter ne)) = pick (rowsOf cur) := by rw [rowsOf_filter, pick_filter]
  generalize hSd : cur.filter ne = S at hS hpk
  refine WP.ifs (EvT.not (EvT.list (Ev.name (d := .list (refs S)) rfl) Items.list)) (fun hb => ?_) (fun hb => ?_)
  · have hS0 : S = [] := by
      rw [refs_isEmpty] at hb
      cases S with
      | nil => rfl
      | cons _ _ => simp at hb
    have hall := filter_nil_all (hSd.trans hS0)
    have hpn := pick_all_nil (rows := rowsOf cur) (fun r hr => by
      obtain ⟨p, hp, rfl⟩ := List.mem_map.mp hr
      exact hall p hp)
    have hm := mrg_none hpn
    refine WP.frz [("result", .list (zs done))] (mu := ent cur) rfl (List.forall_mem_cons.mpr ⟨.inr ⟨rfl, rfl⟩, by simp⟩) (WP.ret (Ev.name rfl) ⟨?_, ?_⟩)
    · rw [← hout, hm]; simp
    · exact congrArg ent (all_nil_eq hall hadr)
  refine WP.nil ?_
  show WP _ _ _ _
  have hS1 : S ≠ [] := fun e => by subst e; simp at hb; exact hb rfl
  obtain ⟨c, hc⟩ : ∃ c, pick (rowsOf cur) = some c := by
    cases e : pick (rowsOf cur) with
    | some c => exact ⟨c, rfl⟩
    | none =>
      exfalso
      have hm := mrg_none e
      rw [hm] at hrest
      obtain ⟨p, hp⟩ := List.exists_mem_of_ne_nil S hS1
      have := hok p.2 (by rw [← hrest]; exact List.mem_map_of_mem (hS p hp).1)
      have h2 := (hS p hp).2
      rw [ne, this] at h2
      simp at h2
  have hcs := mrg_some hc
  have hSne : ∀ p ∈ S, ne p = true := fun p hp => (hS p hp).2
  have hdl : done.length < 100000 := by
    have : done.length ≤ (mrg (rowsOf prs)).1.length := by rw [← hout, List.length_append]; omega
    omega
  -- the choice
  refine WP.for (d := .list (refs S)) (ds := refs S) (fun k σ => σ.mu = (fa, .list (zs done)) :: ent cur ∧ σ.v "sequences" = some (.list (refs S)) ∧ σ.v "result" = some (.ref fa) ∧ ∀ i, i < k → ∀ p, S[i]? = some p → free (rowsOf S) (p.2.headD 0) = false)
    (Ev.name rfl) (.inl rfl) ⟨rfl, rfl, rfl, fun i hi => absurd hi (Nat.not_lt_zero i)⟩ (fun d σ => σ.set "s1" d) (fun _ _ _ => rfl) (fun _ _ => rfl) (fun d σ => Asg.local rfl) (fun k d σ hk hI => ?_) (fun σ hI => ?_)
  · obtain ⟨h1, h2, h3, h4⟩ := hI
    obtain ⟨p, hp, rfl⟩ := refs_get hk
    have hpS := List.mem_of_getElem? hp
    have hpm : (p.1, MO.list (zs p.2)) ∈ σ.mu := by rw [h1]; exact .tail _ (ent_mem (hS p hpS).1)
    refine WP.set (.inl rfl) (Ev.idx (d := .ref p.1) (Ev.name rfl) (Items.mu hpm) Ev.int (by decide) (head_get (ne_nil (hSne p hpS)))) ?_
    refine WP.for (d := .list (refs S)) (ds := refs S) (fun j σ => σ.mu = (fa, .list (zs done)) :: ent cur ∧ σ.v "sequences" = some (.list (refs S)) ∧ σ.v "result" = some (.ref fa) ∧ σ.v "candidate" = some (.int (p.2.headD 0)) ∧ ∀ i, i < j → ∀ q, S[i]? = some q → p.2.headD 0 ∉ q.2.tail)
      (Ev.name h2) (.inl rfl) ⟨h1, h2, h3, rfl, fun i hi => absurd hi (Nat.not_lt_zero i)⟩ (fun d σ => σ.set "s2" d) (fun _ _ _ => rfl) (fun _ _ => rfl) (fun d σ => Asg.local rfl) (fun j d σ hj hJ => ?_) (fun σ hJ => ?_)
    · obtain ⟨j1, j2, j3, j4, j5⟩ := hJ
      obtain ⟨q, hq, rfl⟩ := refs_get hj
      have hqS := List.mem_of_getElem? hq
      have hqm : (q.1, MO.list (zs q.2)) ∈ σ.mu := by rw [j1]; exact .tail _ (ent_mem (hS q hqS).1)
      refine WP.ifs (EvT.cmp (Ev.name (d := .int (p.2.headD 0)) j4) (Ev.cast (d' := .list (zs q.2.tail)) (Ev.of_new (EvN.from (n := 1) (Ev.name (d := .ref q.1) rfl) (Items.mu hqm) Ev.int)) (by rw [← List.map_drop, List.drop_one])) (Cm.in Items.list)) (fun hb => ?_) (fun hb => ?_)
      · refine WP.set (.inl rfl) Ev.none (WP.brk (WP.nil ⟨j1, j2, j3, fun i hi r hr => ?_⟩))
        by_cases hik : i < k
        · exact h4 i hik r hr
        · have : i = k := by omega
          subst this
          rw [hp] at hr; cases hr
          cases hf : free (rowsOf S) (p.2.headD 0) with
          | false => rfl
          | true => exact absurd (of_decide_eq_true hb) (free_iff.mp hf j q hq)
      · refine WP.nil (WP.nil ⟨j1, j2, j3, j4, fun i hi r hr => ?_⟩)
        by_cases hij : i < j
        · exact j5 i hij r hr
        · have : i = j := by omega
          subst this
          rw [hq] at hr; cases hr
          exact of_decide_eq_false hb
    · obtain ⟨j1, j2, j3, j4, j5⟩ := hJ
      have hfree : free (rowsOf S) (p.2.headD 0) = true := free_iff.mpr fun j q hq => j5 j (by rw [refs, List.length_map]; exact (List.getElem?_eq_some_iff.mp hq).1) q hq
      have hcp : p.2.headD 0 = c := by
        have := pick_at hSne hp hfree h4
        rw [hpk, hc] at this
        exact (Option.some.inj this).symm
      rw [hcp] at j4
      refine WP.brk ?_
      refine WP.ifs (Ev.isNone (Ev.name j4) (.inr ⟨c, rfl⟩)) (fun h => nomatch h) (fun _ => WP.nil ?_)
      refine WP.exprX (EvX.append (ds := zs done) (e := .int c) (mu' := (fa, .list (zs done ++ [.int c])) :: ent cur) (Ev.name j3) (Ev.name j4) (by rw [j1]; exact MuSet.head) (by simpa using hdl)) ?_
      rintro d mu ⟨rfl, rfl⟩
      -- the heads are struck
      refine WP.for (d := .list (refs S)) (ds := refs S) (fun k σ => ∃ pre post : Prs, cur = pre ++ post ∧ k = (pre.filter ne).length ∧ σ.mu = (fa, .list (zs (done ++ [c]))) :: (ent (stripP c pre) ++ ent post) ∧ σ.v "sequences" = some (.list (refs S)) ∧ σ.v "result" = some (.ref fa) ∧ σ.v "candidate" = some (.int c))
        (Ev.name j2) (.inl rfl) ⟨[], cur, rfl, rfl, by rw [← zs_snoc]; rfl, j2, j3, j4⟩ (fun d σ => σ.set "seq" d) (fun _ _ _ => rfl) (fun _ _ => rfl) (fun d σ => Asg.local rfl) (fun k d σ hk hK => ?_) (fun σ hK => ?_)
      · obtain ⟨pre, post, k1, k2, k3, k4, k5, k6⟩ := hK
        obtain ⟨q, hq, rfl⟩ := refs_get hk
        have hsp : S = pre.filter ne ++ post.filter ne := by rw [← hSd, k1, List.filter_append]
        obtain ⟨S1, hS1'⟩ : ∃ S1, post.filter ne = q :: S1 := by
          rw [hsp, k2, List.getElem?_append_right (Nat.le_refl _), Nat.sub_self] at hq
          cases hpf : post.filter ne with
          | nil => rw [hpf] at hq; simp at hq
          | cons a b => rw [hpf] at hq; simp at hq; exact ⟨b, by rw [hq]⟩
        obtain ⟨a, b, rfl, ha, hqn, hb1⟩ := filter_split hS1'
        have hqm : (q.1, MO.list (zs q.2)) ∈ σ.mu := by
          rw [k3]
          exact .tail _ (List.mem_append_right _ (ent_mem (by simp)))
        have hfin : ∀ σ' : St, σ'.mu = (fa, .list (zs (done ++ [c]))) :: (ent (stripP c pre) ++ (ent a ++ (q.1, MO.list (zs (strip1 c q.2))) :: ent b)) → σ'.v "sequences" = some (.list (refs S)) → σ'.v "result" = some (.ref fa) → σ'.v "candidate" = some (.int c) →
            ∃ pre post : Prs, cur = pre ++ post ∧ k + 1 = (pre.filter ne).length ∧ σ'.mu = (fa, .list (zs (done ++ [c]))) :: (ent (stripP c pre) ++ ent post) ∧ σ'.v "sequences" = some (.list (refs S)) ∧ σ'.v "result" = some (.ref fa) ∧ σ'.v "candidate" = some (.int c) := fun σ' e1 e2 e3 e4 => by
          refine ⟨pre ++ (a ++ [q]), b, by rw [k1]; simp, ?_, ?_, e2, e3, e4⟩
          · rw [List.filter_append, List.filter_append, List.length_append, ← k2, List.filter_eq_nil_iff.mpr fun x hx => by simp [ha x hx]]
            simp [hqn]
          · rw [e1, stripP_append, stripP_append, stripP_empty ha, ent_append, ent_append]
            simp [stripP, ent]
        refine WP.ifs (EvT.cmp (Ev.idx (d := .ref q.1) (Ev.name rfl) (Items.mu hqm) Ev.int (by decide) (head_get (ne_nil hqn))) (Ev.name k6) Cm.eq) (fun hb => ?_) (fun hb => ?_)
        · obtain ⟨x, l, hxl⟩ : ∃ x l, q.2 = x :: l := List.exists_cons_of_ne_nil (ne_nil hqn)
          have hx : x = c := by rw [hxl] at hb; simpa using hb
          refine WP.del0 (a := q.1) (e := .int x) (ds := zs l) (mu' := (fa, .list (zs (done ++ [c]))) :: (ent (stripP c pre) ++ (ent a ++ (q.1, MO.list (zs l)) :: ent b))) (Ev.name rfl) Ev.int ?_ (WP.nil (WP.nil (hfin _ ?_ k4 k5 k6)))
          · show MuSet σ.mu _ _ _ _
            rw [k3, ent_append]
            have : ent (q :: b) = (q.1, MO.list (.int x :: zs l)) :: ent b := by unfold ent; rw [List.map_cons, hxl]; rfl
            rw [this]
            exact .tail (.right (.right .head))
          · rw [hxl]; simp [strip1, hx]; rfl
        · refine WP.nil (WP.nil (hfin _ ?_ k4 k5 k6))
          show σ.mu = _
          have : strip1 c q.2 = q.2 := by
            unfold strip1
            rw [if_neg]
            intro e
            obtain ⟨x, l, hxl⟩ : ∃ x l, q.2 = x :: l := List.exists_cons_of_ne_nil (ne_nil hqn)
            rw [hxl] at e hb
            simp at e
            simp [e] at hb
          rw [this, k3, ent_append]
          rfl
      · obtain ⟨pre, post, k1, k2, k3, k4, k5, k6⟩ := hK
        have hpost : ∀ q ∈ post, ne q = false := by
          have : S.length = (pre.filter ne).length + (post.filter ne).length := by rw [← hSd, k1, List.filter_append, List.length_append]
          rw [refs, List.length_map] at k2
          have h0 : post.filter ne = [] := List.eq_nil_of_length_eq_zero (by omega)
          intro q hq
          simpa using List.filter_eq_nil_iff.mp h0 q hq
        refine WP.nil (WP.nil ⟨total (rowsOf (stripP c cur)), ?_, stripP c cur, stripP c S, done ++ [c], rfl, ?_, ?_, ?_, ?_, ?_, ?_, ?_, ?_, k5, ?_⟩)
        · rw [rowsOf_strip]; exact strip_lt (pick_mem hc)
        · rw [← hadr, stripP, List.map_map]; rfl
        · rw [← hSd]; exact stripP_filter cur
        · intro q hq
          obtain ⟨q', hq', rfl⟩ := List.mem_map.mp hq
          exact List.mem_map.mpr ⟨q', (hS q' hq').1, rfl⟩
        · rw [stripP, List.length_map, ← hSd, ← hsub]; exact Nat.le_trans (List.length_filter_le _ _) hsz
        · intro q hq
          obtain ⟨q', hq', rfl⟩ := List.mem_map.mp hq
          have := hsz2 q' hq'
          show (strip1 c q'.2).length ≤ 1000
          unfold strip1
          split
          · rw [List.length_tail]; omega
          · exact this
        · rw [rowsOf_strip, ← hout, hcs]; simp
        · rw [rowsOf_strip, ← hrest, hcs]
        · rw [k3, k1, stripP_append, stripP_empty hpost, ent_append]
        · rw [k4, stripP, refs, refs, List.map_map]; rfl
  · obtain ⟨h1, h2, h3, h4⟩ := hI
    exfalso
    have := pick_not hSne fun i hi => h4 i (by rw [refs, List.length_map]; exact hi)
    rw [hpk, hc] at this
    cases this
theorem mrg_sem {n : Nat} {P : Pred} {prs : Prs} (hmon : P.Mon) (hF : FnF G.hb.get? f (fdN 4 name qual .none .none doc pm an cdv ct)) (hz : prs.length ≤ 1000) (hz2 : ∀ p ∈ prs, p.2.length ≤ 1000) (hok : ∀ r ∈ (mrg (rowsOf prs)).2, r = []) (hol : (mrg (rowsOf prs)).1.length ≤ 1000) :
    CallSem G (n + 1) P f (ent prs) [.list (refs prs)] (fun d mu => d = .list (zs (mrg (rowsOf prs)).1) ∧ mu = ent (prs.map fun p => (p.1, []))) := by
  refine call_fn (fd := fdN 4 name qual .none .none doc pm an cdv ct) (ns := ["sequences"]) (body := bo 4) hmon ⟨rfl, fun s vs hb h => ?_, by decide, rfl, rfl, rfl, rfl, rfl⟩ (fun K F hb _ => hF.mono hb) (show ∀ x ∈ (sc 4).names, _ by decide) (show ∀ x ∈ (["sequences"] : List Str), (sc 4).names.lookup x = _ by decide) [] (fun K F _ => ⟨fun x hx => (nomatch hx), fun x d h => (nomatch h)⟩) List.Pairwise.nil (by simp) fun A L hr => ?_
  · match vs, h with
    | [a], _ => exact BindsTo.of_eq rfl
  · exact mrg_body hz hz2 hok hol
end
end Mine
end

section
open PySem PySem.W PySem.W.X PyProof.Rows PySem.Spec PySem.Calls
set_option Elab.async false
set_option maxRecDepth 100000
theorem Mine.st1 : isSubtype (.type "tuple") (.type "tuple") = pure true := by rw [isSubtype_type]; kernel_rfl
theorem Mine.st2 : isSubtype (.type "dict") (.type "dict") = pure true := by rw [isSubtype_type]; kernel_rfl
theorem Mine.st3 : isSubtype (.type "type") (.type "type") = pure true := by rw [isSubtype_type]; kernel_rfl
theorem Mine.it1 : isType (.type "object") = pure true := by rfl
theorem Mine.to1 : typeOf (.type "object") = pure (.type "type") := by kernel_rfl
theorem Mine.no1 : Builtin.notOverATurnedClass [Value.type "object"] = pure () := by kernel_rfl
theorem Mine.eb1 : Builtin.extendedBase [Value.type "object"] = pure (Value.type "object") := by kernel_rfl
theorem Mine.forIn_one {α β : Type} {M : Model} {A : Around} {E : Value → Shared → Prop} {s : Shared} {x : α} {b : β} {f : α → β → Sem (ForInStep β)} {Q : β → Shared → Prop}
    (h : wpAny M A (f x b) (fun r s' => match r with | .yield c => Q c s' | .done c => Q c s') E s) : wpAny M A (forIn [x] b f) Q E s := by
  rw [List.forIn_cons]
  refine wpAny_bind (wpAny_mono h (fun r s' h' => ?_) fun _ _ e => e)
  cases r with
  | done c => exact wpAny_pure h'
  | yield c =>
    dsimp only
    rw [List.forIn_nil]
    exact wpAny_pure h'
theorem Mine.forIn_next {α β : Type} {M : Model} {A : Around} {E : Value → Shared → Prop} {s : Shared} {x : α} {l : List α} {b : β} {f : α → β → Sem (ForInStep β)} {Q : β → Shared → Prop}
    (h : wpAny M A (f x b) (fun r s' => match r with | .yield c => wpAny M A (forIn l c f) Q E s' | .done c => Q c s') E s) : wpAny M A (forIn (x :: l) b f) Q E s := by
  rw [List.forIn_cons]
  refine wpAny_bind (wpAny_mono h (fun r s' h' => ?_) fun _ _ e => e)
  cases r with
  | done c => exact wpAny_pure h'
  | yield c => exact h'
theorem Mine.forIn_none {α β : Type} {M : Model} {A : Around} {E : Value → Shared → Prop} {s : Shared} {b : β} {f : α → β → Sem (ForInStep β)} {Q : β → Shared → Prop} (h : Q b s) : wpAny M A (forIn [] b f) Q E s := by
  rw [List.forIn_nil]
  exact wpAny_pure h
theorem Mine.lk1 : typeLookup (.type "dict") "__iter__" = pure (some (.builtin "dict.__iter__")) := by rw [typeLookup_type, builtinLookup_eq_fast]; kernel_rfl
section
variable {M : Model} {A : Around} {E : Value → Shared → Prop} {s : Shared}
theorem Mine.newObj_abs {T : String} {data : Data} {Q : Value → Shared → Prop} (hd : sizeOk data) (hf : Obj.isFreed { cls := .type T, dict := none, data } = false)
    (h : ∀ N H, H.get? N = some { cls := .type T, dict := none, data } → (∀ b o, s.heap.get? b = some o → H.get? b = some o) → s.heap.get? N = none → Q (.ref N) { s with heap := H }) : wpAny M A (newObj (.type T) data) Q E s :=
  wpAny_newObj_type (h _ _ (Heap.get?_push_size _ hf) (fun b o e => Heap.get?_push_of_some _ e) (Heap.get?_none_of_le (Nat.le_refl _))) hd
theorem Mine.alloc_abs {o : Obj} {Q : Addr → Shared → Prop} (hf : o.isFreed = false)
    (h : ∀ N H, H.get? N = some o → (∀ b o, s.heap.get? b = some o → H.get? b = some o) → s.heap.get? N = none → Q N { s with heap := H }) : wpAny M A (alloc o) Q E s :=
  wpAny_alloc (h _ _ (Heap.get?_push_size _ hf) (fun b o e => Heap.get?_push_of_some _ e) (Heap.get?_none_of_le (Nat.le_refl _)))
end
section
variable {M : Model} {A : Around} {E : Value → Shared → Prop} {s : Shared}
theorem Mine.setSlot_abs {a : Addr} {i : Nat} {v : Option Value} {o o' : Obj} {Q : Unit → Shared → Prop} (ho : s.heap.get? a = some o) (hi : i < 100) (ho' : { o with slots := (o.slots ++ Array.replicate (i + 1 - o.slots.size) none).setIfInBounds i v } = o') (hf : o'.isFreed = false)
    (h : ∀ H, H.get? a = some o' → Heap.SameBut a s.heap H → Q () { s with heap := H }) : wpAny M A (setSlotAt a i v) Q E s := by
  subst ho'
  unfold setSlotAt
  refine wpAny_ite_false (by rw [decide_eq_false_iff_not, sizeLine_eq]; omega) ?_
  exact wpAny_updatePart ho (h _ (Heap.get?_update_self _ ho hf) (Heap.SameBut.update ..))
theorem Mine.updateCls_abs {a : Addr} {f : ClassData → ClassData} {o o' : Obj} {c : ClassData} {Q : Unit → Shared → Prop} (ho : s.heap.get? a = some o) (hd : o.data = .cls c) (ho' : Obj.mapCls f o = o') (hf : o'.isFreed = false) (hp : o'.data.pastItsLine = none)
    (h : ∀ H, H.get? a = some o' → Heap.SameBut a s.heap H → Q () { s with heap := H }) : wpAny M A (updateCls a f) Q E s := by
  subst ho'
  unfold updateCls
  refine wpAny_bind (wpAny_load ho ?_)
  rw [hd]
  have hg := Heap.get?_update_self (Obj.mapCls f) ho hf
  exact wpAny_bind (wpAny_update ho (wpAny_lookBehind hg hp (h _ hg (Heap.SameBut.update ..))))
end
def Mine.A0 : Around := { handled := none, depth := 800, frames := none, guards := none, units := 5000 }
theorem Mine.wp_room {α : Type} {M : Model} {A : Around} {E : Value → Shared → Prop} {s : Shared} {t : Sem α} {Q : α → Shared → Prop} (hh : A.handled = none) (hd : A.depth ≤ 800) (hu : A.units ≤ 5000) (h : wpAny M Mine.A0 t Q E s) : wpAny M A t Q E s :=
  fun Γ p hΓ => h Γ p ⟨hΓ.1.trans hh, Nat.le_trans hΓ.2.1 hd, (fun l e => by cases e), (fun l e => by cases e), Nat.le_trans hΓ.2.2.2.2 hu⟩
end

section
open PySem PySem.W PySem.W.X PyProof.Rows PySem.Spec PySem.Calls
set_option Elab.async false
set_option maxRecDepth 100000
theorem Mine.sr1 : Builtin.Slots.bestBase [Value.type "object"] = pure (Value.type "object") := by kernel_rfl
theorem Mine.sr2 : Builtin.Slots.slotNamesOf (Value.type "object") = pure [] := by kernel_rfl
theorem Mine.sr3 : Builtin.Slots.givesDict (Value.type "object") = pure false := by kernel_rfl
theorem Mine.sr4 : Builtin.Slots.givesWeak (Value.type "object") = pure false := by kernel_rfl
theorem Mine.sr5 : Builtin.Slots.varSize (Value.type "object") = pure false := by kernel_rfl
theorem Mine.mg1 : Builtin.Slots.mangle (Str.ofString "K") (Str.ofString "obj") = Str.ofString "obj" := by kernel_rfl
theorem Mine.slots_read (prog : Program) (w : World) (A : Around) (s : Shared) (lA : Addr) (es : Array DictEntry) (e : DictEntry) (ot : Tok) (E : Value → Shared → Prop) (Q : Builtin.Slots.Plan → Shared → Prop)
   (ln : Nat) (h3 : s.heap.get? lA = some (seqObj "list" [Value.str "obj" ot].toArray ln)) (he : es.find? (·.key.isStr "__slots__") = some e) (hv : e.val = .ref lA) (hno : es.any (·.key.isStr "obj") = false) 
   (hQ : ∀ X, (∀ b o, s.heap.get? b = some o → X.get? b = some o) → Q { names := ["obj"], dict := false, weak := false, inherited := [] } { s with heap := X }) : wpAny (model prog w) A (Builtin.Slots.read "K" [Value.type "object"] es) Q E s := by
  unfold Builtin.Slots.read
  refine wpAny_bind (wpAny_of_eq Mine.sr1 (wpAny_bind (wpAny_of_eq Mine.sr2 (wpAny_bind (wpAny_of_eq Mine.sr3 (wpAny_bind (wpAny_of_eq Mine.sr4 (wpAny_bind (wpAny_of_eq Mine.sr5 ?_)))))))))
  dsimp only
  rw [he]
  dsimp only
  refine wpAny_bind (wpAny_rule ?_)
  rw [hv]
  refine wpAny_bind (m := asStr? _) (wpAny_bind (wpAny_load h3 (wpAny_pure ?_)))
  refine wpAny_ite_false rfl ?_
  refine wpAny_bind (collect_list ⟨_, h3, rfl, _, rfl⟩ ?_ (by size_fits))
  refine wpAny_ite_true rfl ?_
  refine wpAny_bind (wpAny_of_eq Mine.sr5 ?_)
  refine wpAny_ite_false rfl ?_
  refine wpAny_bind (m := forIn _ _ _) (Mine.forIn_one (x := Value.str "obj" ot) ?_)
  refine wpAny_bind (m := asStr? _) (wpAny_pure ?_)
  refine wpAny_of_eq (a := ForInStep.yield (false, false, #[Str.ofString "obj"], [])) (by kernel_rfl) ?_
  dsimp only
  rw [← Array.forIn_toList]
  refine wpAny_bind (m := forIn _ _ _) (Mine.forIn_one (x := Str.ofString "obj") ?_)
  dsimp only
  rw [Mine.mg1, hno]
  refine wpAny_ite_false (by kernel_rfl) (wpAny_ite_false rfl (wpAny_ite_false (by kernel_rfl) (wpAny_pure ?_)))
  dsimp only
  refine wpAny_bind (m := forIn _ _ _) (Mine.forIn_one (x := Value.type "object") (wpAny_ite_false (by kernel_rfl) (wpAny_pure ?_)))
  exact wpAny_pure (hQ _ fun b o e => (Heap.get?_update_other _ _ (fun h => Nat.lt_irrefl _ (h ▸ Heap.lt_size e))).trans (Heap.get?_push_of_some _ e))
def Mine.kcls (N : Addr) (qn : Str) (mro : List Value) (slots : Array (Option Value)) (hasDict : Bool) (sn : List Str) : Obj :=
  { cls := .type "type", dict := none, data := .cls { name := "K", bases := [.type "object"], mro, ns := N, qualname := qn, hasDict, slotNames := sn }, slots }
theorem Mine.mh1 : Builtin.mroHook? (.type "type") = pure none := by kernel_rfl
theorem Mine.ln1 : Builtin.linearize [Value.type "object"] mroOf = pure [Value.type "object"] := by kernel_rfl
theorem Mine.hfl (a : Addr) : List.filter (fun x => x != Value.ref a) [Value.ref a, Value.type "object"] = [Value.type "object"] := by
  rw [List.filter_cons, if_neg (by simp), List.filter_cons, if_pos (by rfl)]; rfl
theorem Mine.mb1 : Bind.madeBy (.type "object") = pure (some "object.__new__") := by kernel_rfl
end

section
open PySem PySem.W PySem.W.X PyProof.Rows PySem.Spec PySem.Calls
set_option Elab.async false
set_option maxRecDepth 100000
theorem Mine.k_mro {M : Model} {A : Around} {E : Value → Shared → Prop} {s : Shared} {a N : Addr} {qn : Str} {mro : List Value} {sl : Array (Option Value)} {hd : Bool} {sn : List Str} {Q : List Value → Shared → Prop}
    (ha : s.heap.get? a = some (Mine.kcls N qn mro sl hd sn)) (h : Q mro s) : wpAny M A (mroOf (.ref a)) Q E s := by
  show wpAny M A (do return (← classData a).mro) Q E s
  exact wpAny_bind (m := classData a) (wpAny_bind (wpAny_load ha (wpAny_pure (wpAny_pure h))))
theorem Mine.k_lookup {M : Model} {A : Around} {E : Value → Shared → Prop} {s : Shared} {a N : Addr} {qn name : Str} {m : Str → Option Value} {sl : Array (Option Value)} {hd : Bool} {sn : List Str} {Q : Option Value → Shared → Prop}
    (ha : s.heap.get? a = some (Mine.kcls N qn [.ref a, .type "object"] sl hd sn)) (hn : s.heap.Ns N m) (h : Q (match m name with | some v => some v | none => builtinOwn "object" name) s) : wpAny M A (typeLookup (.ref a) name) Q E s := by
  unfold typeLookup
  refine wpAny_bind (Mine.k_mro ha ?_)
  refine wpAny_bind (m := forIn _ _ _) (Mine.forIn_next ?_)
  refine wpAny_bind (m := classOwn _ _) (wpAny_bind (m := classData a) (wpAny_bind (wpAny_load ha (wpAny_pure ?_))))
  refine wpAny_nsGet hn ?_
  cases e : m name with
  | some v =>
    rw [e] at h
    exact wpAny_pure (wpAny_pure h)
  | none =>
    rw [e] at h
    refine wpAny_pure (Mine.forIn_one ?_)
    refine wpAny_bind (m := classOwn _ _) (wpAny_pure ?_)
    dsimp only at h
    cases e2 : builtinOwn "object" name with
    | some v =>
      rw [e2] at h
      exact wpAny_pure (wpAny_pure h)
    | none =>
      rw [e2] at h
      exact wpAny_pure (wpAny_pure h)
theorem Mine.bo1 : builtinOwn "object" "__new__" = some (.builtin "object.__new__") := by kernel_rfl
theorem Mine.slotAt_abs {M : Model} {A : Around} {E : Value → Shared → Prop} {s : Shared} {a : Addr} {i : Nat} {o : Obj} {Q : Option Value → Shared → Prop} (ho : s.heap.get? a = some o) (h : Q (o.slots[i]?).join s) : wpAny M A (slotAt a i) Q E s := by
  unfold slotAt
  exact wpAny_bind (wpAny_loadPart ho (wpAny_pure h))
theorem Mine.drop_size (name : Str) (m : Str → Option Value) (o : Obj) (es : Array DictEntry) (ep : Nat) (hd : o.data = .dict es ep) (hk : StrKeys es) (hm : ∀ x, nsFind es x = m x) :
    ∃ es' ep' v, (Obj.dropName name o).data = .dict es' ep' ∧ (Obj.dropName name o).isFreed = false ∧ es'.size ≤ es.size ∧ (∀ e ∈ es', e ∈ es) ∧ StrKeys es' ∧ ∀ x, nsFind es' x = if x = name then v else m x := by
  obtain ⟨c, d, dt, sl⟩ := o
  subst hd
  cases hi : es.findIdx? (·.key.isStr name) with
  | some i =>
    refine ⟨es.eraseIdxIfInBounds i, ep + 1, nsFind (es.eraseIdxIfInBounds i) name, by simp only [Obj.dropName_eq, Obj.dropNameByArray, hi], by simp only [Obj.dropName_eq, Obj.dropNameByArray, hi] <;> rfl, ?_, fun e he => ?_, hk.erase i, fun x => ?_⟩
    · unfold Array.eraseIdxIfInBounds
      split
      · rw [Array.size_eraseIdx]; omega
      · exact Nat.le_refl _
    · unfold Array.eraseIdxIfInBounds at he
      split at he
      · exact Array.mem_of_mem_eraseIdx he
      · exact he
    · by_cases hx : x = name
      · rw [if_pos hx, hx]
      · rw [if_neg hx, nsFind_erase_other hi hx, hm]
  | none => exact ⟨es, ep, m name, by simp only [Obj.dropName_eq, Obj.dropNameByArray, hi], by simp only [Obj.dropName_eq, Obj.dropNameByArray, hi] <;> rfl, Nat.le_refl _, fun _ he => he, hk, fun x => by by_cases hx : x = name <;> simp [hx, hm]⟩
theorem Mine.nsDel_le {M : Model} {A : Around} {E : Value → Shared → Prop} {s : Shared} {a : Addr} {m : Str → Option Value} {k : Nat} {name : Str} {P : Value → Prop} {Q : Bool → Shared → Prop} (hn : s.heap.Ns a m) (hz : s.heap.DictLe a k) (hP : s.heap.ValsAll a P)
    (hQ : ∀ b h' v, h'.Ns a (fun x => if x = name then v else m x) → Heap.SameBut a s.heap h' → h'.DictLe a k → h'.ValsAll a P → Q b { s with heap := h' }) : wpAny M A (nsDel a name) Q E s := by
  obtain ⟨o, es, ep, ho, hd, hk, hm⟩ := id hn
  have hle := hz o es ep ho hd
  have hb : ∃ b, nsHas name o = pure b := by
    rw [nsHas_eq]; unfold nsHasByArray; rw [hd]
    have hany : es.any (·.refKey) = false := by
      rw [Array.any_eq_false']
      intro e he
      obtain ⟨n, t, h⟩ := hk e he
      simp [DictEntry.refKey, h]
    cases hx : es.any fun x => x.key.isStr name with
    | true => exact ⟨true, by simp only [hx, if_true]⟩
    | false => exact ⟨false, by simp only [hx, hany, Bool.false_eq_true, if_false]⟩
  obtain ⟨b, hb⟩ := hb
  unfold nsDel
  refine wpAny_bind (wpAny_loadPart ho ?_)
  rw [hb]
  refine wpAny_bind (wpAny_pure ?_)
  cases b with
  | false => exact wpAny_pure (hQ false s.heap (m name) ⟨o, es, ep, ho, hd, hk, fun x => by by_cases hx : x = name <;> simp [hx, hm]⟩ (.refl ..) hz hP)
  | true =>
    refine wpAny_bind (wpAny_updatePart ho (wpAny_pure ?_))
    obtain ⟨es', ep', v, h3, hf, h4, h45, h5, h6⟩ := Mine.drop_size name m o es ep hd hk hm
    have hg := Heap.get?_update_self (Obj.dropName name) ho hf
    refine hQ true _ v ⟨_, es', ep', hg, h3, h5, h6⟩ (Heap.SameBut.update ..) (fun o2 es2 ep2 q1 q2 => ?_) fun o2 es2 ep2 q1 q2 e he => ?_
    · rw [hg] at q1
      cases q1
      rw [h3] at q2
      cases q2
      omega
    · rw [hg] at q1
      cases q1
      rw [h3] at q2
      cases q2
      exact hP o es ep ho hd e (h45 e he)
theorem Mine.nsSetByValue_abs {M : Model} {A : Around} {E : Value → Shared → Prop} {s : Shared} {a : Addr} {m : Str → Option Value} {k : Nat} {name : Str} {v : Value} {P : Value → Prop} {Q : Unit → Shared → Prop} (hn : s.heap.Ns a m) (hz : s.heap.DictLe a k) (hk : k ≤ 1000) (hV : s.heap.ValsAll a P) (hv : P v)
    (h : ∀ h', h'.Ns a (fun x => if x = name then some v else m x) → Heap.SameBut a s.heap h' → h'.ValsAll a P → Q () { s with heap := h', toks := s.toks + 1 }) : wpAny M A (nsSetByValue a name v) Q E s := by
  obtain ⟨o, es, ep, ho, hd, _, _⟩ := id hn
  have hle := hz o es ep ho hd
  unfold nsSetByValue
  refine wpAny_bind (wpAny_loadPart ho ?_)
  rw [hd]
  refine wpAny_ite_false ?_ (wpAny_nsSetV hn hV hv h)
  rw [decide_eq_false_iff_not, Bool.and_eq_true, decide_eq_true_eq, sizeLine_eq]
  rintro ⟨h1, _⟩
  omega
theorem Mine.ns1 (a : Addr) : Builtin.noteSubclassOfBuiltin "object" a = pure () := by kernel_rfl
theorem Mine.forIn_all {α β : Type} {M : Model} {A : Around} {E : Value → Shared → Prop} {s : Shared} {b : β} {f : α → β → Sem (ForInStep β)} {Q : β → Shared → Prop} : ∀ {l : List α}, (∀ x ∈ l, wpAny M A (f x b) (fun r s' => r = .yield b ∧ s' = s) E s) → Q b s → wpAny M A (forIn l b f) Q E s
  | [], _, h => Mine.forIn_none h
  | x :: l, hf, h => Mine.forIn_next (wpAny_mono (hf x (.head _)) (fun r s' hr => by
      obtain ⟨rfl, rfl⟩ := hr
      exact Mine.forIn_all (fun y hy => hf y (.tail _ hy)) h) fun _ _ e => e)
theorem Mine.forIn_arr {α β : Type} {M : Model} {A : Around} {E : Value → Shared → Prop} {s : Shared} {b : β} {f : α → β → Sem (ForInStep β)} {Q : β → Shared → Prop} {l : Array α} (hf : ∀ x ∈ l, wpAny M A (f x b) (fun r s' => r = .yield b ∧ s' = s) E s) (h : Q b s) : wpAny M A (forIn l b f) Q E s := by
  rw [← Array.forIn_toList]
  exact Mine.forIn_all (fun x hx => hf x (by simpa using hx)) h
def Mine.vok (h : Heap) (v : Value) : Prop := (∃ x t, v = .str x t) ∨ (∃ i t, v = .int i t) ∨ v = .none ∨ ∃ b o T, v = .ref b ∧ h.get? b = some o ∧ o.cls = .type T ∧ typeLookup (.type T) "__set_name__" = pure none
theorem Mine.vok.mono {h h' : Heap} {v : Value} (x : Mine.vok h v) (hk : ∀ b o, h.get? b = some o → h'.get? b = some o) : Mine.vok h' v := by
  rcases x with x | x | x | ⟨b, o, T, e1, e2, e3, e4⟩
  · exact .inl x
  · exact .inr (.inl x)
  · exact .inr (.inr (.inl x))
  · exact .inr (.inr (.inr ⟨b, o, T, e1, hk _ _ e2, e3, e4⟩))
theorem Mine.sn1 : typeLookup (.type "str") "__set_name__" = pure none := by rw [typeLookup_type, builtinLookup_eq_fast]; kernel_rfl
theorem Mine.sn2 : typeLookup (.type "int") "__set_name__" = pure none := by rw [typeLookup_type, builtinLookup_eq_fast]; kernel_rfl
theorem Mine.sn3 : typeLookup (.type "NoneType") "__set_name__" = pure none := by rw [typeLookup_type, builtinLookup_eq_fast]; kernel_rfl
theorem Mine.sn4 : typeLookup (.type "member_descriptor") "__set_name__" = pure none := by rw [typeLookup_type, builtinLookup_eq_fast]; kernel_rfl
theorem Mine.vok_special {M : Model} {A : Around} {E : Value → Shared → Prop} {s : Shared} {v : Value} {Q : Option Value → Shared → Prop} (hv : Mine.vok s.heap v) (h : Q none s) : wpAny M A (specialOf v "__set_name__") Q E s := by
  rcases hv with ⟨x, t, rfl⟩ | ⟨x, t, rfl⟩ | rfl | ⟨b, o, T, rfl, e2, e3, e4⟩
  · exact wpAny_bind (m := typeOf _) (wpAny_pure (wpAny_of_eq Mine.sn1 h))
  · exact wpAny_bind (m := typeOf _) (wpAny_pure (wpAny_of_eq Mine.sn2 h))
  · exact wpAny_bind (m := typeOf _) (wpAny_pure (wpAny_of_eq Mine.sn3 h))
  · exact wpAny_specialOf (T := T) ⟨o, e2, e3⟩ e4 h
theorem Mine.vok_held {h : Heap} {v : Value} (hv : Mine.vok h v) (k : Value) : Builtin.laidUnderItsOwnName k v = false := by
  rcases hv with ⟨x, t, rfl⟩ | ⟨x, t, rfl⟩ | rfl | ⟨b, o, T, rfl, e2, e3, e4⟩ <;> cases k <;> rfl
theorem Mine.vals_same {h h' : Heap} {a : Addr} {P : Value → Prop} (V : h.ValsAll a P) (e : h'.get? a = h.get? a) : h'.ValsAll a P := fun o es ep q => V o es ep (e ▸ q)
theorem Mine.vals_mono {h : Heap} {a : Addr} {P P' : Value → Prop} (V : h.ValsAll a P) (hp : ∀ v, P v → P' v) : h.ValsAll a P' := fun o es ep q r e he => hp _ (V o es ep q r e he)
end

section
open PySem PySem.W PySem.W.X PyProof.Rows PySem.Spec PySem.Calls
set_option Elab.async false
set_option maxRecDepth 100000
theorem Mine.mem_all {h0 h : Heap} {news : List (Addr × Obj)} (D : Mem h0 h [] news) : ∀ b o, h0.get? b = some o → h.get? b = some o := fun b o e => D.keep b o e (by simp [away])
theorem Mine.mem_head {h0 h : Heap} {chg r : List (Addr × Obj)} {a : Addr} {o : Obj} (D : Mem h0 h chg ((a, o) :: r)) : h.get? a = some o := (D.nw (a, o) (.head _)).1
theorem Mine.mem_new {h0 h : Heap} {chg r : List (Addr × Obj)} {a : Addr} {o : Obj} (D : Mem h0 h chg ((a, o) :: r)) : h0.get? a = none := (D.nw (a, o) (.head _)).2
set_option hygiene false in
local macro_rules | `(tactic| x_close) => `(tactic| first | exact hQ _ _ _ (Mine.mem_all (by assumption)) (Mine.mem_head (by assumption)) (Mine.mem_new (by assumption)) | exact hQ _ _ (Mine.mem_all (by assumption)) | exact hQ _ _ (fun _ _ e => e))
section
variable (prog : Program) (w : World) (s : Shared) (hg : s.gens = #[]) (k n : Addr) (q : Str) (sl : Array (Option Value)) (E Q : Value → Shared → Prop)
set_option maxHeartbeats 8000000 in
include hg in
theorem Mine.cmg
   (h2 : s.heap.get? k = some ⟨.type "type", none, .cls { name := "K", bases := [.type "object"], mro := [.ref k, .type "object"], ns := n, qualname := q, hasDict := false, slotNames := ["obj"] }, sl⟩)
   (hQ : ∀ mo h' tk, (∀ b o, s.heap.get? b = some o → h'.get? b = some o) → h'.get? mo = some { cls := .type "builtin_function_or_method", data := .fields #[.builtin "object.__init_subclass__", .ref k] } → s.heap.get? mo = none → Q (.ref mo) ⟨h', #[], s.drawn, tk, s.os⟩) :
   wpAny (model prog w) Mine.A0 (call (.builtin "classmethod_descriptor.__get__") [.builtin "object.__init_subclass__", .none, .ref k]) Q E s := by
  x_run
set_option maxHeartbeats 8000000 in
include hg in
theorem Mine.sup1
   (h2 : s.heap.get? k = some ⟨.type "type", none, .cls { name := "K", bases := [.type "object"], mro := [.ref k, .type "object"], ns := n, qualname := q, hasDict := false, slotNames := ["obj"] }, sl⟩)
   (hQ : ∀ mo h' tk, (∀ b o, s.heap.get? b = some o → h'.get? b = some o) → h'.get? mo = some { cls := .type "super", data := .fields #[.ref k, .ref k, .ref k] } → s.heap.get? mo = none → Q (.ref mo) ⟨h', #[], s.drawn, tk, s.os⟩) :
   wpAny (model prog w) Mine.A0 (call (.type "super") [.ref k, .ref k]) Q E s := by
  x_run
set_option maxHeartbeats 8000000 in
include hg in
theorem Mine.isc (mo bA : Addr) (kt qt : Tok)
   (h2 : s.heap.get? k = some ⟨.type "type", none, .cls { name := "K", bases := [.type "object"], mro := [.ref k, .type "object"], ns := n, qualname := "cmp_to_key.<locals>.K", hasDict := false, slotNames := ["obj"] }, #[some (.ref bA), none, some (.str "K" kt), some (.str "cmp_to_key.<locals>.K" qt), some (.builtin "object.__new__"), some (.bool false)]⟩)
   (h3 : s.heap.get? mo = some ⟨.type "builtin_function_or_method", none, .fields #[.builtin "object.__init_subclass__", .ref k], #[]⟩)
   (hQ : ∀ h' tk, (∀ b o, s.heap.get? b = some o → h'.get? b = some o) → Q .none ⟨h', #[], s.drawn, tk, s.os⟩) :
   wpAny (model prog w) Mine.A0 (call (.ref mo) []) Q E s := by
  x_run
end
end

section
open PySem PySem.W PySem.W.X PyProof.Rows PySem.Spec PySem.Calls
set_option Elab.async false
set_option maxRecDepth 100000
theorem Mine.dw1 (a : Addr) : List.drop 1 (List.dropWhile (fun x => x != Value.ref a) [Value.ref a, Value.type "object"]) = [Value.type "object"] := by
  rw [List.dropWhile_cons, if_neg (by simp)]; rfl
theorem Mine.is1 : builtinOwn "object" "__init_subclass__" = some (.builtin "object.__init_subclass__") := by kernel_rfl
theorem Mine.is0 : classOwn (.type "object") "__init_subclass__" = pure (some (.builtin "object.__init_subclass__")) := congrArg pure Mine.is1
theorem Mine.is2 : typeOf (.builtin "object.__init_subclass__") = pure (.type "classmethod_descriptor") := by show builtinType _ = _; rw [builtinType_eq_fast]; kernel_rfl
theorem Mine.is3 : typeLookup (.type "classmethod_descriptor") "__get__" = pure (some (.builtin "classmethod_descriptor.__get__")) := by rw [typeLookup_type, builtinLookup_eq_fast]; kernel_rfl
theorem Mine.super_ga {prog : Program} {w : World} {A : Around} {s : Shared} {a N sp : Addr} {qn : Str} {sl : Array (Option Value)} {t : Tok} {E Q : Value → Shared → Prop} {ms : Str → Option Value}
    (hsp : s.heap.get? sp = some { cls := .type "super", dict := none, data := .fields #[.ref a, .ref a, .ref a], slots := #[] }) (ha : s.heap.get? a = some (Mine.kcls N qn [.ref a, .type "object"] sl false ["obj"]))
    (hA : A.handled = none) (hA2 : A.depth ≤ 800) (hA3 : A.units + 1 ≤ 5000) (hg : s.gens = #[])
    (hQ : ∀ mo h' tk, (∀ b o, s.heap.get? b = some o → h'.get? b = some o) → h'.get? mo = some { cls := .type "builtin_function_or_method", data := .fields #[.builtin "object.__init_subclass__", .ref a] } → Q (.ref mo) ⟨h', #[], s.drawn, tk, s.os⟩)
    (hst : s.heap.Ns cStatics ms) (htp : ms "thirdparty.any" = none) : wpAny (model prog w) A (call (.builtin "super.__getattribute__") [.ref sp, .str "__init_subclass__" t]) Q E s := by
  refine wpAny_call_entry PySem.F.ks_slot_super_ga ⟨_, hsp, rfl⟩ PySem.F.ks_entry_super_ga ?_ (PySem.F.ks_gaArgs_super _ _)
  unfold Builtin.«super.__getattribute__»
  refine wpAny_bind (m := asStr? _) (wpAny_pure ?_)
  refine wpAny_ite_false rfl ?_
  refine wpAny_bind (m := asStr? _) (wpAny_pure ?_)
  refine wpAny_bind (wpAny_field hsp rfl (x := .ref a) rfl ?_)
  refine wpAny_bind (wpAny_field hsp rfl (x := .ref a) rfl ?_)
  refine wpAny_bind (wpAny_field hsp rfl (x := .ref a) rfl ?_)
  refine wpAny_ite_false (by kernel_rfl) ?_
  refine wpAny_bind (m := notOfAnOpaqueClass _ _ _) ?_
  unfold notOfAnOpaqueClass
  refine wpAny_bind (m := opaqueClassAbove _) ?_
  unfold opaqueClassAbove
  refine wpAny_bind (m := anyOpaqueLoaded) (wpAny_bind (wpAny_nsGet hst (wpAny_pure ?_)))
  refine wpAny_ite_true (by rw [htp]; rfl) (wpAny_pure (wpAny_pure ?_))
  refine wpAny_ite_false (by kernel_rfl) ?_
  refine wpAny_bind (Mine.k_mro ha ?_)
  rw [Mine.dw1]
  refine wpAny_bind (m := forIn _ _ _) (Mine.forIn_one ?_)
  refine wpAny_bind (wpAny_of_eq Mine.is0 ?_)
  refine wpAny_bind (wpAny_of_eq Mine.is2 (wpAny_bind (wpAny_of_eq Mine.is3 ?_)))
  refine wpAny_bind (wpAny_holding ?_)
  rw [if_pos (by simp)]
  refine Mine.wp_room hA hA2 hA3 (Mine.cmg prog w s hg a N qn sl E _ ha fun mo h' tk k1 k2 _ => ?_)
  refine wpAny_bind (m := ret _) (wpAny_pure (wpAny_pure ?_))
  exact wpAny_pure ⟨_, rfl, hQ mo h' tk k1 k2⟩
theorem Mine.sga1 : typeLookup (.type "super") "__getattribute__" = pure (some (.builtin "super.__getattribute__")) := by rw [typeLookup_type, builtinLookup_eq_fast]; kernel_rfl
theorem Mine.super_attr {prog : Program} {w : World} {A : Around} {s : Shared} {a N sp : Addr} {qn : Str} {sl : Array (Option Value)} {E Q : Value → Shared → Prop} {ms : Str → Option Value}
    (hsp : s.heap.get? sp = some { cls := .type "super", dict := none, data := .fields #[.ref a, .ref a, .ref a], slots := #[] }) (ha : s.heap.get? a = some (Mine.kcls N qn [.ref a, .type "object"] sl false ["obj"]))
    (hA : A.handled = none) (hA2 : A.depth ≤ 800) (hA3 : A.units + 1 ≤ 5000) (hg : s.gens = #[])
    (hQ : ∀ mo h' tk, (∀ b o, s.heap.get? b = some o → h'.get? b = some o) → h'.get? mo = some { cls := .type "builtin_function_or_method", data := .fields #[.builtin "object.__init_subclass__", .ref a] } → Q (.ref mo) ⟨h', #[], s.drawn, tk, s.os⟩)
    (hst : s.heap.Ns cStatics ms) (htp : ms "thirdparty.any" = none) : wpAny (model prog w) A (getAttr (.ref sp) "__init_subclass__") Q E s := by
  unfold getAttr getAttrBy
  refine wpAny_bind (wpAny_mkText (wpAny_holding (wpAny_bind (wpAny_typeOf (T := "super") ⟨_, hsp, rfl⟩ (wpAny_bind (wpAny_of_eq Mine.sga1 ?_))))))
  refine wpAny_ite_false rfl ?_
  unfold getAttrByItsOwn hookBefore callGetattribute boundAndCalled
  refine wpAny_bind (wpAny_ite_false rfl (wpAny_pure ?_))
  refine wpAny_bind (wpAny_attempt (wpAny_holding ?_))
  refine wpAny_ite_false rfl ?_
  refine wpAny_bind (wpAny_of_eq (PySem.F.ks_slot_super_ga.bind _) ?_)
  refine Mine.super_ga hsp ha hA hA2 hA3 hg (fun mo h' tk k1 k2 => ?_) hst htp
  exact wpAny_pure (hQ mo h' tk k1 k2)
end

section
open PySem PySem.W PySem.W.X PyProof.Rows PySem.Spec PySem.Calls
set_option Elab.async false
set_option maxRecDepth 100000
theorem Mine.dec0 {b : Bool} (h : b = false) : decide (b = true) = false := by rw [h]; rfl
set_option maxHeartbeats 800000 in
theorem Mine.tn (prog : Program) (w : World) (A : Around) (s : Shared) (bA nA lA : Addr) (t ot qt : Tok) (veq vhash : Value) (es : Array DictEntry) (e : DictEntry) (ep n ln : Nat) (E : Value → Shared → Prop) (Q : PySem.Fin → Shared → Prop) (ms : Str → Option Value)
   (h1 : s.heap.get? bA = some ⟨.type "tuple", none, .seq #[.type "object"] n, #[]⟩)
   (h2 : s.heap.get? nA = some ⟨.type "dict", none, .dict es ep, #[]⟩) (hsm : (nA == sysModules) = false)
   (h3 : s.heap.get? lA = some (seqObj "list" [Value.str "obj" ot].toArray ln)) (he : es.find? (·.key.isStr "__slots__") = some e) (hv : e.val = .ref lA) (hno : es.any (·.key.isStr "obj") = false)
   (m0 : Str → Option Value) (hk0 : StrKeys es) (hm0 : ∀ name, nsFind es name = m0 name) (hq0 : m0 "__qualname__" = some (.str "cmp_to_key.<locals>.K" qt)) (hd0 : m0 "__doc__" = none) (hd1 : m0 "__new__" = none) (hd2 : m0 "__init_subclass__" = none) (hd3 : m0 "__class_getitem__" = none) (hd4 : m0 "__classcell__" = none) (hd5 : m0 "__classdictcell__" = none) (hdel : es.any (·.key.isStr "__del__") = false) (hob : m0 "obj" = none) (heq : m0 "__eq__" = some veq) (hhash : m0 "__hash__" = some vhash) (hvs : ∀ e ∈ es, Mine.vok s.heap e.val) (hes : es.size ≤ 100) (hmod : es.any (·.key.isStr "__module__") = true)
   (hA : A.handled = none) (hA2 : A.depth + 3 ≤ 800) (hA3 : A.units + 4 ≤ 5000) (hg : s.gens = #[]) (hst : s.heap.Ns cStatics ms) (htp : ms "thirdparty.any" = none)
   (hQ : ∀ a N d dt mf h' tk, h'.Ns N mf → mf "obj" = some (.ref d) → (∀ nm, nm ≠ Str.ofString "obj" → nm ≠ Str.ofString "__doc__" → nm ≠ Str.ofString "__qualname__" → mf nm = m0 nm) → h'.get? d = some { cls := .type "member_descriptor", data := .fields #[.str "obj" dt, .ref a, .builtin "proto.slot", .builtin "proto.slot#set", rawInt 0] } → s.heap.get? a = none → s.heap.get? N = none → (∀ b o, s.heap.get? b = some o → h'.get? b = some o) → h'.get? a = some (Mine.kcls N "cmp_to_key.<locals>.K" [.ref a, .type "object"] #[some (.ref bA), none, some (.str "K" t), some (.str "cmp_to_key.<locals>.K" qt), some (.builtin "object.__new__"), some (.bool false)] false ["obj"]) → Q (PySem.Fin.done (.ret (.ref a))) ⟨h', #[], s.drawn, tk, s.os⟩) : wpAny (model prog w) A (Builtin.«type.__new__» ⟨[.type "type", .str "K" t, .ref bA, .ref nA], []⟩) Q E s := by
  unfold Builtin.«type.__new__»
  refine wpAny_bind (m := asStr? _) (wpAny_pure ?_)
  refine wpAny_bind (wpAny_isInstance (T := "tuple") ⟨_, h1, rfl⟩ Mine.st1 ?_)
  refine wpAny_bind (wpAny_isInstance (T := "dict") ⟨_, h2, rfl⟩ Mine.st2 ?_)
  refine wpAny_bind (m := seqItems? _) (wpAny_bind (wpAny_load h1 (wpAny_pure ?_)))
  refine wpAny_bind (m := forIn _ _ _) (Mine.forIn_one (x := Value.type "object") (wpAny_bind (wpAny_of_eq Mine.it1 (wpAny_pure ?_))))
  refine wpAny_bind (m := forIn _ _ _) (Mine.forIn_one (x := Value.type "object") (wpAny_bind (wpAny_of_eq Mine.to1 (wpAny_bind (wpAny_of_eq Mine.st3 (wpAny_pure ?_))))))
  refine wpAny_ite_false rfl ?_
  refine wpAny_bind (wpAny_of_eq (show Builtin.notOverATurnedClass _ = pure () from Mine.no1) ?_)
  refine wpAny_bind (wpAny_of_eq (show Builtin.extendedBase _ = pure (Value.type "object") from Mine.eb1) ?_)
  refine wpAny_ite_false (Mine.dec0 hsm) ?_
  refine wpAny_bind (wpAny_dictEntries h2 rfl ?_)
  refine wpAny_bind (wpAny_specialOf (T := "dict") ⟨_, h2, rfl⟩ Mine.lk1 ?_)
  refine wpAny_ite_true (by simp) (wpAny_bind (wpAny_pure ?_))
  refine wpAny_bind (wpAny_holding (Mine.slots_read prog w A s lA es e ot E _ ln h3 he hv hno fun X kX => ?_))
  refine wpAny_bind (Mine.newObj_abs (show sizeOk (Data.dict es) by size_fits) rfl fun N H1 hN kH1 nN => ?_)
  have hN0 : H1.Ns N m0 := ⟨_, es, 0, hN, rfl, hk0, hm0⟩
  have k1 : ∀ b o, s.heap.get? b = some o → H1.get? b = some o := fun b o e => kH1 b o (kX b o e)
  refine wpAny_ite_false (Mine.dec0 (show (!es.any _) = false by rw [hmod]; rfl)) ?_
  refine wpAny_bind (wpAny_ite_false (by kernel_rfl) (wpAny_pure ?_))
  refine wpAny_ite_false (by kernel_rfl) ?_
  refine wpAny_bind (wpAny_nsGet hN0 ?_)
  refine wpAny_bind (wpAny_nsGet hN0 ?_)
  rw [hq0]
  refine wpAny_bind (m := asStr? _) (wpAny_pure ?_)
  refine wpAny_bind (wpAny_pure ?_)
  refine wpAny_bind (wpAny_nsGet hN0 ?_)
  rw [hd0]
  refine wpAny_bind (Mine.alloc_abs rfl fun a H2 ha kH2 na => ?_)
  refine wpAny_ite_true rfl ?_
  have sub : ∀ {h h' : Heap} {a b : Addr} {o : Obj}, Heap.SameBut a h h' → b ≠ a → h.get? b = some o → h'.get? b = some o := fun hs hb e => (hs.2 _ hb).trans e
  have haN : N ≠ a := fun q => by rw [q] at hN; rw [hN] at na; cases na
  have ke : ∀ b o, s.heap.get? b = some o → b ≠ a := fun b o e q => by have := k1 b o e; rw [q, na] at this; cases this
  have k2 : ∀ b o, s.heap.get? b = some o → H2.get? b = some o := fun b o e => kH2 b o (k1 b o e)
  have hN2 : H2.Ns N m0 := hN0.keeps fun b o e => kH2 b o e
  replace ha : H2.get? a = some (Mine.kcls N "cmp_to_key.<locals>.K" [] #[] true []) := ha
  refine wpAny_bind (Mine.setSlot_abs (o' := Mine.kcls N "cmp_to_key.<locals>.K" [] #[some (.ref bA)] true []) ha (by decide) rfl rfl fun H3 ha3 s3 => ?_)
  refine wpAny_bind (Mine.setSlot_abs (o' := Mine.kcls N "cmp_to_key.<locals>.K" [] #[some (.ref bA), none, some (.str "K" t)] true []) ha3 (by decide) rfl rfl fun H4 ha4 s4 => ?_)
  refine wpAny_bind (Mine.setSlot_abs (o' := Mine.kcls N "cmp_to_key.<locals>.K" [] #[some (.ref bA), none, some (.str "K" t), some (.str "cmp_to_key.<locals>.K" qt)] true []) ha4 (by decide) rfl rfl fun H5 ha5 s5 => ?_)
  have k5 : ∀ b o, s.heap.get? b = some o → H5.get? b = some o := fun b o e => sub s5 (ke b o e) (sub s4 (ke b o e) (sub s3 (ke b o e) (k2 b o e)))
  have hN5 : H5.Ns N m0 := ((hN2.sameBut s3 haN).sameBut s4 haN).sameBut s5 haN
  have nN' : ∀ b o, s.heap.get? b = some o → b ≠ N := fun b o e q => by have := kX b o e; rw [q, nN] at this; cases this
  have z5 : H5.DictLe N 100 := fun o' es' ep' q1 q2 => by
    rw [sub s5 haN (sub s4 haN (sub s3 haN (kH2 _ _ hN)))] at q1
    cases q1; cases q2; exact hes
  have V5 : H5.ValsAll N (Mine.vok s.heap) := fun o' es' ep' q1 q2 => by
    rw [sub s5 haN (sub s4 haN (sub s3 haN (kH2 _ _ hN)))] at q1
    cases q1; cases q2; exact hvs
  refine wpAny_bind (Mine.nsDel_le hN5 z5 V5 fun bq H6 vq hN6 s6 z6 V6 => ?_)
  have k6 : ∀ b o, s.heap.get? b = some o → H6.get? b = some o := fun b o e => sub s6 (nN' b o e) (k5 b o e)
  have ha6 := sub s6 (Ne.symm haN) ha5
  refine wpAny_bind (wpAny_nsGet hN6 ?_)
  rw [if_neg (by decide), hd1]
  refine wpAny_bind (m := forIn _ _ _) (Mine.forIn_next ?_)
  refine wpAny_bind (wpAny_nsGet hN6 ?_)
  rw [if_neg (by decide), hd2]
  refine wpAny_pure (Mine.forIn_one ?_)
  refine wpAny_bind (wpAny_nsGet hN6 ?_)
  rw [if_neg (by decide), hd3]
  refine wpAny_pure ?_
  refine wpAny_bind (wpAny_nsGet hN6 ?_)
  rw [if_neg (by decide), hd4]
  refine wpAny_bind (wpAny_nsGet hN6 ?_)
  rw [if_neg (by decide), hd5]
  refine wpAny_bind (wpAny_of_eq Mine.mh1 ?_)
  refine wpAny_bind (wpAny_of_eq (show Builtin.linearize _ mroOf = _ from Mine.ln1) ?_)
  refine wpAny_bind (wpAny_pure ?_)
  refine wpAny_bind (wpAny_of_eq (a := false) (by rw [Mine.hfl]; kernel_rfl) ?_)
  refine wpAny_bind (Mine.updateCls_abs (o' := Mine.kcls N "cmp_to_key.<locals>.K" [.ref a, .type "object"] #[some (.ref bA), none, some (.str "K" t), some (.str "cmp_to_key.<locals>.K" qt)] true []) ha6 rfl (by
    show Obj.mk _ _ _ _ = _
    dsimp only
    rw [hdel]
    rfl) rfl rfl fun H7 ha7 s7 => ?_)
  refine wpAny_bind (wpAny_of_eq Mine.mb1 ?_)
  refine wpAny_bind (Mine.setSlot_abs (o' := Mine.kcls N "cmp_to_key.<locals>.K" [.ref a, .type "object"] #[some (.ref bA), none, some (.str "K" t), some (.str "cmp_to_key.<locals>.K" qt), some (.builtin "object.__new__")] true []) ha7 (by decide) rfl rfl fun H8 ha8 s8 => ?_)
  have k8 : ∀ b o, s.heap.get? b = some o → H8.get? b = some o := fun b o e => sub s8 (ke b o e) (sub s7 (ke b o e) (k6 b o e))
  have hN8 := (hN6.sameBut s7 haN).sameBut s8 haN
  refine wpAny_bind (m := Bind.refreshMaker a) ?_
  unfold Bind.refreshMaker
  refine wpAny_bind (Mine.slotAt_abs ha8 ?_)
  refine wpAny_ite_false rfl ?_
  refine wpAny_bind (Mine.k_lookup ha8 hN8 ?_)
  rw [if_neg (by decide), hd1, Mine.bo1]
  refine wpAny_ite_false (by kernel_rfl) (wpAny_pure ?_)
  refine wpAny_bind (m := Builtin.Slots.install _ _ _ _) ?_
  unfold Builtin.Slots.install
  dsimp only
  have z8 : H8.DictLe N 100 := (z6.sameBut s7 haN).sameBut s8 haN
  refine wpAny_bind (m := forIn _ _ _) (Mine.forIn_one (x := Str.ofString "obj") ?_)
  refine wpAny_bind (wpAny_nsGet hN8 ?_)
  refine wpAny_ite_true (by rw [if_neg (by decide), hob]; rfl) ?_
  refine wpAny_bind (wpAny_mkStr ?_)
  refine wpAny_bind (m := newFields _ _) (Mine.newObj_abs (by size_fits) rfl fun d H9 hd9 kH9 nd => ?_)
  have hN9 := hN8.keeps kH9
  have z9 : H9.DictLe N 100 := fun o' es' ep' q1 q2 => by
    obtain ⟨o2, es2, ep2, q3, q4⟩ := hN8
    rw [kH9 _ _ q3] at q1; cases q1
    exact z8 _ _ _ q3 q2
  have V9 : H9.ValsAll N (fun v => Mine.vok s.heap v ∨ v = .ref d) := by
    have hNs : ∃ o, H8.get? N = some o := by obtain ⟨o2, es2, ep2, q3, q4⟩ := hN8; exact ⟨o2, q3⟩
    obtain ⟨o2, q3⟩ := hNs
    refine Mine.vals_mono (Mine.vals_same V6 ?_) fun v h => .inl h
    rw [kH9 _ _ q3, ← q3, s8.2 _ haN, s7.2 _ haN]
  refine wpAny_bind (Mine.nsSetByValue_abs hN9 z9 (by decide) V9 (.inr rfl) fun H10 hN10 s10 V10 => ?_)
  refine wpAny_pure ?_
  refine wpAny_bind (m := forIn _ _ _) (Mine.forIn_one (x := Value.type "object") (wpAny_bind (wpAny_of_eq Mine.sr3 (wpAny_pure ?_))))
  refine wpAny_ite_false (by kernel_rfl) ?_
  have ha10 := sub s10 (Ne.symm haN) (kH9 _ _ ha8)
  refine Mine.updateCls_abs (o' := Mine.kcls N "cmp_to_key.<locals>.K" [.ref a, .type "object"] #[some (.ref bA), none, some (.str "K" t), some (.str "cmp_to_key.<locals>.K" qt), some (.builtin "object.__new__")] false ["obj"]) ha10 rfl rfl rfl rfl fun H11 ha11 s11 => ?_
  refine wpAny_bind (wpAny_of_eq Mine.sr4 ?_)
  refine wpAny_bind (Mine.setSlot_abs (o' := Mine.kcls N "cmp_to_key.<locals>.K" [.ref a, .type "object"] #[some (.ref bA), none, some (.str "K" t), some (.str "cmp_to_key.<locals>.K" qt), some (.builtin "object.__new__"), some (.bool false)] false ["obj"]) ha11 (by decide) rfl rfl fun H12 ha12 s12 => ?_)
  have hN12 := (hN10.sameBut s11 haN).sameBut s12 haN
  have k12 : ∀ b o, s.heap.get? b = some o → H12.get? b = some o := fun b o e => sub s12 (ke b o e) (sub s11 (ke b o e) (sub s10 (nN' b o e) (kH9 b o (k8 b o e))))
  refine wpAny_bind (wpAny_nsGet hN12 ?_)
  refine wpAny_ite_true (by rw [if_neg (by decide), if_neg (by decide), hd0]; rfl) ?_
  have V12 : H12.ValsAll N (fun v => Mine.vok s.heap v ∨ v = .ref d) := Mine.vals_same V10 (by rw [s12.2 _ haN, s11.2 _ haN])
  refine wpAny_bind (wpAny_nsSetV hN12 V12 (.inl (.inr (.inr (.inl rfl)))) fun H13 hN13 s13 V13 => ?_)
  have k13 : ∀ b o, s.heap.get? b = some o → H13.get? b = some o := fun b o e => sub s13 (nN' b o e) (k12 b o e)
  have ha13 := sub s13 (Ne.symm haN) ha12
  refine wpAny_bind (wpAny_nsGet hN13 ?_)
  refine wpAny_ite_true (by rw [if_neg (by decide), if_neg (by decide), if_neg (by decide), heq]; rfl) ?_
  refine wpAny_bind (wpAny_nsGet hN13 ?_)
  refine wpAny_ite_false (by rw [if_neg (by decide), if_neg (by decide), if_neg (by decide), hhash]; rfl) ?_
  refine wpAny_bind (m := forIn _ _ _) (Mine.forIn_one (x := Value.type "object") ?_)
  refine wpAny_bind (wpAny_of_eq (Mine.ns1 a) (wpAny_pure ?_))
  have hdN : d ≠ N := fun q => by
    obtain ⟨o2, es2, ep2, q3, q4⟩ := hN8
    rw [q] at nd; rw [nd] at q3; cases q3
  have hda : d ≠ a := fun q => by rw [q] at nd; rw [nd] at ha8; cases ha8
  have hd13 : H13.get? d = _ := sub s13 hdN (sub s12 hda (sub s11 hda (sub s10 hdN hd9)))
  have W13 : H13.ValsAll N (Mine.vok H13) := Mine.vals_mono V13 fun v h => by
    rcases h with h | rfl
    · exact h.mono k13
    · exact .inr (.inr (.inr ⟨d, _, "member_descriptor", rfl, hd13, rfl, Mine.sn4⟩))
  refine wpAny_bind (wpAny_tryCatch ?_)
  refine wpAny_holding ?_
  obtain ⟨oN, eN, pN, q1, q2, q3, q4⟩ := id hN13
  have q5 := W13 oN eN pN q1 q2
  refine wpAny_bind (wpAny_dictEntries q1 q2 ?_)
  refine wpAny_bind (m := forIn _ _ _) (Mine.forIn_arr (fun x hx => ?_) ?_)
  · obtain ⟨kn, kt, hkk⟩ := q3 x hx
    rw [hkk]
    exact wpAny_bind (m := asStr? _) (wpAny_pure (wpAny_ite_false rfl (wpAny_pure ⟨rfl, rfl⟩)))
  refine wpAny_ite_false rfl ?_
  refine wpAny_bind (wpAny_dictEntries q1 q2 ?_)
  refine wpAny_bind (m := forIn _ _ _) (Mine.forIn_arr (fun x hx => ?_) ?_)
  · refine wpAny_ite_false (Mine.dec0 (Mine.vok_held (q5 x hx) _)) ?_
    exact wpAny_bind (Mine.vok_special (q5 x hx) (wpAny_pure ⟨rfl, rfl⟩))
  refine wpAny_bind (Mine.wp_room hA (by omega) (by omega) (Mine.sup1 prog w ⟨H13, _, _, _, _⟩ (by exact hg) a N _ _ _ _ (by exact ha13) fun sp h' tk j1 j2 j3 => ?_))
  refine wpAny_bind (wpAny_holding (Mine.super_attr j2 (j1 _ _ ha13) hA (by omega) (by omega) rfl (fun mo h2 tk2 u1 u2 => ?_) (hst.keeps fun b o e => j1 b o (k13 b o e)) htp))
  refine wpAny_bind (Mine.wp_room hA (by omega) (by omega) (Mine.isc prog w ⟨h2, _, _, _, _⟩ rfl a N _ _ mo bA t qt (by exact u1 _ _ (j1 _ _ ha13)) (by exact u2) fun h3 tk3 v1 => ?_))
  refine wpAny_pure ?_
  exact wpAny_pure (hQ a N d _ _ h3 tk3 (hN13.keeps fun b o e => v1 _ _ (u1 _ _ (j1 _ _ e))) (by rw [if_neg (by decide), if_pos rfl]) (fun nm e1 e2 e3 => by rw [if_neg e2, if_neg e1, if_neg e3]) (by exact v1 _ _ (u1 _ _ (j1 _ _ hd13))) (Option.eq_none_iff_forall_ne_some.2 fun o e => ke _ _ e rfl) (Option.eq_none_iff_forall_ne_some.2 fun o e => nN' _ _ e rfl) (fun b o e => v1 _ _ (u1 _ _ (j1 _ _ (k13 _ _ e)))) (v1 _ _ (u1 _ _ (j1 _ _ ha13))))
end

section
open PySem PySem.W PySem.W.X PyProof.Rows PySem.Spec PySem.Calls
set_option Elab.async false
set_option maxRecDepth 100000
set_option hygiene false in
local macro_rules | `(tactic| x_close) => `(tactic| first | exact hQ _ _ (Mine.mem_all (by assumption)) | exact hQ _ _ (fun _ _ e => e))
set_option maxHeartbeats 8000000 in
theorem Mine.tinit (prog : Program) (w : World) (s : Shared) (hg : s.gens = #[]) (k n bA nA : Addr) (sl : Array (Option Value)) (t : Tok) (E Q : Value → Shared → Prop)
   (h2 : s.heap.get? k = some ⟨.type "type", none, .cls { name := "K", bases := [.type "object"], mro := [.ref k, .type "object"], ns := n, qualname := "cmp_to_key.<locals>.K", hasDict := false, slotNames := ["obj"] }, sl⟩)
   (hQ : ∀ h' tk, (∀ b o, s.heap.get? b = some o → h'.get? b = some o) → Q .none ⟨h', #[], s.drawn, tk, s.os⟩) :
   wpAny (model prog w) Mine.A0 (call (.builtin "type.__init__") [.ref k, .str "K" t, .ref bA, .ref nA]) Q E s := by
  x_run
theorem Mine.mb0 : Bind.madeBy (.type "type") = pure (some "type.__new__") := by kernel_rfl
theorem Mine.mr0 : mroOf (.type "type") = pure [.type "type", .type "object"] := by kernel_rfl
theorem Mine.te : entryFor table "type.__new__" = some Builtin.«type.__new__» := entryFor_of_tree (by kernel_rfl)
theorem Mine.cb0 (t : Tok) (bA nA : Addr) : checkBuiltinCall "type.__new__" ⟨[.type "type", .str "K" t, .ref bA, .ref nA], []⟩ = pure () := by kernel_rfl
theorem Mine.tcall (prog : Program) (w : World) (A : Around) (s : Shared) (bA nA : Addr) (t : Tok) (E Q : Value → Shared → Prop)
   (hn : wpAny (model prog w) A.in1.in1 (Builtin.«type.__new__» ⟨[.type "type", .str "K" t, .ref bA, .ref nA], []⟩) (fun f s' => ∃ v, f = .done (.ret v) ∧ s'.TypeIs v "type" ∧ wpAny (model prog w) A.in1 (call (.builtin "type.__init__") [v, .str "K" t, .ref bA, .ref nA]) (fun r s2 => r = .none ∧ Q v s2) E s') E s) :
   wpAny (model prog w) A (call (.type "type") [.str "K" t, .ref bA, .ref nA]) Q E s := by
  refine wpAny_call (codeAny_of_tree ?_)
  show wpAny _ _ (callAny (.type "type") _) _ _ _
  refine wpAny_pure ⟨Code.quiet_builtin _ (by decide +kernel), codeAny_builtin F.entry_type_call ?_⟩
  rw [Around.under_plain (weight_type_call_type _ _ []) (units_type_call_type _ _ [])]
  unfold Builtin.«type.__call__»
  refine wpAny_ite_true rfl ?_
  refine wpAny_ite_false rfl ?_
  refine wpAny_ite_false rfl ?_
  refine wpAny_ite_false (by decide +kernel) ?_
  refine wpAny_bind (wpAny_of_eq (a := ()) (by kernel_rfl) ?_)
  refine wpAny_bind (wpAny_of_eq Mine.mr0 ?_)
  refine wpAny_ite_false rfl ?_
  refine wpAny_bind (wpAny_of_eq Mine.mb0 (wpAny_bind (wpAny_pure ?_)))
  refine wpAny_bind (wpAny_holding (wpAny_call (codeAny_call_builtin (by decide +kernel) Mine.te (wpAny_of_eq (Mine.cb0 t bA nA) ?_))))
  refine wpAny_mono hn (fun f s1 hf => ?_) fun _ _ z => ?_
  · obtain ⟨v, rfl, hT, hi⟩ := hf
    refine wpAny_bind (wpAny_isInstance (b := true) hT (by rw [isSubtype_type]; kernel_rfl) (wpAny_ite_false rfl ?_))
    refine wpAny_bind (wpAny_holding (wpAny_callSpecial?_slot (id := "type.__init__") hT (.of (owner := "type") (n := "__init__") (by rw [typeLookup_type, builtinLookup_eq_fast]; kernel_rfl) (by decide +kernel) (by decide +kernel) (by decide +kernel) (by first | exact .inl (by decide +kernel) | exact .inr (by decide +kernel)) (by rw [isSubtype_type]; kernel_rfl)) ?_))
    refine wpAny_mono hi (fun r s2 hr => ?_) fun _ _ z => z
    obtain ⟨rfl, hq⟩ := hr
    exact wpAny_ite_false rfl (wpAny_pure hq)
  · exact z
end

section
open PySem PySem.W PySem.W.X PyProof.Rows PySem.Spec PySem.Calls
set_option Elab.async false
set_option maxRecDepth 100000
theorem Mine.mkK (prog : Program) (w : World) (A : Around) (s : Shared) (bA nA lA : Addr) (t ot qt : Tok) (veq vhash : Value) (es : Array DictEntry) (e : DictEntry) (ep n ln : Nat) (E : Value → Shared → Prop) (Q : Value → Shared → Prop) (ms : Str → Option Value)
   (h1 : s.heap.get? bA = some ⟨.type "tuple", none, .seq #[.type "object"] n, #[]⟩)
   (h2 : s.heap.get? nA = some ⟨.type "dict", none, .dict es ep, #[]⟩) (hsm : (nA == sysModules) = false)
   (h3 : s.heap.get? lA = some (seqObj "list" [Value.str "obj" ot].toArray ln)) (he : es.find? (·.key.isStr "__slots__") = some e) (hv : e.val = .ref lA) (hno : es.any (·.key.isStr "obj") = false)
   (m0 : Str → Option Value) (hk0 : StrKeys es) (hm0 : ∀ name, nsFind es name = m0 name) (hq0 : m0 "__qualname__" = some (.str "cmp_to_key.<locals>.K" qt)) (hd0 : m0 "__doc__" = none) (hd1 : m0 "__new__" = none) (hd2 : m0 "__init_subclass__" = none) (hd3 : m0 "__class_getitem__" = none) (hd4 : m0 "__classcell__" = none) (hd5 : m0 "__classdictcell__" = none) (hdel : es.any (·.key.isStr "__del__") = false) (hob : m0 "obj" = none) (heq : m0 "__eq__" = some veq) (hhash : m0 "__hash__" = some vhash) (hvs : ∀ e ∈ es, Mine.vok s.heap e.val) (hes : es.size ≤ 100) (hmod : es.any (·.key.isStr "__module__") = true)
   (hA : A.handled = none) (hA2 : A.depth + 6 ≤ 800) (hA3 : A.units + 8 ≤ 5000) (hg : s.gens = #[]) (hst : s.heap.Ns cStatics ms) (htp : ms "thirdparty.any" = none)
   (hQ : ∀ a N d dt mf h' tk, (h'.Ns N mf) → mf "obj" = some (.ref d) → (∀ nm, nm ≠ Str.ofString "obj" → nm ≠ Str.ofString "__doc__" → nm ≠ Str.ofString "__qualname__" → mf nm = m0 nm) → h'.get? d = some { cls := .type "member_descriptor", data := .fields #[.str "obj" dt, .ref a, .builtin "proto.slot", .builtin "proto.slot#set", rawInt 0] } → s.heap.get? a = none → s.heap.get? N = none → (∀ b o, s.heap.get? b = some o → h'.get? b = some o) → h'.get? a = some (Mine.kcls N "cmp_to_key.<locals>.K" [.ref a, .type "object"] #[some (.ref bA), none, some (.str "K" t), some (.str "cmp_to_key.<locals>.K" qt), some (.builtin "object.__new__"), some (.bool false)] false ["obj"]) → Q (.ref a) ⟨h', #[], s.drawn, tk, s.os⟩) : wpAny (model prog w) A (call (.type "type") [.str "K" t, .ref bA, .ref nA]) Q E s :=
  Mine.tcall prog w A s bA nA t E Q (Mine.tn prog w A.in1.in1 s bA nA lA t ot qt veq vhash es e ep n ln E _ ms h1 h2 hsm h3 he hv hno m0 hk0 hm0 hq0 hd0 hd1 hd2 hd3 hd4 hd5 hdel hob heq hhash hvs hes hmod
    hA (by simp only [Around.in1]; omega) (by simp only [Around.in1]; omega) hg hst htp
    fun a N d dt mf h' tk x1 x2 x3 x4 x5 x5' x6 x7 => ⟨_, rfl, ⟨_, x7, rfl⟩,
      Mine.wp_room (A := A.in1) hA (by simp only [Around.in1]; omega) (by simp only [Around.in1]; omega) (Mine.tinit prog w _ rfl a N bA nA _ t E _ x7 fun h2 tk2 k => ⟨rfl, hQ a N d dt mf h2 tk2 (x1.keeps k) x2 x3 (k _ _ x4) x5 x5' (fun b o e => k _ _ (x6 b o e)) (k _ _ x7)⟩)⟩)
end

section
open PySem PySem.W PySem.W.X PyProof.Rows PySem.Spec PySem.Calls
set_option Elab.async false
set_option maxRecDepth 100000
set_option hygiene false in
local macro_rules | `(tactic| x_close) => `(tactic| first | exact hQ _ _ _ (Mine.mem_all (by assumption)) (Mine.mem_head (by assumption)))
set_option hygiene false in
local macro_rules | `(tactic| x_close) => `(tactic| first | exact hR _ _ _ (Mine.mem_all (by assumption)) (Mine.mem_head (by assumption)) (Mine.mem_new (by assumption)))
set_option maxHeartbeats 8000000 in
theorem Mine.prepC (prog : Program) (w : World) (s : Shared) (hg : s.gens = #[]) (mo bA : Addr) (kt : Tok) (n : Nat) (E Q : Value → Shared → Prop)
   (h1 : s.heap.get? bA = some ⟨.type "tuple", none, .seq #[.type "object"] n, #[]⟩)
   (h3 : s.heap.get? mo = some ⟨.type "builtin_function_or_method", none, .fields #[.builtin "type.__prepare__", .type "type"], #[]⟩)
   (hR : ∀ d h' tk, (∀ b o, s.heap.get? b = some o → h'.get? b = some o) → h'.get? d = some ⟨.type "dict", none, .dict #[] 0, #[]⟩ → s.heap.get? d = none → Q (.ref d) ⟨h', #[], s.drawn, tk, s.os⟩) :
   wpAny (model prog w) Mine.A0 (call (.ref mo) [.str "K" kt, .ref bA]) Q E s := by
  x_run
set_option hygiene false in
local macro_rules | `(tactic| x_close) => `(tactic| first | exact hS _ _ _ (Mine.mem_all (by assumption)) (Mine.mem_head (by assumption)))
set_option maxHeartbeats 8000000 in
theorem Mine.prepG (prog : Program) (w : World) (s : Shared) (hg : s.gens = #[]) (t : Tok) (E Q : Value → Shared → Prop)
   (hS : ∀ mo h' tk, (∀ b o, s.heap.get? b = some o → h'.get? b = some o) → h'.get? mo = some { cls := .type "builtin_function_or_method", data := .fields #[.builtin "type.__prepare__", .type "type"] } → Q (.ref mo) ⟨h', #[], s.drawn, tk, s.os⟩) :
   wpAny (model prog w) Mine.A0 (call (.builtin "type.__getattribute__") [.type "type", .str "__prepare__" t]) Q E s := by
  x_run
end

section
open PySem PySem.W PySem.W.X PyProof.Rows PySem.Spec PySem.Calls
set_option Elab.async false
set_option maxRecDepth 100000
theorem Mine.pa1 : typeOf (.type "type") = pure (.type "type") := by kernel_rfl
theorem Mine.pa2 : typeLookup (.type "type") "__getattribute__" = pure (some (.builtin "type.__getattribute__")) := by rw [typeLookup_type, builtinLookup_eq_fast]; kernel_rfl
theorem Mine.pa4 : typeOf (.builtin "type.__getattribute__") = pure (.type "wrapper_descriptor") := by show builtinType _ = _; rw [builtinType_eq_fast]; kernel_rfl
theorem Mine.pa3 : bindSpecial (.builtin "type.__getattribute__") (.type "type") = pure (.builtin "type.__getattribute__", [.type "type"]) := by
  unfold bindSpecial; rw [Mine.pa4]; rfl
theorem Mine.prep_attr {prog : Program} {w : World} {A : Around} {s : Shared} {E : Value → Shared → Prop} {Q : Option Value → Shared → Prop}
    (hA : A.handled = none) (hA2 : A.depth ≤ 800) (hA3 : A.units + 1 ≤ 5000) (hg : s.gens = #[])
    (hQ : ∀ mo h' tk, (∀ b o, s.heap.get? b = some o → h'.get? b = some o) → h'.get? mo = some { cls := .type "builtin_function_or_method", data := .fields #[.builtin "type.__prepare__", .type "type"] } → Q (some (.ref mo)) ⟨h', #[], s.drawn, tk, s.os⟩)
    : wpAny (model prog w) A (getAttr? (.type "type") "__prepare__") Q E s := by
  unfold getAttr? getAttrBy? getAttrBy
  refine wpAny_bind (wpAny_mkText (wpAny_bind (wpAny_attempt (wpAny_holding (wpAny_bind (wpAny_of_eq Mine.pa1 (wpAny_bind (wpAny_of_eq Mine.pa2 ?_))))))))
  refine wpAny_ite_false rfl ?_
  unfold getAttrByItsOwn hookBefore callGetattribute boundAndCalled
  refine wpAny_bind (wpAny_ite_false rfl (wpAny_pure ?_))
  refine wpAny_bind (wpAny_attempt (wpAny_holding ?_))
  refine wpAny_ite_false rfl ?_
  refine wpAny_bind (wpAny_of_eq Mine.pa3 ?_)
  refine Mine.wp_room hA hA2 (by omega) (Mine.prepG prog w ⟨s.heap, s.gens, s.drawn, s.toks + 1, s.os⟩ hg _ _ _ fun mo h' tk k1 k2 => ?_)
  exact wpAny_pure (wpAny_pure (hQ mo h' tk k1 k2))
end

section
open PySem PySem.W PySem.W.X PyProof.Rows PySem.Spec PySem.Calls
set_option Elab.async false
set_option maxRecDepth 100000
def Mine.Bd (h : Heap) (a : Addr) (m : Str → Option Value) (k : Nat) : Prop :=
  ∃ es ep, h.get? a = some ⟨.type "dict", none, .dict es ep, #[]⟩ ∧ StrKeys es ∧ (∀ x, nsFind es x = m x) ∧ es.size ≤ k ∧ ∀ e ∈ es, Mine.vok h e.val
theorem Mine.Bd.ns {h : Heap} {a : Addr} {m : Str → Option Value} {k : Nat} (x : Mine.Bd h a m k) : h.Ns a m := by
  obtain ⟨es, ep, h1, h2, h3, _⟩ := x
  exact ⟨_, es, ep, h1, rfl, h2, h3⟩
theorem Mine.Bd.keeps {h h' : Heap} {a : Addr} {m : Str → Option Value} {k : Nat} (x : Mine.Bd h a m k) (hk : ∀ b o, h.get? b = some o → h'.get? b = some o) : Mine.Bd h' a m k := by
  obtain ⟨es, ep, h1, h2, h3, h4, h5⟩ := x
  exact ⟨es, ep, hk _ _ h1, h2, h3, h4, fun e he => (h5 e he).mono hk⟩
def Mine.up (m : Str → Option Value) (n : Str) (v : Value) : Str → Option Value := fun x => if x = n then some v else m x
theorem Mine.vok.but {h h' : Heap} {v : Value} {P : Addr} (x : Mine.vok h v) (hk : ∀ b o, b ≠ P → h.get? b = some o → h'.get? b = some o) (hP : ∀ o T, h.get? P = some o → o.cls ≠ .type T) : Mine.vok h' v := by
  rcases x with x | x | x | ⟨b, o, T, e1, e2, e3, e4⟩
  · exact .inl x
  · exact .inr (.inl x)
  · exact .inr (.inr (.inl x))
  · exact .inr (.inr (.inr ⟨b, o, T, e1, hk _ _ (fun q => hP o T (q ▸ e2) e3) e2, e3, e4⟩))
theorem Mine.Bd.but {h h' : Heap} {a : Addr} {m : Str → Option Value} {k : Nat} {P : Addr} (x : Mine.Bd h a m k) (hk : ∀ b o, b ≠ P → h.get? b = some o → h'.get? b = some o) (hP : ∀ o T, h.get? P = some o → o.cls ≠ .type T) : Mine.Bd h' a m k := by
  obtain ⟨es, ep, h1, h2, h3, h4, h5⟩ := x
  exact ⟨es, ep, hk _ _ (fun q => hP _ "dict" (q ▸ h1) rfl) h1, h2, h3, h4, fun e he => (h5 e he).but hk hP⟩
theorem Mine.vok.same {h h' : Heap} {v : Value} {a : Addr} (x : Mine.vok h v) (hs : Heap.SameBut a h h') (hl : ∃ o o', h.get? a = some o ∧ h'.get? a = some o' ∧ o'.cls = o.cls) : Mine.vok h' v := by
  rcases x with x | x | x | ⟨b, o, T, e1, e2, e3, e4⟩
  · exact .inl x
  · exact .inr (.inl x)
  · exact .inr (.inr (.inl x))
  · by_cases hb : b = a
    · subst hb
      obtain ⟨o1, o2, q1, q2, q3⟩ := hl
      rw [q1] at e2; cases e2
      exact .inr (.inr (.inr ⟨_, o2, T, e1, q2, q3.trans e3, e4⟩))
    · exact .inr (.inr (.inr ⟨b, o, T, e1, (hs.2 b hb).trans e2, e3, e4⟩))
section
open Sem (wp)
theorem Mine.wp_bd (M : Model) (Γ : PySem.Ctx) (E : Value → Pos → Shared → Prop) (p : Pos) (s : Shared) {a : Addr} {m : Str → Option Value} {k : Nat} {name : Str} {v : Value} {Q : Unit → Pos → Shared → Prop} (hb : Mine.Bd s.heap a m k) (hv : Mine.vok s.heap v)
    (h : ∀ h', Mine.Bd h' a (Mine.up m name v) (k + 1) → Heap.SameBut a s.heap h' → Q () p { s with heap := h', toks := s.toks + 1 }) : wp M Γ (nsSet a name v) Q E p s := by
  obtain ⟨es, ep, ho, hk, hm, hz, hV⟩ := hb
  simp only [nsSet, strHash, Sem.wp_bind', Sem.wp_cmd_ask, Sem.wp_pure', Sem.wp_cmd_mkText]
  rw [Sem.wp_loadPart_of M Γ E p { s with toks := s.toks + 1 } (o := _) _ ho]
  have hany : es.any (·.refKey) = false := by
    rw [Array.any_eq_false']; intro e he; obtain ⟨n, t, h⟩ := hk e he; simp [DictEntry.refKey, h]
  simp only [aRefKeyMayBeTheName_eq, aRefKeyMayBeTheNameByArray, hany, Bool.and_false, Bool.false_eq_true, if_false, Sem.wp_cmd_updatePart]
  refine ⟨by rw [ho]; rfl, h _ ?_ (Heap.SameBut.update ..)⟩
  cases hi : es.findIdx? (·.key.isStr name) with
  | some i =>
    have hg : ∀ (hh : Int) (key : Value), (s.heap.update a (Obj.putName name hh key v)).get? a = some ⟨.type "dict", none, .dict (es.modify i fun e => { e with val := v }) ep, #[]⟩ := fun hh key => (Heap.get?_update_self (h := s.heap) (Obj.putName name hh key v) ho (by simp only [Obj.putName_eq, Obj.putNameByArray, hi]; rfl)).trans (by simp only [Obj.putName_eq, Obj.putNameByArray, hi])
    have hs := fun (hh : Int) (key : Value) => Heap.SameBut.update s.heap a (Obj.putName name hh key v)
    refine ⟨_, ep, hg _ _, hk.modify _ _, fun x => ?_, by simp; omega, fun e he => ?_⟩
    · show _ = if x = name then some v else m x
      rw [← hm]; exact findBy_modify (fun n v => v.isStr n) Value.isStr_inj es name x v i hi
    · refine Mine.vok.same ?_ (hs _ _) ⟨_, _, ho, hg _ _, rfl⟩
      obtain ⟨j, hj, rfl⟩ := Array.mem_iff_getElem.mp he
      rw [Array.getElem_modify]
      split
      · exact hv
      · exact hV _ (Array.getElem_mem _)
  | none =>
    have hg : ∀ (hh : Int) (key : Value), (s.heap.update a (Obj.putName name hh key v)).get? a = some ⟨.type "dict", none, .dict (es.push ⟨hh, key, v⟩) (ep + 1), #[]⟩ := fun hh key => (Heap.get?_update_self (h := s.heap) (Obj.putName name hh key v) ho (by simp only [Obj.putName_eq, Obj.putNameByArray, hi]; rfl)).trans (by simp only [Obj.putName_eq, Obj.putNameByArray, hi])
    have hs := fun (hh : Int) (key : Value) => Heap.SameBut.update s.heap a (Obj.putName name hh key v)
    refine ⟨_, ep + 1, hg _ _, hk.push _ _ _ _, fun x => ?_, by simp; omega, fun e he => ?_⟩
    · show _ = if x = name then some v else m x
      rw [← hm]
      exact findBy_push (fun n v => v.isStr n) es name x _ _ v (fun y => by
        show (name == y) = decide (y = name)
        by_cases h : y = name
        · subst h; simp
        · have : ¬ name = y := fun e => h e.symm
          simp [h, this]) hi
    · refine Mine.vok.same ?_ (hs _ _) ⟨_, _, ho, hg _ _, rfl⟩
      rcases Array.mem_push.mp he with he | rfl
      · exact hV e he
      · exact hv
theorem Mine.bd_set {M : Model} {A : Around} {E : Value → Shared → Prop} {s : Shared} {a : Addr} {m : Str → Option Value} {k : Nat} {name : Str} {v : Value} {Q : Unit → Shared → Prop} (hb : Mine.Bd s.heap a m k) (hv : Mine.vok s.heap v)
    (h : ∀ h', Mine.Bd h' a (Mine.up m name v) (k + 1) → Heap.SameBut a s.heap h' → Q () { s with heap := h', toks := s.toks + 1 }) : wpAny M A (nsSet a name v) Q E s :=
  fun Γ p _ => Mine.wp_bd M Γ _ p s hb hv h
end
end

section
open PySem PySem.W PySem.W.X PyProof.Rows PySem.Spec PySem.Calls
set_option Elab.async false
set_option maxRecDepth 100000
theorem Mine.sn5 : typeLookup (.type "function") "__set_name__" = pure none := by rw [typeLookup_type, builtinLookup_eq_fast]; kernel_rfl
theorem Mine.sn6 : typeLookup (.type "list") "__set_name__" = pure none := by rw [typeLookup_type, builtinLookup_eq_fast]; kernel_rfl
theorem Mine.sn7 : typeLookup (.type "tuple") "__set_name__" = pure none := by rw [typeLookup_type, builtinLookup_eq_fast]; kernel_rfl
structure Mine.CB0 (mg : Str → Option Value) (h0 : Heap) (nA P c : Addr) : Prop where
  g : h0.Ns mainGlobals mg
  bm : ∃ bm o, mg "__builtins__" = some (.ref bm) ∧ bm ≠ builtinsNs ∧ bm ≠ mainGlobals ∧ h0.get? bm = some o ∧ o.cls = .type "module" ∧ o.dict = some builtinsNs ∧ o.data = .plain
  hd : CodeHd h0 c P
  n1 : mainGlobals ≠ nA
  n2 : mainGlobals ≠ P
  n3 : c ≠ nA
  n4 : nA ≠ P
  dA : ∃ o, h0.get? nA = some o ∧ o.cls = .type "dict"
  dP : ∃ o, h0.get? P = some o ∧ o.cls = .none
structure Mine.CodeK (h : Heap) (nA P : Addr) (v : Value) (q : Str) : Prop where
  ex : ∃ c, v = .ref c ∧ c ≠ nA ∧ c ≠ P
  rc : h.CodeRec v q
structure Mine.CB (h0 : Heap) (nA P : Addr) (qf : Nat → Str) (m : Str → Option Value) (k : Nat) (h : Heap) : Prop where
  keep : ∀ b o, b ≠ nA → b ≠ P → h0.get? b = some o → h.get? b = some o
  bd : Mine.Bd h nA m k
  tab : ∃ ps, h.get? P = some (tabObj ps) ∧ TriplesOk ps.toList ∧ ∀ pos v, codeAmong pos ps.toList = some v → Mine.CodeK h nA P v (qf pos.line)
def Mine.Kp (nA P : Addr) (h h' : Heap) : Prop := ∀ b o, b ≠ nA → b ≠ P → h.get? b = some o → h'.get? b = some o
theorem Mine.CodeK.kp {h h' : Heap} {nA P : Addr} {v : Value} {q : Str} (x : Mine.CodeK h nA P v q) (hk : Mine.Kp nA P h h') : Mine.CodeK h' nA P v q := by
  obtain ⟨⟨c, e1, e2, e3⟩, c', o, vs, t, e4, e5, e6⟩ := x
  rw [e1] at e4; cases e4
  exact ⟨⟨c, e1, e2, e3⟩, c, o, vs, t, e1, hk _ _ e2 e3 e5, e6⟩
def Mine.FnAt (h : Heap) (nA P f : Addr) (name qual : Str) (params : Arguments) (body : List Stmt) (scope : Scope) (clos : List (Str × Addr)) : Prop :=
  f ≠ nA ∧ f ≠ P ∧ ∃ doc pm cv ctv, Mine.CodeK h nA P cv qual ∧ h.get? f = some { cls := .type "function", data := .func (kdv_fn name qual params (.stmts body) scope clos .none doc pm cv ctv) }
theorem Mine.FnAt.kp {h h' : Heap} {nA P f : Addr} {name qual : Str} {params : Arguments} {body : List Stmt} {scope : Scope} {clos : List (Str × Addr)} (x : Mine.FnAt h nA P f name qual params body scope clos) (hk : Mine.Kp nA P h h') : Mine.FnAt h' nA P f name qual params body scope clos := by
  obtain ⟨n1, n2, doc, pm, cv, ctv, e1, e2⟩ := x
  exact ⟨n1, n2, doc, pm, cv, ctv, e1.kp hk, hk _ _ n1 n2 e2⟩
theorem Mine.FnAt.vok {h : Heap} {nA P f : Addr} {name qual : Str} {params : Arguments} {body : List Stmt} {scope : Scope} {clos : List (Str × Addr)} (x : Mine.FnAt h nA P f name qual params body scope clos) : Mine.vok h (.ref f) := by
  obtain ⟨n1, n2, doc, pm, cv, ctv, e1, e2⟩ := x
  exact .inr (.inr (.inr ⟨f, _, "function", rfl, e2, rfl, Mine.sn5⟩))

theorem Mine.codeAmong_snoc' {p p' : Pos} {c v : Value} (l : List Value) (h : TriplesOk l) (hf : codeAmong p' (l ++ [rawInt p.line, rawInt p.col, c]) = some v) : codeAmong p' l = some v ∨ (v = c ∧ p'.line = p.line) := by
  fun_induction TriplesOk l with
  | case1 =>
    simp only [List.nil_append, codeAmong, rawInt] at hf
    split at hf
    · cases hf
      rename_i hc
      refine .inr ⟨rfl, ?_⟩
      simp at hc
      omega
    · cases hf
  | case2 a t b u x rest ih =>
    simp only [List.cons_append, codeAmong] at hf ⊢
    split at hf
    · rename_i hc; rw [if_pos hc]; exact .inl hf
    · rename_i hc; rw [if_neg hc]; exact ih h hf
  | case3 l h1 h2 => exact h.elim

section
variable {M : Model} {A : Around} {E : Value → Shared → Prop} {s : Shared} {env : Env} {mg : Str → Option Value} {h0 : Heap} {nA P c : Addr} {qf : Nat → Str} {m : Str → Option Value} {k : Nat} {name : Str}
theorem Mine.cs_store {v : Value} {Q : Unit → Shared → Prop} (hk : env.scope.kind = .class) (hl : env.locals = nA) (hn : env.kindOf name = some .local ∨ (env.kindOf name = none ∧ compilersOwnNames.contains name = true)) (C : Mine.CB h0 nA P qf m k s.heap) (C0 : Mine.CB0 mg h0 nA P c)
    (hv : Mine.vok s.heap v) (h : ∀ h', Mine.CB h0 nA P qf (Mine.up m name v) (k + 1) h' → Mine.Kp nA P s.heap h' → Q () ⟨h', s.gens, s.drawn, s.toks + 1, s.os⟩) : wpAny M A (storeName env name v) Q E s := by
  have main : wpAny M A (localSet env name v) Q E s := by
    unfold localSet
    obtain ⟨es, ep, ho, _⟩ := id C.bd
    rw [hl]
    refine wpAny_bind (wpAny_load ho (wpAny_ite_true rfl (Mine.bd_set C.bd hv fun h' b' hs => h h' ⟨?_, b', ?_⟩ ?_)))
    · exact fun b o n1 n2 e => (hs.2 b n1).trans (C.keep b o n1 n2 e)
    · obtain ⟨ps, e1, e2, e3⟩ := C.tab
      exact ⟨ps, (hs.2 P C0.n4.symm).trans e1, e2, fun pos v e => (e3 pos v e).kp fun b o n1 n2 e => (hs.2 b n1).trans e⟩
    · exact fun b o n1 n2 e => (hs.2 b n1).trans e
  unfold storeName
  rcases hn with hn | ⟨hn, hn2⟩
  · rw [hn]
    rw [if_neg (by rw [show (some NameKind.local == some NameKind.globalImplicit) = false from rfl]; simp)]
    show wpAny M A (if _ then _ else _) _ _ _
    exact wpAny_ite_true (by rw [hk]; rfl) main
  · rw [hn]
    rw [if_neg (by rw [show ((none : Option NameKind) == some NameKind.globalImplicit) = false from rfl]; simp)]
    have e1 : env.blockKind = .class := by unfold Env.blockKind; rw [hk]; rfl
    refine wpAny_ite_false (by rw [e1, hk, hn2]; rfl) ?_
    exact wpAny_ite_true (by rw [hk]; rfl) main
theorem Mine.cb_make {params : Arguments} {body : List Stmt} {scope : Scope} {pos : Pos} {clos : List (Str × Addr)} {Q : Value → Shared → Prop} {qual : Str} {ln : Nat} (hk0 : env.globals = mainGlobals) (hcode : env.code = .ref c) (hcl : closureFor scope env = pure clos) (C0 : Mine.CB0 mg h0 nA P c) (C : Mine.CB h0 nA P qf m k s.heap) (hq : qf pos.line = qual)
    (h : ∀ f h' tk, Mine.FnAt h' nA P f name qual params body scope clos → Mine.CB h0 nA P qf m k h' → Mine.Kp nA P s.heap h' → Q (.ref f) ⟨h', s.gens, s.drawn, tk, s.os⟩) :
    wpAny M A (makeFunction name qual params (.stmts body) scope env [] [] [] pos ln) Q E s := by
  rw [makeFunction_eq]
  simp only [List.zip_nil_right, List.filterMap_nil, List.isEmpty_nil, if_true, pure_bind]
  obtain ⟨oA, hA1, hA2⟩ := C0.dA
  obtain ⟨oP, hP1, hP2⟩ := C0.dP
  have hns : s.heap.Ns mainGlobals mg := by
    obtain ⟨o, es, ep, e, r⟩ := C0.g
    exact ⟨o, es, ep, C.keep _ _ C0.n1 C0.n2 e, r⟩
  have hhd : CodeHd s.heap c P := by
    obtain ⟨o, vs, file, tf, flags, tg, inF, text, tt, e, r⟩ := C0.hd
    refine ⟨o, vs, file, tf, flags, tg, inF, text, tt, C.keep _ _ C0.n3 ?_ e, r⟩
    exact r.2.2.2.2.2.2.2.2
  have hbm : s.heap.BuiltinsAt mg P := by
    obtain ⟨bm, o, b1, b2, b3, b4, b5, b6⟩ := C0.bm
    have n1 : bm ≠ P := fun q => by rw [q, hP1] at b4; cases b4; rw [hP2] at b5; cases b5
    have n2 : bm ≠ nA := fun q => by rw [q, hA1] at b4; cases b4; rw [hA2] at b5; simp at b5
    exact ⟨bm, o, b1, b2, b3, n1, C.keep _ _ n2 n1 b4, b5, b6⟩
  obtain ⟨ps, p1, p2, p3⟩ := C.tab
  obtain ⟨es, ep, ho, hbr⟩ := id C.bd
  cases hf : codeAmong pos ps.toList with
  | some cv =>
    refine kdv_makeTailHit hcl hk0 hns hcode hhd p1 p2 hf hbm fun ctv doc h' tk hk1 hsz => ?_
    have hk2 : ∀ b o, s.heap.get? b = some o → (h'.push { cls := .type "function", data := .func (kdv_fn name qual params (.stmts body) scope clos .none doc ((mg "__name__").getD .none) cv ctv) }).get? b = some o := fun b o e => Heap.get?_push_of_some _ (hk1 b o e)
    refine h h'.objs.size _ tk ⟨?_, ?_, doc, _, cv, ctv, ((hq ▸ p3 pos cv hf).kp fun b o _ _ e => hk2 b o e), Heap.get?_push_size _ rfl⟩ ⟨fun b o n1 n2 e => hk2 _ _ (C.keep b o n1 n2 e), C.bd.keeps hk2, ps, hk2 _ _ p1, p2, fun pos v e => (p3 pos v e).kp fun b o _ _ e => hk2 b o e⟩ fun b o _ _ e => hk2 b o e
    · exact fun q => Nat.lt_irrefl _ (q ▸ Heap.lt_size (hk1 _ _ ho))
    · exact fun q => Nat.lt_irrefl _ (q ▸ Heap.lt_size (hk1 _ _ p1))
  | none =>
    refine kdv_makeTail hcl hk0 hns hcode hhd p1 p2 hf C0.n2 hbm fun c' ctv doc h' tk hx hge hlt hrec htb => ?_
    have hk2 : ∀ b o, b ≠ P → s.heap.get? b = some o → (h'.push (kdv_obj name qual params (.stmts body) scope clos .none doc ((mg "__name__").getD .none) c' ctv)).get? b = some o := fun b o n e => Heap.get?_push_of_some _ (hx b o n e)
    have nc1 : c' ≠ nA := fun q => Nat.lt_irrefl c' (Nat.lt_of_lt_of_le (q ▸ Heap.lt_size ho) hge)
    have nc2 : c' ≠ P := fun q => Nat.lt_irrefl c' (Nat.lt_of_lt_of_le (q ▸ Heap.lt_size p1) hge)
    have hbd : Mine.Bd (h'.push (kdv_obj name qual params (.stmts body) scope clos .none doc ((mg "__name__").getD .none) c' ctv)) nA m k := C.bd.but hk2 fun o T e q => by rw [p1] at e; cases e; cases q
    have hnc : Mine.CodeK (h'.push (kdv_obj name qual params (.stmts body) scope clos .none doc ((mg "__name__").getD .none) c' ctv)) nA P (.ref c') qual := ⟨⟨c', rfl, nc1, nc2⟩, hrec.push _⟩
    have lt1 : nA < h'.objs.size := Heap.lt_size (hx _ _ C0.n4 ho)
    have lt2 : P < h'.objs.size := Heap.lt_size htb
    refine h h'.objs.size _ tk ⟨Nat.ne_of_gt lt1, Nat.ne_of_gt lt2, doc, _, _, ctv, hnc, Heap.get?_push_size _ rfl⟩ ⟨fun b o n1 n2 e => hk2 _ _ n2 (C.keep b o n1 n2 e), hbd, _, Heap.get?_push_of_some _ htb, ?_, ?_⟩ fun b o _ n e => hk2 b o n e
    · rw [Array.toList_append]; exact TriplesOk_snoc _ _ _ _ p2
    · intro pos' v e
      rw [Array.toList_append] at e
      rcases Mine.codeAmong_snoc' _ p2 e with q | ⟨q1, q2⟩
      · exact (p3 pos' v q).kp fun b o _ n e => hk2 b o n e
      · rw [q1, q2, hq]; exact hnc
theorem Mine.cb_def {params : Arguments} {body : List Stmt} {scope : Scope} {pos : Pos} {clos : List (Str × Addr)} {Q : Flow → Shared → Prop} (hk : env.scope.kind = .class) (hl : env.locals = nA) (hn : env.kindOf name = some .local) (hk0 : env.globals = mainGlobals) (hcode : env.code = .ref c) (hcl : closureFor scope env = pure clos)
    (hd : params.defaults = []) (hd2 : params.kw_defaults = []) (ha : annTrees params none env = []) (C0 : Mine.CB0 mg h0 nA P c) (C : Mine.CB h0 nA P qf m k s.heap) (hq : qf pos.line = qualnameIn env name name)
    (h : ∀ f h' tk, Mine.FnAt h' nA P f name (qualnameIn env name name) params body scope clos → Mine.CB h0 nA P qf (Mine.up m name (.ref f)) (k + 1) h' → Mine.Kp nA P s.heap h' → Q .next ⟨h', s.gens, s.drawn, tk, s.os⟩) :
    wpAny M A (exec (.FunctionDef name params body [] none [] scope none name pos) env) Q E s := by
  rw [exec_def]
  refine wpAny_bind (wpAny_standAt (wpAny_bind (wpAny_holding ?_)))
  rw [defaultsOf_eq, hd, hd2, ha]
  refine wpAny_bind (evalAll_nil (wpAny_bind (wpAny_holding (wpAny_pure ?_))))
  refine wpAny_holding (wpAny_bind (wpAny_pure ?_))
  refine Mine.cb_make hk0 hcode hcl C0 C hq fun f h1 tk hf C1 k1 => ?_
  refine wpAny_bind (wpAny_standAt (wpAny_bind (wpAny_bindName ?_)))
  exact Mine.cs_store (s := ⟨h1, s.gens, s.drawn, tk, s.os⟩) hk hl (.inl hn) C1 C0 hf.vok fun h2 C2 k2 => wpAny_pure (h f h2 _ (hf.kp k2) C2 fun b o n1 n2 e => k2 b o n1 n2 (k1 b o n1 n2 e))
theorem Mine.cb_new {Q : Value → Shared → Prop} {T : String} {data : Data} (hz : sizeOk data) (ho : Obj.isFreed { cls := .type T, dict := none, data } = false) (C : Mine.CB h0 nA P qf m k s.heap)
    (h : ∀ b h', h'.get? b = some { cls := .type T, dict := none, data } → b ≠ nA → b ≠ P → Mine.CB h0 nA P qf m k h' → Mine.Kp nA P s.heap h' → Q (.ref b) ⟨h', s.gens, s.drawn, s.toks, s.os⟩) : wpAny M A (newObj (.type T) data) Q E s := by
  refine Mine.newObj_abs hz ho fun b H1 hb kH1 nb => ?_
  obtain ⟨es, ep, hA, _⟩ := id C.bd
  obtain ⟨ps, hP, p2, p3⟩ := C.tab
  refine h b H1 hb (fun q => by rw [q, hA] at nb; cases nb) (fun q => by rw [q, hP] at nb; cases nb) ⟨fun b o n1 n2 e => kH1 b o (C.keep b o n1 n2 e), C.bd.keeps kH1, ps, kH1 _ _ hP, p2, fun pos v e => (p3 pos v e).kp fun b o _ _ e => kH1 b o e⟩ fun b o _ _ e => kH1 b o e
end
end

section
open PySem PySem.W PySem.W.X PyProof.Rows PySem.Spec PySem.Calls
set_option Elab.async false
set_option maxRecDepth 100000
section
variable {M : Model} {A : Around} {E : Value → Shared → Prop} {s : Shared} {env : Env} {c P : Addr} {ps : Array Value} {pos : Pos} {ln : Nat} {name qual : Str} {scope : Scope} {Q : Value → Shared → Prop}
theorem Mine.cc_new (hc : env.code = .ref c) (C : CodeHd s.heap c P) (hP : s.heap.get? P = some (tabObj ps)) (ht : TriplesOk ps.toList) (hnf : codeAmong pos ps.toList = none)
    (h : ∀ c' P' h' tk, Heap.ExtBut P s.heap h' → s.heap.objs.size ≤ c' → s.heap.objs.size ≤ P' → CodeHd h' c' P' → h'.get? P' = some (tabObj #[]) → h'.CodeRec (.ref c') qual →
      h'.get? P = some (tabObj (ps ++ #[rawInt pos.line, rawInt pos.col, .ref c'])) → Q (.ref c') { s with heap := h', toks := tk }) :
    wpAny M A (classCode env pos ln name qual scope) Q E s := by
  obtain ⟨o, vs, file, tf, flags, tg, inF, text, tt, op, ho, hd, h11, h2, h7, h9, h10, hop, hpd, htr, hne⟩ := C.code hP ht
  have e1 : op = tabObj ps := Option.some.inj (hop.symm.trans hP)
  subst e1
  unfold classCode codeAt
  rw [hc, if_neg (show ¬ ((Value.ref c == Value.none) = true) from Bool.false_ne_true)]
  refine wpAny_bind (wpAny_fieldsOf ho hd ?_)
  rw [h11]
  refine wpAny_bind (wpAny_fieldsOf hop rfl ?_)
  rw [hnf, h2, h7, h9, h10]
  refine wpAny_bind (wpAny_newCodeX fun c' P' h' tk hk hc' hP' hcode' htab' hrec' => ?_)
  have hop' := hk _ _ hop
  refine wpAny_bind (wpAny_updateFieldsOfTheText hop' rfl ?_)
  have hnew : Obj.mapFields (fun vs => if (codeAmong pos vs.toList).isSome = true then vs else vs ++ #[rawInt pos.line, rawInt pos.col, .ref c']) (tabObj ps) = tabObj (ps ++ #[rawInt pos.line, rawInt pos.col, .ref c']) := by
    simp only [tabObj, Obj.mapFields, hnf]; rfl
  have hget := Heap.get?_update_self (h := h') (fun o => Obj.mapFields (fun vs => if (codeAmong pos vs.toList).isSome = true then vs else
    vs ++ #[rawInt pos.line, rawInt pos.col, .ref c']) o) hop' (by rw [hnew]; rfl)
  rw [hnew] at hget
  refine wpAny_bind (wpAny_fieldsOf hget rfl ?_)
  rw [Array.toList_append, codeAmong_snoc _ htr hnf]
  have hs : Heap.SameBut P h' _ := Heap.SameBut.update h' P fun o => Obj.mapFields (fun vs => if (codeAmong pos vs.toList).isSome = true then vs else vs ++ #[rawInt pos.line, rawInt pos.col, .ref c']) o
  have hcP : c' ≠ P := Nat.ne_of_gt (Nat.lt_of_lt_of_le (Heap.lt_size hop) hc')
  have hPP : P' ≠ P := Nat.ne_of_gt (Nat.lt_of_lt_of_le (Heap.lt_size hop) hP')
  refine wpAny_pure (h c' P' _ _ (fun b o' hb e => hs.extBut b o' hb (hk b o' e)) hc' hP' ?_ ((hs.2 _ hPP).trans htab'.2) ?_ hget)
  · obtain ⟨o1, vs1, file1, tf1, flags1, tg1, inF1, text1, tt1, q1, q2⟩ := CodeHd.of hcode' htab'
    exact ⟨o1, vs1, file1, tf1, flags1, tg1, inF1, text1, tt1, (hs.2 _ hcP).trans q1, q2⟩
  · obtain ⟨c₂, o₂, vs₂, t₂, e₂, g₂, r₂⟩ := hrec'
    cases e₂
    exact ⟨_, o₂, vs₂, t₂, rfl, (hs.2 _ hcP).trans g₂, r₂⟩
end
end

section
open PySem PySem.W PySem.W.X PyProof.Rows PySem.Spec PySem.Calls
set_option Elab.async false
set_option maxRecDepth 100000
def Mine.kBody : List Stmt := match Mine.bo 1 with | .ClassDef _ _ _ b _ _ _ _ _ _ _ :: _ => b | _ => []
def Mine.kSc : Scope := match Mine.bo 1 with | .ClassDef _ _ _ _ _ _ s _ _ _ _ :: _ => s | _ => Mine.sc 1
def Mine.kPos : Pos := match Mine.bo 1 with | .ClassDef _ _ _ _ _ _ _ _ _ _ p :: _ => p | _ => ⟨0, 0, 0, 0⟩
def Mine.kSt (n : Nat) : Stmt := (Mine.kBody[n]?).getD (.Pass ⟨0, 0, 0, 0⟩)
def Mine.kPa (n : Nat) : Arguments := match Mine.kSt n with | .FunctionDef _ a _ _ _ _ _ _ _ _ => a | _ => Mine.pa 1
def Mine.kBo (n : Nat) : List Stmt := match Mine.kSt n with | .FunctionDef _ _ b _ _ _ _ _ _ _ => b | _ => []
def Mine.kFs (n : Nat) : Scope := match Mine.kSt n with | .FunctionDef _ _ _ _ _ _ s _ _ _ => s | _ => Mine.sc 1
def Mine.kQ : Str := "cmp_to_key.<locals>.K"
def Mine.kEnv (nA c fr cl : Addr) : Env := { scope := Mine.kSc, locals := nA, globals := mainGlobals, cells := [("mycmp", cl)], qual := Mine.kQ ++ ".", code := .ref c, frame := some fr, builtins := builtinsNs }
def Mine.qf (l : Nat) : Str := if l = 8 then "cmp_to_key.<locals>.K.__init__" else if l = 11 then "cmp_to_key.<locals>.K.__lt__" else if l = 14 then "cmp_to_key.<locals>.K.__gt__" else if l = 17 then "cmp_to_key.<locals>.K.__eq__" else if l = 20 then "cmp_to_key.<locals>.K.__le__" else "cmp_to_key.<locals>.K.__ge__"
def Mine.kMap (m : Str → Option Value) (md : Value) (lA f2 f3 f4 f5 f6 f7 : Addr) : Str → Option Value :=
  Mine.up (Mine.up (Mine.up (Mine.up (Mine.up (Mine.up (Mine.up (Mine.up (Mine.up m "__module__" md) "__slots__" (.ref lA)) "__init__" (.ref f2)) "__lt__" (.ref f3)) "__gt__" (.ref f4)) "__eq__" (.ref f5)) "__le__" (.ref f6)) "__ge__" (.ref f7)) "__hash__" .none
section
variable {M : Model} {A : Around} {E : Value → Shared → Prop} {s : Shared} {mg : Str → Option Value} {h0 : Heap} {nA P c fr cl : Addr} {m : Str → Option Value} {k : Nat} {name : Str}
theorem Mine.kcl (nA c fr cl : Addr) : closureFor (Mine.kFs 3) (Mine.kEnv nA c fr cl) = pure [(("mycmp" : Str), cl)] := by rfl
theorem Mine.kcl0 (nA c fr cl : Addr) : closureFor (Mine.kFs 2) (Mine.kEnv nA c fr cl) = pure [] := by rfl
theorem Mine.kp_trans {nA P : Addr} {h h' h'' : Heap} (x : Mine.Kp nA P h h') (y : Mine.Kp nA P h' h'') : Mine.Kp nA P h h'' := fun b o n1 n2 e => y b o n1 n2 (x b o n1 n2 e)
def Mine.FnK (h : Heap) (nA P f cl : Addr) (n : Nat) (name qual : Str) : Prop := Mine.FnAt h nA P f name qual (Mine.kPa n) (Mine.kBo n) (Mine.kFs n) (if n = 2 then [] else [("mycmp", cl)])
set_option maxHeartbeats 4000000 in
theorem Mine.kbody {Q : Flow → Shared → Prop} (C0 : Mine.CB0 mg h0 nA P c) (C : Mine.CB h0 nA P Mine.qf m k s.heap)
   (h : ∀ lA f2 f3 f4 f5 f6 f7 md ot h' tk, (∃ x t, md = .str x t) → h'.get? lA = some (seqObj "list" [Value.str "obj" ot].toArray 0) → lA ≠ nA → lA ≠ P → Mine.FnK h' nA P f2 cl 2 "__init__" "cmp_to_key.<locals>.K.__init__" → Mine.FnK h' nA P f3 cl 3 "__lt__" "cmp_to_key.<locals>.K.__lt__" →
     Mine.CB h0 nA P Mine.qf (Mine.kMap m md lA f2 f3 f4 f5 f6 f7) (k + 9) h' → Mine.Kp nA P s.heap h' → Q .next ⟨h', s.gens, s.drawn, tk, s.os⟩) :
   wpAny M A (execs Mine.kBody (Mine.kEnv nA c fr cl)) Q E s := by
  refine wpAny_execs_cons (wpAny_Assign_Name (wpAny_mkText ?_))
  refine Mine.cs_store (s := ⟨s.heap, s.gens, s.drawn, s.toks + 1, s.os⟩) rfl rfl (.inl rfl) C C0 (.inl ⟨_, _, rfl⟩) fun h1 C1 k1 => ?_
  refine wpAny_execs_cons (wpAny_Assign_Name ?_)
  rw [arm_eval_List]
  refine wpAny_bind (wpAny_standAt (wpAny_bind (Calls.spliced_cons (wpAny_mkText (Calls.spliced_nil ?_)))))
  refine Mine.cb_new (s := ⟨h1, s.gens, s.drawn, s.toks + 1 + 1 + 1, s.os⟩) (T := "list") (data := .seq #[_]) (by size_fits) rfl C1 fun lA h2 l2 n1 n2 C2 k2 => ?_
  refine Mine.cs_store (s := ⟨h2, s.gens, s.drawn, s.toks + 1 + 1 + 1, s.os⟩) rfl rfl (.inl rfl) C2 C0 (.inr (.inr (.inr ⟨lA, _, "list", rfl, l2, rfl, Mine.sn6⟩))) fun h3 C3 k3 => ?_
  refine wpAny_execs_cons (Mine.cb_def (s := ⟨h3, s.gens, s.drawn, s.toks + 1 + 1 + 1 + 1, s.os⟩) rfl rfl rfl rfl rfl (Mine.kcl0 nA c fr cl) rfl rfl rfl C0 C3 rfl fun f2 h4 t4 F2 C4 k4 => ?_)
  refine wpAny_execs_cons (Mine.cb_def (s := ⟨h4, s.gens, s.drawn, t4, s.os⟩) rfl rfl rfl rfl rfl (Mine.kcl nA c fr cl) rfl rfl rfl C0 C4 rfl fun f3 h5 t5 F3 C5 k5 => ?_)
  refine wpAny_execs_cons (Mine.cb_def (s := ⟨h5, s.gens, s.drawn, t5, s.os⟩) rfl rfl rfl rfl rfl (Mine.kcl nA c fr cl) rfl rfl rfl C0 C5 rfl fun f4 h6 t6 F4 C6 k6 => ?_)
  refine wpAny_execs_cons (Mine.cb_def (s := ⟨h6, s.gens, s.drawn, t6, s.os⟩) rfl rfl rfl rfl rfl (Mine.kcl nA c fr cl) rfl rfl rfl C0 C6 rfl fun f5 h7 t7 F5 C7 k7 => ?_)
  refine wpAny_execs_cons (Mine.cb_def (s := ⟨h7, s.gens, s.drawn, t7, s.os⟩) rfl rfl rfl rfl rfl (Mine.kcl nA c fr cl) rfl rfl rfl C0 C7 rfl fun f6 h8 t8 F6 C8 k8 => ?_)
  refine wpAny_execs_cons (Mine.cb_def (s := ⟨h8, s.gens, s.drawn, t8, s.os⟩) rfl rfl rfl rfl rfl (Mine.kcl nA c fr cl) rfl rfl rfl C0 C8 rfl fun f7 h9 t9 F7 C9 k9 => ?_)
  refine wpAny_execs_cons (wpAny_Assign_Name (wpAny_pure ?_))
  refine Mine.cs_store (s := ⟨h9, s.gens, s.drawn, t9, s.os⟩) rfl rfl (.inl rfl) C9 C0 (.inr (.inr (.inl rfl))) fun h10 C10 k10 => ?_
  have q4 := Mine.kp_trans (Mine.kp_trans (Mine.kp_trans (Mine.kp_trans (Mine.kp_trans (Mine.kp_trans k5 k6) k7) k8) k9) k10) (fun _ _ _ _ e => e)
  have q5 := Mine.kp_trans (Mine.kp_trans (Mine.kp_trans (Mine.kp_trans k6 k7) k8) k9) k10
  refine wpAny_execs_nil (h lA f2 f3 f4 f5 f6 f7 _ _ h10 _ ⟨_, _, rfl⟩ (q4 _ _ n1 n2 (k4 _ _ n1 n2 (k3 _ _ n1 n2 l2))) n1 n2 (F2.kp q4) (F3.kp q5) C10 ?_)
  exact Mine.kp_trans (Mine.kp_trans (Mine.kp_trans k1 k2) (Mine.kp_trans k3 k4)) q4
end
end

section
open PySem PySem.W PySem.W.X PyProof.Rows PySem.Spec PySem.Calls
set_option Elab.async false
set_option maxRecDepth 100000
theorem Mine.k_name {M : Model} {A : Around} {E : Value → Shared → Prop} {s : Shared} {mg m : Str → Option Value} {k : Nat} {nA c fr cl : Addr} {v : Value} {Q : Value → Shared → Prop} (hb : Mine.Bd s.heap nA m k) (hm : m "__name__" = none) (hg : s.heap.Ns mainGlobals mg) (hv : mg "__name__" = some v) (h : Q v s) :
    wpAny M A (loadName (Mine.kEnv nA c fr cl) "__name__") Q E s := by
  unfold loadName
  refine wpAny_ite_false (by kernel_rfl) ?_
  refine wpAny_ite_false (by kernel_rfl) ?_
  refine wpAny_bind (m := localGet _ _) ?_
  unfold localGet
  obtain ⟨es, ep, ho, _⟩ := id hb
  refine wpAny_bind (wpAny_load ho (wpAny_ite_true rfl ?_))
  refine wpAny_nsGet (a := nA) hb.ns ?_
  rw [hm]
  dsimp only
  unfold loadGlobal
  refine wpAny_bind (wpAny_nsGet hg ?_)
  rw [hv]
  exact wpAny_pure h
theorem Mine.nf_some {es : Array DictEntry} {x : Str} {v : Value} (h : nsFind es x = some v) : ∃ e, es.find? (·.key.isStr x) = some e ∧ e.val = v := by
  unfold nsFind findBy at h
  cases q : es.find? (·.key.isStr x) with
  | none => rw [q] at h; cases h
  | some e => rw [q] at h; exact ⟨e, rfl, Option.some.inj h⟩
theorem Mine.nf_none {es : Array DictEntry} {x : Str} (h : nsFind es x = none) : es.any (·.key.isStr x) = false := by
  unfold nsFind findBy at h
  cases q : es.find? (·.key.isStr x) with
  | some e => rw [q] at h; cases h
  | none =>
    rw [Array.any_eq_false']
    rw [Array.find?_eq_none] at q
    intro e he
    simpa using q e he
theorem Mine.nf_any {es : Array DictEntry} {x : Str} {v : Value} (h : nsFind es x = some v) : es.any (·.key.isStr x) = true := by
  obtain ⟨e, h1, _⟩ := Mine.nf_some h
  rw [Array.any_eq_true']
  exact ⟨e, Array.mem_of_find?_eq_some h1, by simpa using Array.find?_some h1⟩

def Mine.kNames : List Str := ["obj", "__doc__", "__qualname__", "__module__", "__firstlineno__", "__slots__", "__init__", "__lt__", "__gt__", "__eq__", "__le__", "__ge__", "__hash__", "__static_attributes__"]
def Mine.kSlots (bA : Addr) (t qt : Tok) : Array (Option Value) := #[some (.ref bA), none, some (.str "K" t), some (.str Mine.kQ qt), some (.builtin "object.__new__"), some (.bool false)]
structure Mine.KCls (h : Heap) (a cl N : Addr) : Prop where
  ex : ∃ (dm bA f2 f3 nA P : Addr) (dt t qt : Tok) (mf : Str → Option Value),
    h.get? a = some (Mine.kcls N Mine.kQ [.ref a, .type "object"] (Mine.kSlots bA t qt) false ["obj"]) ∧ h.Ns N mf ∧
    mf "obj" = some (.ref dm) ∧ h.get? dm = some { cls := .type "member_descriptor", data := .fields #[.str "obj" dt, .ref a, .builtin "proto.slot", .builtin "proto.slot#set", rawInt 0] } ∧
    mf "__init__" = some (.ref f2) ∧ Mine.FnK h nA P f2 cl 2 "__init__" "cmp_to_key.<locals>.K.__init__" ∧
    mf "__lt__" = some (.ref f3) ∧ Mine.FnK h nA P f3 cl 3 "__lt__" "cmp_to_key.<locals>.K.__lt__" ∧
    ∀ nm, nm ∉ Mine.kNames → mf nm = none
end

section
open PySem PySem.W PySem.W.X PyProof.Rows PySem.Spec PySem.Calls
set_option Elab.async false
set_option maxRecDepth 100000
theorem Mine.bc_gi : typeLookup (.type "dict") "__getitem__" = pure (some (.builtin "dict.__getitem__")) := by rw [typeLookup_type, builtinLookup_eq_fast]; kernel_rfl
theorem Mine.ntm {who : String} {d : Addr} (h : d ≠ sysModules) : notTheModulesDict who d = pure () := by
  unfold notTheModulesDict
  rw [if_neg (by simpa using h)]
theorem Mine.ne_of_new {h : Heap} {a b : Addr} (x : ∃ o, h.get? a = some o) (y : h.get? b = none) : a ≠ b := by
  rintro rfl
  obtain ⟨o, e⟩ := x
  rw [e] at y; cases y
theorem Mine.get_none {h h' : Heap} (hk : ∀ b o, h.get? b = some o → h'.get? b = some o) {d : Addr} (x : h'.get? d = none) : h.get? d = none := by
  cases e : h.get? d with
  | none => rfl
  | some o => rw [hk _ _ e] at x; cases x
theorem Mine.newObjAsIs_abs {M : Model} {A : Around} {E : Value → Shared → Prop} {s : Shared} {T : String} {data : Data} {Q : Value → Shared → Prop} (hf : Obj.isFreed { cls := .type T, dict := none, data } = false)
    (h : ∀ b h', h'.get? b = some { cls := .type T, dict := none, data } → (∀ c o, s.heap.get? c = some o → h'.get? c = some o) → s.heap.get? b = none → Q (.ref b) { s with heap := h' }) : wpAny M A (newObjAsIs (.type T) data) Q E s :=
  wpAny_newObjAsIs_type (h _ _ (Heap.get?_push_size _ hf) (fun c o e => Heap.get?_push_of_some _ e) (Heap.get?_none_of_le (Nat.le_refl _)))
set_option maxHeartbeats 1600000 in
theorem Mine.bc (prog : Program) (w : World) (A : Around) (s : Shared) (env : Env) (ln c1 P1 cl : Addr) (pos : Pos) (ps : Array Value) (mg ms : Str → Option Value) (nm : Str) (nt : Tok) (E Q : Value → Shared → Prop)
   (hA : A.handled = none) (hA2 : A.depth + 7 ≤ 800) (hA3 : A.units + 20 ≤ 5000) (hg : s.gens = #[])
   (hmg : s.heap.Ns mainGlobals mg) (hbm : ∃ bm o, mg "__builtins__" = some (.ref bm) ∧ bm ≠ builtinsNs ∧ bm ≠ mainGlobals ∧ s.heap.get? bm = some o ∧ o.cls = .type "module" ∧ o.dict = some builtinsNs ∧ o.data = .plain)
   (hnm : mg "__name__" = some (.str nm nt)) (hst : s.heap.Ns cStatics ms) (htp : ms "thirdparty.any" = none) (hrl : ms "sys.recursionlimit" = none) (hsys : ∃ o, s.heap.get? sysModules = some o)
   (hcode : env.code = .ref c1) (hC1 : CodeHd s.heap c1 P1) (hP1 : s.heap.get? P1 = some (tabObj ps)) (hps : TriplesOk ps.toList) (hnf : codeAmong pos ps.toList = none)
   (hgl : env.globals = mainGlobals) (hcl : closureFor Mine.kSc env = pure [(("mycmp" : Str), cl)])
   (hQ : ∀ a N h' tk, Mine.KCls h' a cl N → s.heap.get? a = none → s.heap.get? N = none → Heap.ExtBut P1 s.heap h' → (∃ more, h'.get? P1 = some (tabObj more)) → Q (.ref a) ⟨h', #[], s.drawn, tk, s.os⟩) :
   wpAny (model prog w) A (buildClass "K" Mine.kQ [.type "object"] [] Mine.kBody Mine.kSc ["obj"] ln env pos none) Q E s := by
  unfold buildClass
  refine wpAny_bind (m := newTuple _) (Mine.newObj_abs (by size_fits) rfl fun bA H1 hb kH1 nb => ?_)
  refine wpAny_bind (m := forIn _ _ _) (Mine.forIn_one (x := Value.type "object") (wpAny_bind (wpAny_of_eq Mine.it1 (wpAny_ite_true rfl (wpAny_ite_false rfl (wpAny_pure ?_))))))
  refine wpAny_bind (m := typeOf _) (wpAny_of_eq (a := Value.type "type") (by kernel_rfl) ?_)
  refine wpAny_bind (wpAny_of_eq (a := true) (by kernel_rfl) (wpAny_ite_true rfl ?_))
  refine wpAny_bind (m := forIn _ _ _) (Mine.forIn_one (x := Value.type "object") (wpAny_bind (wpAny_of_eq Mine.to1 (wpAny_bind (wpAny_of_eq Mine.st3 (wpAny_ite_true rfl (wpAny_pure ?_)))))))
  refine wpAny_bind (wpAny_mkText ?_)
  refine wpAny_ite_false rfl (wpAny_bind (wpAny_pure (wpAny_holding ?_)))
  refine wpAny_bind (Mine.prep_attr (s := ⟨H1, s.gens, s.drawn, s.toks + 1, s.os⟩) hA (by omega) (by omega) hg fun mo H2 tk2 k2 m2 => ?_)
  refine wpAny_bind (Mine.wp_room hA (by omega) (by omega) (Mine.prepC prog w ⟨H2, #[], s.drawn, tk2, s.os⟩ rfl mo bA _ _ _ _ (k2 _ _ hb) m2 fun d H3 tk3 k3 hd nd => ?_))
  have K3 : ∀ b o, s.heap.get? b = some o → H3.get? b = some o := fun b o e => k3 _ _ (k2 _ _ (kH1 _ _ e))
  have nd0 : s.heap.get? d = none := Mine.get_none (fun b o e => k2 _ _ (kH1 _ _ e)) nd
  have dsys : d ≠ sysModules := (Mine.ne_of_new hsys nd0).symm
  have bAd : bA ≠ d := Mine.ne_of_new ⟨_, k2 _ _ hb⟩ nd
  refine wpAny_bind (m := notTheModulesDict _ _) (wpAny_of_eq (Mine.ntm dsys) ?_)
  refine wpAny_bind (wpAny_specialOf (T := "dict") ⟨_, hd, rfl⟩ Mine.bc_gi (wpAny_ite_false rfl (wpAny_holding ?_)))
  refine wpAny_ite_false (by kernel_rfl) (wpAny_bind (wpAny_pure (wpAny_ite_false (by kernel_rfl) (wpAny_bind (wpAny_pure ?_)))))
  refine wpAny_bind (Mine.cc_new (s := ⟨H3, #[], s.drawn, tk3, s.os⟩) hcode (hC1.keeps K3) (K3 _ _ hP1) hps hnf fun c P H4 tk4 x4 gc gP hd4c hP4 hr4 hP14 => ?_)
  have x4' : ∀ b o, b ≠ P1 → s.heap.get? b = some o → H4.get? b = some o := fun b o n e => x4 b o n (K3 _ _ e)
  have nd1 : d ≠ P1 := (Mine.ne_of_new ⟨_, hP1⟩ nd0).symm
  have nbA1 : bA ≠ P1 := (Mine.ne_of_new ⟨_, hP1⟩ nb).symm
  have mgP : mainGlobals ≠ P1 := by
    rintro rfl
    obtain ⟨o, es, ep, e, q, _⟩ := hmg
    rw [hP1] at e; cases e; cases q
  have csP : cStatics ≠ P1 := by
    rintro rfl
    obtain ⟨o, es, ep, e, q, _⟩ := hst
    rw [hP1] at e; cases e; cases q
  have hmg4 : H4.Ns mainGlobals mg := by
    obtain ⟨o, es, ep, e, r⟩ := hmg
    exact ⟨o, es, ep, x4' _ _ mgP e, r⟩
  obtain ⟨bm, ob, b1, b2, b3, b4, b5, b6, b7⟩ := hbm
  have bmP : bm ≠ P1 := by
    rintro rfl
    rw [hP1] at b4; cases b4; cases b5
  have hd4 : H4.get? d = some ⟨.type "dict", none, .dict #[] 0, #[]⟩ := x4 _ _ nd1 hd
  rw [hgl]
  refine wpAny_bind (wpAny_builtinsFor hmg4 b1 b2 (x4' _ _ bmP b4) b5 b6 b7 ?_)
  refine wpAny_bind (m := newBodyFrame _ _ _ _) ?_
  unfold newBodyFrame
  refine wpAny_bind (wpAny_nsGet hmg4 ?_)
  refine Mine.alloc_abs rfl fun fr H5 hfr k5 nfr => ?_
  refine wpAny_bind (wpAny_of_eq hcl (wpAny_holding ?_))
  refine wpAny_bind (wpAny_enterFrame ?_ (by show A.depth < 1000; omega) ?_)
  · refine ⟨ms, ?_, hrl⟩
    obtain ⟨o, es, ep, e, r⟩ := hst
    exact ⟨o, es, ep, k5 _ _ (x4' _ _ csP e), r⟩
  refine wpAny_bind (wpAny_onRaise ?_)
  have ndP : d ≠ P := by
    rintro rfl
    rw [hP4] at hd4; cases hd4
  have C0 : Mine.CB0 mg H5 d P c := by
    refine ⟨hmg4.keeps k5, ⟨bm, ob, b1, b2, b3, k5 _ _ (x4' _ _ bmP b4), b5, b6, b7⟩, hd4c.keeps k5, ?_, ?_, ?_, ndP, ⟨_, k5 _ _ hd4, rfl⟩, ⟨_, k5 _ _ hP4, rfl⟩⟩
    · obtain ⟨o, es, ep, e, _⟩ := hmg
      exact Mine.ne_of_new ⟨_, e⟩ nd0
    · obtain ⟨o, es, ep, e, q, _⟩ := hmg4
      rintro rfl
      rw [hP4] at e; cases e; cases q
    · rintro rfl
      obtain ⟨o, vs, _, _, _, _, _, _, _, e, q, _⟩ := hd4c
      rw [hd4] at e; cases e; simp at q
  have C5 : Mine.CB H5 d P Mine.qf (fun _ => none) 0 H5 := ⟨fun _ _ _ _ e => e, ⟨#[], 0, k5 _ _ hd4, fun e he => (by simp at he), fun _ => rfl, Nat.le_refl _, fun e he => (by simp at he)⟩, #[], k5 _ _ hP4, trivial, fun pos v e => (by cases e)⟩
  refine wpAny_bind (Mine.k_name (c := c) (fr := fr) (cl := cl) C5.bd rfl (hmg4.keeps k5) hnm ?_)
  refine wpAny_bind (Mine.cs_store (s := ⟨H5, #[], s.drawn, tk4, s.os⟩) rfl rfl (.inl rfl) C5 C0 (.inl ⟨_, _, rfl⟩) fun H6 C6 k6 => ?_)
  refine wpAny_bind (wpAny_mkText ?_)
  refine wpAny_bind (Mine.cs_store (s := ⟨H6, #[], s.drawn, tk4 + 1 + 1, s.os⟩) rfl rfl (.inr ⟨rfl, by kernel_rfl⟩) C6 C0 (.inl ⟨_, _, rfl⟩) fun H7 C7 k7 => ?_)
  refine wpAny_bind (wpAny_mkInt ?_)
  refine wpAny_bind (Mine.cs_store (s := ⟨H7, #[], s.drawn, tk4 + 1 + 1 + 1 + 1, s.os⟩) rfl rfl (.inr ⟨rfl, by kernel_rfl⟩) C7 C0 (.inr (.inl ⟨_, _, rfl⟩)) fun H8 C8 k8 => ?_)
  refine wpAny_pure ?_
  refine wpAny_bind (wpAny_run (codeAny_body (by rfl) (by rfl) (Mine.kbody (s := ⟨H8, #[], s.drawn, _, s.os⟩) C0 C8 fun lA f2 f3 f4 f5 f6 f7 md ot H9 tk9 hmd hlA lA1 lA2 F2 F3 C9 k9 => ?_)))
  refine wpAny_bind (wpAny_onRaise ?_)
  refine wpAny_bind (m := List.mapM _ _) (wpAny_mkStrs fun vs => ?_)
  refine wpAny_bind (m := newTextTuple _) ?_
  refine Mine.newObjAsIs_abs rfl fun sA H10 hsA k10 nsA => ?_
  have kp10 : Mine.Kp d P H9 H10 := fun b o _ _ e => k10 b o e
  have C10 : Mine.CB H5 d P Mine.qf _ _ H10 := ⟨fun b o n1 n2 e => k10 _ _ (C9.keep b o n1 n2 e), C9.bd.keeps k10, by
    obtain ⟨p0, q1, q2, q3⟩ := C9.tab
    exact ⟨p0, k10 _ _ q1, q2, fun pos v e => (q3 pos v e).kp kp10⟩⟩
  refine wpAny_bind (Mine.cs_store (s := ⟨H10, #[], s.drawn, _, s.os⟩) rfl rfl (.inr ⟨rfl, by kernel_rfl⟩) C10 C0 (.inr (.inr (.inr ⟨sA, _, "tuple", rfl, hsA, rfl, Mine.sn7⟩))) fun H11 C11 k11 => ?_)
  refine wpAny_pure (wpAny_ite_false rfl ?_)
  refine wpAny_bind ?_
  obtain ⟨es, ep, hes1, hes2, hes3, hes4, hes5⟩ := C11.bd
  have klA : H11.get? lA = some (seqObj "list" [Value.str "obj" ot].toArray 0) := k11 _ _ lA1 lA2 (k10 _ _ hlA)
  have kk : Mine.Kp d P H5 H11 := Mine.kp_trans (Mine.kp_trans (Mine.kp_trans k6 k7) (Mine.kp_trans k8 k9)) (Mine.kp_trans kp10 k11)
  have bAP : bA ≠ P := Nat.ne_of_lt (Nat.lt_of_lt_of_le (Heap.lt_size (k3 _ _ (k2 _ _ hb))) gP)
  have hbA : H11.get? bA = some ⟨.type "tuple", none, .seq #[.type "object"] 0, #[]⟩ := kk _ _ bAd bAP (k5 _ _ (x4 _ _ nbA1 (k3 _ _ (k2 _ _ hb))))
  have ndd : ∀ b o, s.heap.get? b = some o → b ≠ d := fun b o e => Mine.ne_of_new ⟨_, e⟩ nd0
  have ndP' : ∀ b o, s.heap.get? b = some o → b ≠ P := fun b o e => Nat.ne_of_lt (Nat.lt_of_lt_of_le (Heap.lt_size (K3 _ _ e)) gP)
  have kall : ∀ b o, b ≠ P1 → s.heap.get? b = some o → H11.get? b = some o := fun b o n e => kk _ _ (ndd _ _ e) (ndP' _ _ e) (k5 _ _ (x4' _ _ n e))
  obtain ⟨e, he1, he2⟩ := Mine.nf_some (x := "__slots__") ((hes3 _).trans (show _ = some (.ref lA) by rfl))
  have hst11 : H11.Ns cStatics ms := by
    obtain ⟨o, es, ep, e, r⟩ := hst
    exact ⟨o, es, ep, kall _ _ csP e, r⟩
  have fr : ∀ x, H11.get? x = none → s.heap.get? x = none := fun x m5 => by
    cases e : s.heap.get? x with
    | none => rfl
    | some o =>
      by_cases q : x = P1
      · subst q
        have := kk _ _ nd1.symm (ndP' _ _ hP1) (k5 _ _ hP14)
        rw [this] at m5; cases m5
      · rw [kall _ _ q e] at m5; cases m5
  refine Mine.mkK prog w A ⟨H11, #[], s.drawn, _, s.os⟩ bA d lA _ ot _ (.ref f5) .none es e ep 0 0 E _ ms hbA hes1 (by simpa using dsys) klA he1 he2 (Mine.nf_none ((hes3 _).trans (by rfl))) _ hes2 hes3 (by rfl) (by rfl) (by rfl) (by rfl) (by rfl) (by rfl) (by rfl) (Mine.nf_none ((hes3 _).trans (by rfl))) (by rfl) (by rfl) (by rfl) hes5 (by omega) (Mine.nf_any ((hes3 _).trans (by rfl)))
    hA (by omega) (by omega) rfl hst11 htp fun a N dm dt mf h' tk m1 m2 m3 m4 m5 m5' m6 m7 => ?_
  refine wpAny_pure (hQ a N h' _ ⟨⟨dm, bA, f2, f3, d, P, dt, _, _, mf, m7, m1, m2, m4, ?_, ?_, ?_, ?_, ?_⟩⟩ (fr a m5) (fr N m5') ?_ ⟨_, m6 _ _ (kk _ _ nd1.symm (ndP' _ _ hP1) (k5 _ _ hP14))⟩)
  · exact (m3 _ (by decide +kernel) (by decide +kernel) (by decide +kernel)).trans (by rfl)
  · exact (F2.kp (Mine.kp_trans kp10 k11)).kp fun b o _ _ e => m6 b o e
  · exact (m3 _ (by decide +kernel) (by decide +kernel) (by decide +kernel)).trans (by rfl)
  · exact (F3.kp (Mine.kp_trans kp10 k11)).kp fun b o _ _ e => m6 b o e
  · intro nm hn
    have hx : ∀ x ∈ Mine.kNames, nm ≠ x := fun x hx e => hn (e ▸ hx)
    refine (m3 nm (hx _ (by decide +kernel)) (hx _ (by decide +kernel)) (hx _ (by decide +kernel))).trans ?_
    unfold Mine.kMap
    have hu : ∀ (m : Str → Option Value) (x : Str) (v : Value), x ∈ Mine.kNames → m nm = none → Mine.up m x v nm = none := fun m x v q r => by
      unfold Mine.up; rw [if_neg (hx x q)]; exact r
    refine hu _ _ _ (by decide +kernel) (hu _ _ _ (by decide +kernel) (hu _ _ _ (by decide +kernel) (hu _ _ _ (by decide +kernel) (hu _ _ _ (by decide +kernel) (hu _ _ _ (by decide +kernel) (hu _ _ _ (by decide +kernel) (hu _ _ _ (by decide +kernel) (hu _ _ _ (by decide +kernel) (hu _ _ _ (by decide +kernel) ?_)))))))))
    exact hu _ _ _ (by decide +kernel) (hu _ _ _ (by decide +kernel) (hu _ _ _ (by decide +kernel) rfl))
  · exact fun b o n e => m6 _ _ (kall b o n e)
end

section
open PySem PySem.W PySem.W.X PyProof.Rows PySem.Spec PySem.Calls
set_option Elab.async false
set_option maxRecDepth 100000
structure Mine.KPre (h : Heap) (mg mb ms : Str → Option Value) (fa c1 P1 : Addr) (doc pm cdv ct : Value) (an : Option Addr) : Prop where
  nsg : h.Ns mainGlobals mg
  bm : ∃ bm o, mg "__builtins__" = some (.ref bm) ∧ bm ≠ builtinsNs ∧ bm ≠ mainGlobals ∧ h.get? bm = some o ∧ o.cls = .type "module" ∧ o.dict = some builtinsNs ∧ o.data = .plain
  nm : ∃ nm nt, mg "__name__" = some (.str nm nt)
  ob : mg "object" = none
  nsb : h.Ns builtinsNs mb
  ob2 : mb "object" = some (.type "object")
  bc : mb "__build_class__" = some (.builtin "__build_class__")
  st : h.Ns cStatics ms
  tp : ms "thirdparty.any" = none
  rl : ms "sys.recursionlimit" = none
  sys : ∃ o, h.get? sysModules = some o
  hd : CodeHd h c1 P1
  cq : h.CodeRec (.ref c1) "cmp_to_key"
  fn : ∃ o, h.get? fa = some o ∧ o.data = .func (Mine.fdN 1 "cmp_to_key" "cmp_to_key" .none .none doc pm an (.ref c1) ct)
theorem Mine.KPre.keeps {h h' : Heap} {mg mb ms : Str → Option Value} {fa c1 P1 : Addr} {doc pm cdv ct : Value} {an : Option Addr} (H : Mine.KPre h mg mb ms fa c1 P1 doc pm cdv ct an) (k : ∀ b o, h.get? b = some o → h'.get? b = some o) : Mine.KPre h' mg mb ms fa c1 P1 doc pm cdv ct an := by
  obtain ⟨bm, o, b1, b2, b3, b4, b5⟩ := H.bm
  obtain ⟨of, f1, f2⟩ := H.fn
  obtain ⟨os, q⟩ := H.sys
  exact ⟨H.nsg.keeps k, ⟨bm, o, b1, b2, b3, k _ _ b4, b5⟩, H.nm, H.ob, H.nsb.keeps k, H.ob2, H.bc, H.st.keeps k, H.tp, H.rl, ⟨os, k _ _ q⟩, H.hd.keeps k, H.cq.keeps k, ⟨of, k _ _ f1, f2⟩⟩
theorem Mine.evalArgs_false {M : Model} {A : Around} {E : Value → Shared → Prop} {s : Shared} {f : Value} {x : Sem Value} {rest : List (Bool × Sem Value)} {Q : Args → Shared → Prop}
    (h : wpAny M A (spliced ((false, x) :: rest)) (fun vs s' => Q ⟨vs, []⟩ s') E s) : wpAny M A (evalArgs f false ((false, x) :: rest) []) Q E s := by
  unfold evalArgs
  show wpAny M A (spliced ((false, x) :: rest) >>= _) Q E s
  refine wpAny_bind (wpAny_mono h (fun vs s' h' => ?_) fun _ _ x => x)
  exact wpAny_holding (wpAny_bind (wpAny_pure (wpAny_bind (wpAny_pure (wpAny_pure h')))))
theorem Mine.pa_bind (name qual : Str) (doc pm cdv ct v : Value) (an : Option Addr) : bindArgs (Mine.fdN 1 name qual .none .none doc pm an cdv ct) ⟨[v], []⟩ = pure [(("mycmp" : Str), v)] := by rfl
theorem Mine.KCls.same {h h' : Heap} {a cl N L : Addr} (x : Mine.KCls h a cl N) (hs : Heap.SameBut L h h') (hL : ∃ o es ep, h.get? L = some o ∧ o.data = .dict es ep) (hN : N ≠ L) : Mine.KCls h' a cl N := by
  obtain ⟨oL, esL, epL, hL1, hL2⟩ := hL
  have kp : ∀ b o, h.get? b = some o → (∀ es ep, o.data ≠ .dict es ep) → h'.get? b = some o := fun b o e n => (hs.2 b (by rintro rfl; rw [hL1] at e; cases e; exact n _ _ hL2)).trans e
  have kf : ∀ {f n nm q nA P}, Mine.FnK h nA P f cl n nm q → Mine.FnK h' nA P f cl n nm q := by
    rintro f n nm q nA P ⟨n1, n2, doc, pm, cv, ctv, ⟨e1, c, o, vs, t, e3, e4, e5, e6⟩, e7⟩
    exact ⟨n1, n2, doc, pm, cv, ctv, ⟨e1, c, o, vs, t, e3, kp _ _ e4 (fun es ep q => by rw [e5] at q; cases q), e5, e6⟩, kp _ _ e7 (fun es ep q => by cases q)⟩
  obtain ⟨dm, bA, f2, f3, nA, P, dt, t, qt, mf, x1, x2, x3, x4, x5, x6, x7, x8, x9⟩ := x.ex
  exact ⟨dm, bA, f2, f3, nA, P, dt, t, qt, mf, kp _ _ x1 (fun es ep q => by cases q), x2.sameBut hs hN, x3, kp _ _ x4 (fun es ep q => by cases q), x5, kf x6, x7, kf x8, x9⟩
def Mine.kStmt : Stmt := ((Mine.bo 1)[0]?).getD (.Pass ⟨0, 0, 0, 0⟩)
theorem Mine.kdef (prog : Program) (w : World) (A : Around) (s : Shared) (e : Env) (fa c1 P1 cl : Addr) (ps : Array Value) (mg mb ms mL : Str → Option Value) (doc pm cdv ct : Value) (an : Option Addr) (E : Value → Shared → Prop) (Q : Flow → Shared → Prop)
   (hA : A.handled = none) (hA2 : A.depth + 7 ≤ 800) (hA3 : A.units + 20 ≤ 5000) (hg : s.gens = #[]) (H : Mine.KPre s.heap mg mb ms fa c1 P1 doc pm cdv ct an)
   (hP1 : s.heap.get? P1 = some (tabObj ps)) (hps : TriplesOk ps.toList) (hnf : codeAmong Mine.kPos ps.toList = none)
   (e1 : e.scope = Mine.sc 1) (e2 : e.globals = mainGlobals) (e3 : e.builtins = builtinsNs) (e4 : e.code = .ref c1) (e5 : s.heap.Ns e.locals mL) (e6 : closureFor Mine.kSc e = pure [(("mycmp" : Str), cl)]) (e7 : qualnameIn e "K" "K" = Mine.kQ)
   (hQ : ∀ a N h' tk, Mine.KCls h' a cl N → s.heap.get? a = none → (∀ b o, b ≠ P1 → b ≠ e.locals → s.heap.get? b = some o → h'.get? b = some o) → h'.Ns e.locals (fun x => if x = "K" then some (.ref a) else mL x) → (∃ more, h'.get? P1 = some (tabObj more)) → Q .next ⟨h', #[], s.drawn, tk, s.os⟩) :
   wpAny (model prog w) A (exec Mine.kStmt e) Q E s := by
  show wpAny _ _ (exec (.ClassDef "K" [.Name "object" _] [] Mine.kBody [] [] Mine.kSc none "K" ["obj"] Mine.kPos) e) _ _ _
  rw [arm_exec_ClassDef, e7]
  refine wpAny_bind (evalAll_nil (wpAny_bind (wpAny_standAt (wpAny_bind ?_))))
  unfold buildClassGuard
  rw [e3]
  refine wpAny_bind (wpAny_nsGet H.nsb ?_)
  rw [H.bc]
  refine wpAny_pure ?_
  refine wpAny_bind (wpAny_holding (wpAny_bind (Mine.evalArgs_false (Calls.spliced_cons (Calls.Name_function_global (by rw [e1]; rfl) (by unfold Env.kindOf; rw [e1]; rfl) (Calls.loadGlobal_builtin (mg := mg) (mb := mb) (by rw [e2]; exact H.nsg) H.ob (by rw [e3]; exact H.nsb) H.ob2 (Calls.spliced_nil ?_)) rfl)))))
  obtain ⟨nm, nt, hnm⟩ := H.nm
  refine wpAny_bind (wpAny_standAt (wpAny_holding ?_))
  refine Mine.bc prog w A s e _ c1 P1 cl Mine.kPos ps mg ms nm nt E _ hA hA2 hA3 hg H.nsg H.bm hnm H.st H.tp H.rl H.sys e4 H.hd hP1 hps hnf e2 e6 fun a N h' tk k1 k2 k3 k4 k5 => ?_
  refine wpAny_bind (wpAny_pure (wpAny_bind (wpAny_standAt (wpAny_bind (wpAny_bindName ?_)))))
  have hLP : e.locals ≠ P1 := by
    intro q
    obtain ⟨o, es, ep, e, d, _⟩ := e5
    rw [q, hP1] at e; cases e; cases d
  have nsL : h'.Ns e.locals mL := e5.extBut k4 hLP
  refine wpAny_storeName_local (s := ⟨h', #[], s.drawn, tk, s.os⟩) (by unfold Env.kindOf; rw [e1]; rfl) nsL (fun h2 n2 s2 => wpAny_pure ?_) (by rw [e1]; rfl)
  have hN : N ≠ e.locals := by
    rintro rfl
    obtain ⟨o, es, ep, e, d, _⟩ := e5
    rw [k3] at e; cases e
  refine hQ a N h2 _ (k1.same s2 ?_ hN) k2 (fun b o n1 n2 e => (s2.2 b n2).trans (k4 b o n1 e)) n2 (k5.imp fun m q => (s2.2 P1 hLP.symm).trans q)
  obtain ⟨o, es, ep, e, d, _⟩ := nsL
  exact ⟨o, es, ep, e, d⟩
set_option maxHeartbeats 1600000 in
theorem Mine.cmpk (prog : Program) (w : World) (A : Around) (s : Shared) (fa c1 P1 g : Addr) (ps : Array Value) (mg mb ms : Str → Option Value) (doc pm cdv ct : Value) (an : Option Addr) (E Q : Value → Shared → Prop)
   (hA : A.handled = none) (hA2 : A.depth + 10 ≤ 800) (hA3 : A.units + 40 ≤ 5000) (hg : s.gens = #[]) (H : Mine.KPre s.heap mg mb ms fa c1 P1 doc pm cdv ct an)
   (hP1 : s.heap.get? P1 = some (tabObj ps)) (hps : TriplesOk ps.toList) (hnf : codeAmong Mine.kPos ps.toList = none)
   (hQ : ∀ a N cl h' tk, Mine.KCls h' a cl N → h'.IsCell cl (some (.ref g)) → s.heap.get? a = none → s.heap.get? cl = none → Heap.ExtBut P1 s.heap h' → (∃ more, h'.get? P1 = some (tabObj more)) → Q (.ref a) ⟨h', #[], s.drawn, tk, s.os⟩) :
   wpAny (model prog w) A (call (.ref fa) [.ref g]) Q E s := by
  obtain ⟨of, hf1, hf2⟩ := H.fn
  refine wpAny_call (codeAny_call_cells (body := Mine.bo 1) (binds := [("mycmp", .ref g)]) (by show A.depth < 1000; omega) hf1 hf2 ⟨ms, H.st, H.rl⟩ H.cq rfl (Mine.pa_bind _ _ _ _ _ _ _ _) rfl (fun x hx => ?_) (fun s1 hin => ?_) rfl rfl rfl)
  · obtain rfl : x = (("mycmp" : Str), Value.ref g) := by simpa using hx
    exact .inr ⟨rfl, rfl⟩
  · obtain ⟨h1, tk1, rfl, k1⟩ := hin.done
    have ns0 := hin.toInCall.ns
    have hcell : h1.IsCell (s.heap.objs.size + 1) (some (.ref g)) := hin.cell "mycmp" (s.heap.objs.size + 1) rfl
    generalize hl : s.heap.objs.size = L at *
    have hns : s.heap.get? L = none := Heap.get?_none_of_le (Nat.le_of_eq hl)
    have hns1 : s.heap.get? (L + 1) = none := Heap.get?_none_of_le (by omega)
    refine wpAny_execs_cons (Mine.kdef prog w _ ⟨h1, s.gens, s.drawn, tk1, s.os⟩ _ fa c1 P1 (L + 1) ps mg mb ms _ doc pm cdv ct an _ _ hA ?_ ?_ hg (H.keeps k1) (k1 _ _ hP1) hps hnf rfl rfl rfl rfl ns0 rfl rfl fun a N h' tk m1 m2 m3 m4 m5 => ?_)
    · show A.depth + 1 + 7 ≤ 800; omega
    · show A.units + 3 + 20 ≤ 5000; omega
    have hP1L : ∀ b o, s.heap.get? b = some o → b ≠ L := fun b o e q => by rw [q, hns] at e; cases e
    refine wpAny_execs_cons (wpAny_Return_some (wpAny_Name (wpAny_loadName_local rfl rfl m4 (if_pos rfl) ?_) rfl))
    obtain ⟨oc, c1', c2'⟩ := hcell
    have np : L + 1 ≠ P1 := fun q => by rw [q, hP1] at hns1; cases hns1
    exact hQ a N (L + 1) h' _ m1 ⟨oc, m3 _ _ np (by show L + 1 ≠ L; omega) c1', c2'⟩ (Mine.get_none k1 m2) hns1 (fun b o n e => m3 b o n (hP1L b o e) (k1 _ _ e)) m5
end

section
open PySem PySem.W PySem.W.X PyProof.Rows PySem.Spec PySem.Calls
set_option Elab.async false
set_option maxRecDepth 100000
theorem Mine.ob_mro : mroOf (.type "object") = pure [.type "object"] := by kernel_rfl
section
variable {prog : Program} {w : World} {A : Around} {E : Value → Shared → Prop} {h : Heap} {g : Array GenState} {d : Drawn} {t : Nat} {os : OsState} {a N bA : Addr} {kt qt : Tok} {mf : Str → Option Value}
theorem Mine.k_type {M : Model} {name : Str} {y : Option Value} {Q : Option Value → Shared → Prop} (hC : h.get? a = some (Mine.kcls N Mine.kQ [.ref a, .type "object"] (Mine.kSlots bA kt qt) false ["obj"])) (hn : h.Ns N mf) (hB : typeLookup (.type "object") name = pure y)
    (hq : Q (match mf name with | some v => some v | none => y) ⟨h, g, d, t, os⟩) : wpAny M A (typeLookup (.ref a) name) Q E ⟨h, g, d, t, os⟩ :=
  wpAny_typeLookup_exc (C := a) (bm := [.type "object"]) (newId := "object.__new__") hC hn Mine.ob_mro hB hq
theorem Mine.k_check {M : Model} {rest : List Value} {Q : Unit → Shared → Prop}
    (hC : h.get? a = some (Mine.kcls N Mine.kQ [.ref a, .type "object"] (Mine.kSlots bA kt qt) false ["obj"])) (hq : Q () ⟨h, g, d, t, os⟩) :
    wpAny M A (checkBuiltinCall "object.__new__" ⟨.ref a :: rest, []⟩) Q E ⟨h, g, d, t, os⟩ := by
  have hC' : h.get? a = some (excClassObj "K" Mine.kQ a N [.type "object"] [.type "object"] false ["obj"] [] false none none (some (.ref bA)) none (some (.str "K" kt)) (some (.str Mine.kQ qt)) (some (.bool false)) "object.__new__") := hC
  have hcont : (Value.ref a :: [Value.type "object"]).contains (.type "object") = true := by rw [List.contains_cons, show [Value.type "object"].contains (.type "object") = true from by decide, Bool.or_true]
  unfold checkBuiltinCall
  rw [F.objNew.kind, F.objNew.split, F.objNew.row]
  refine wpAny_ite_true rfl ?_
  refine wpAny_bind (m := isType _) ?_
  unfold isType
  refine wpAny_bind (wpAny_loadPart_at hC ?_)
  refine wpAny_pure ?_
  refine wpAny_ite_false rfl ?_
  refine wpAny_bind (wpAny_isSubtype_exc hC' ?_)
  rw [hcont]
  refine wpAny_ite_false rfl ?_
  refine wpAny_bind (m := Bind.staticBase _) (wpAny_staticBase_exc hC' ?_)
  refine wpAny_bind (m := Bind.madeBy _) (wpAny_madeBy_exc hC' ?_)
  refine wpAny_ite_false ?_ ?_
  · rw [F.objNew.canon.symm.trans rfl]; kernel_rfl
  show wpAny _ _ (Bind.checkArgs "object.__new__" _ _) _ _ _
  repeat wp_step
  exact hq
theorem Mine.k_made {M : Model} {v : Value} {f2 : Addr} {Q : PySem.Fin → Shared → Prop}
    (hC : h.get? a = some (Mine.kcls N Mine.kQ [.ref a, .type "object"] (Mine.kSlots bA kt qt) false ["obj"])) (hn : h.Ns N mf) (hi : mf "__init__" = some (.ref f2))
    (hq : ∀ x dx h', (∀ b o, h.get? b = some o → h'.get? b = some o) → h.get? x = none → h'.get? x = some { cls := .ref a, dict := some dx, data := .plain } → h'.get? dx = some { cls := .type "dict", data := .dict #[] } → h.get? dx = none → x ≠ dx → Q (.done (.ret (.ref x))) ⟨h', g, d, t, os⟩) :
    wpAny M A (Builtin.«object.__new__» ⟨[.ref a, v], []⟩) Q E ⟨h, g, d, t, os⟩ := by
  have hC' : h.get? a = some (excClassObj "K" Mine.kQ a N [.type "object"] [.type "object"] false ["obj"] [] false none none (some (.ref bA)) none (some (.str "K" kt)) (some (.str Mine.kQ qt)) (some (.bool false)) "object.__new__") := hC
  unfold Builtin.«object.__new__»
  refine wpAny_bind (m := isType _) ?_
  unfold isType
  refine wpAny_bind (wpAny_loadPart_at hC (wpAny_pure ?_))
  refine wpAny_ite_false rfl ?_
  refine wpAny_bind (wpAny_madeHere_exc rfl hC' ?_)
  refine wpAny_ite_true rfl ?_
  refine wpAny_bind (m := Bind.madeBy _) (wpAny_madeBy_exc hC' ?_)
  refine wpAny_bind (Mine.k_type hC hn (y := some (.builtin "object.__init__")) (by rw [typeLookup_type, builtinLookup_eq_fast]; kernel_rfl) ?_)
  rw [hi]
  refine wpAny_ite_false (by rw [bne_self_eq_false]; rfl) (wpAny_ite_false rfl ?_)
  refine wpAny_bind (m := classData _) (wpAny_bind (wpAny_load hC (wpAny_pure ?_)))
  refine wpAny_ite_false rfl ?_
  refine wpAny_ite_true rfl ?_
  refine wpAny_bind (m := some <$> alloc _) (wpAny_map (Mine.alloc_abs rfl fun dx H1 hdx k1 nd => ?_))
  refine wpAny_bind (m := newObj _ _ _) ?_
  unfold newObj newObjAsIs
  refine wpAny_bind (m := alloc _) (Mine.alloc_abs rfl fun x H2 hx k2 nx => ?_)
  refine wpAny_bind (m := classHasDel _) ?_
  unfold classHasDel
  refine wpAny_bind (wpAny_loadPart (o := Mine.kcls N Mine.kQ [.ref a, .type "object"] (Mine.kSlots bA kt qt) false ["obj"]) (k2 _ _ (k1 _ _ hC)) (wpAny_pure (wpAny_ite_false rfl ?_)))
  refine wpAny_pure (wpAny_pure (hq x dx H2 (fun b o e => k2 _ _ (k1 _ _ e)) (Mine.get_none k1 nx) hx (k2 _ _ hdx) nd (Mine.ne_of_new ⟨_, hdx⟩ nx).symm))
theorem Mine.k_init {v : Value} {f2 : Addr} {fd : FuncData} {Q : PySem.Fin → Shared → Prop}
    (hC : h.get? a = some (Mine.kcls N Mine.kQ [.ref a, .type "object"] (Mine.kSlots bA kt qt) false ["obj"])) (hn : h.Ns N mf) (hi : mf "__init__" = some (.ref f2)) (hf2 : h.get? f2 = some { cls := .type "function", data := .func fd })
    (hq : ∀ x dx h', (∀ b o, h.get? b = some o → h'.get? b = some o) → h.get? x = none → h'.get? x = some { cls := .ref a, dict := some dx, data := .plain } → h'.get? dx = some { cls := .type "dict", data := .dict #[] } → h.get? dx = none → x ≠ dx →
      wpAny (model prog w) A (call (.ref f2) [.ref x, v]) (fun r s' => r = .none ∧ Q (.done (.ret (.ref x))) s') E ⟨h', g, d, t, os⟩) :
    wpAny (model prog w) A (Builtin.«type.__call__» ⟨[.ref a, v], []⟩) Q E ⟨h, g, d, t, os⟩ := by
  have hC' : h.get? a = some (excClassObj "K" Mine.kQ a N [.type "object"] [.type "object"] false ["obj"] [] false none none (some (.ref bA)) none (some (.str "K" kt)) (some (.str Mine.kQ qt)) (some (.bool false)) "object.__new__") := hC
  unfold Builtin.«type.__call__»
  refine wpAny_ite_false rfl ?_
  refine wpAny_bind (m := mroOf _) (wpAny_mroOf_exc hC' ?_)
  refine wpAny_ite_false rfl ?_
  refine wpAny_bind (m := Bind.madeBy _) (wpAny_madeBy_exc hC' (wpAny_bind (wpAny_pure ?_)))
  refine wpAny_bind (wpAny_holding (wpAny_call (codeAny_call_builtin (by decide +kernel) F.entry_object_new (Mine.k_check hC ?_))))
  refine Mine.k_made hC hn hi fun x dx h' k1 nx hx hdx nd nxd => ?_
  have hC1 := k1 _ _ hC
  have hC1' : h'.get? a = some (excClassObj "K" Mine.kQ a N [.type "object"] [.type "object"] false ["obj"] [] false none none (some (.ref bA)) none (some (.str "K" kt)) (some (.str Mine.kQ qt)) (some (.bool false)) "object.__new__") := hC1
  refine wpAny_bind (m := isInstance _ _) ?_
  unfold isInstance
  refine wpAny_bind (m := typeOf _) (wpAny_typeOf_ref hx ?_)
  refine wpAny_isSubtype_exc (base := .ref a) hC1' ?_
  rw [show (Value.ref a :: [Value.type "object"]).contains (.ref a) = true by simp]
  refine wpAny_ite_false rfl ?_
  refine wpAny_bind (wpAny_holding ?_)
  unfold callSpecial?
  refine wpAny_bind (m := specialOf _ _) ?_
  unfold specialOf
  refine wpAny_bind (m := typeOf _) (wpAny_typeOf_ref hx ?_)
  refine Mine.k_type (bA := bA) (kt := kt) (qt := qt) hC1 (hn.keeps k1) (y := some (.builtin "object.__init__")) (by rw [typeLookup_type, builtinLookup_eq_fast]; kernel_rfl) ?_
  rw [hi]
  refine wpAny_holding (wpAny_bind (m := bindSpecial _ _) ?_)
  unfold bindSpecial
  refine wpAny_bind (m := typeOf _) (wpAny_typeOf_ref (k1 _ _ hf2) (wpAny_ite_true rfl (wpAny_pure ?_)))
  refine wpAny_bind (wpAny_mono (hq x dx h' k1 nx hx hdx nd nxd) (fun r s' hr => ?_) fun _ _ z => z)
  obtain ⟨rfl, hr⟩ := hr
  exact wpAny_pure (wpAny_ite_false rfl (wpAny_pure hr))
theorem Mine.k_call {v : Value} {f2 : Addr} {fd : FuncData} {Q : Value → Shared → Prop}
    (hC : h.get? a = some (Mine.kcls N Mine.kQ [.ref a, .type "object"] (Mine.kSlots bA kt qt) false ["obj"])) (hn : h.Ns N mf) (hi : mf "__init__" = some (.ref f2)) (hf2 : h.get? f2 = some { cls := .type "function", data := .func fd })
    (hq : ∀ x dx h', (∀ b o, h.get? b = some o → h'.get? b = some o) → h.get? x = none → h'.get? x = some { cls := .ref a, dict := some dx, data := .plain } → h'.get? dx = some { cls := .type "dict", data := .dict #[] } → h.get? dx = none → x ≠ dx →
      wpAny (model prog w) (A.under (.builtin "type.__call__" ⟨[.ref a, v], []⟩)) (call (.ref f2) [.ref x, v]) (fun r s' => r = .none ∧ Q (.ref x) s') E ⟨h', g, d, t, os⟩) :
    wpAny (model prog w) A (call (.ref a) [v]) Q E ⟨h, g, d, t, os⟩ := by
  have hC' : h.get? a = some (excClassObj "K" Mine.kQ a N [.type "object"] [.type "object"] false ["obj"] [] false none none (some (.ref bA)) none (some (.str "K" kt)) (some (.str Mine.kQ qt)) (some (.bool false)) "object.__new__") := hC
  have f1 := tc_lookup
  have f2 := tc_bind (.ref a)
  have hT : (⟨h, g, d, t, os⟩ : Shared).TypeIs (.ref a) "type" := ⟨_, hC, rfl⟩
  refine wpAny_call (codeAny_of_tree ?_)
  show wpAny _ _ (callAny (.ref a) _) _ _ _
  repeat (any_goals (first | assumption | with_reducible refine wpAny_loadPart_at hC' ?_ | wp_step))
  refine ⟨rfl, ?_⟩
  refine codeAny_call_builtin_at (Code.quiet_builtin _ (by decide +kernel)) entry_typeCall (wpAny_check_type_call_sub hC' ?_)
  exact Mine.k_init hC hn hi hf2 hq
end
end

section
open PySem PySem.W PySem.W.X PyProof.Rows PySem.Spec PySem.Calls
set_option Elab.async false
set_option maxRecDepth 100000
def Mine.dmObj (a : Addr) (dt : Tok) : Obj := { cls := .type "member_descriptor", data := .fields #[.str "obj" dt, .ref a, .builtin "proto.slot", .builtin "proto.slot#set", rawInt 0] }
def Mine.kObj (a dx : Addr) (sl : Array (Option Value)) : Obj := { cls := .ref a, dict := some dx, data := .plain, slots := sl }
theorem Mine.slotSet : Slot "member_descriptor" "__set__" "member_descriptor.__set__" := .of (owner := "member_descriptor") (n := "__set__") (by rw [typeLookup_type, builtinLookup_eq_fast]; kernel_rfl) (by decide +kernel) (by decide +kernel) (by decide +kernel)
    (by first | exact .inl (by decide +kernel) | exact .inr (by decide +kernel)) (by rw [isSubtype_type]; kernel_rfl)
theorem Mine.entSet : entryFor table "member_descriptor.__set__" = some Builtin.«member_descriptor.__set__» := entryFor_of_tree (by kernel_rfl)
theorem Mine.argSet (x y z : Value) : argsOk "member_descriptor.__set__" ⟨[x, y, z], []⟩ := by unfold argsOk; kernel_rfl
theorem Mine.entSl : entryFor table "proto.slot#set" = some Builtin.«proto.slot#set» := entryFor_of_tree (by kernel_rfl)
theorem Mine.args_pure {id : String} {args : Args} (h : argsOk id args) : (match Manifest.signature? id with | some sig => Bind.checkArgs id sig args | _ => pure ()) = pure () := by
  unfold argsOk at h
  split
  · rename_i sig hs
    rw [hs] at h
    exact h
  · rfl
section
variable {prog : Program} {w : World} {A : Around} {E : Value → Shared → Prop} {h : Heap} {g : Array GenState} {d : Drawn} {t : Nat} {os : OsState} {a N bA dm x dx : Addr} {kt qt dt : Tok} {mf : Str → Option Value} {sl : Array (Option Value)} {v : Value}
theorem Mine.k_tgt {M : Model} {Q : Addr × Nat × Str → Shared → Prop} (hC : h.get? a = some (Mine.kcls N Mine.kQ [.ref a, .type "object"] (Mine.kSlots bA kt qt) false ["obj"])) (hd : h.get? dm = some (Mine.dmObj a dt)) (hx : h.get? x = some (Mine.kObj a dx sl))
    (hq : Q (x, 0, "obj") ⟨h, g, d, t, os⟩) : wpAny M A (Builtin.Slots.target (.ref x) (.ref dm)) Q E ⟨h, g, d, t, os⟩ := by
  unfold Builtin.Slots.target
  refine wpAny_bind (wpAny_field hd rfl (x := rawInt 0) rfl ?_)
  refine wpAny_bind (wpAny_field hd rfl (x := .str "obj" dt) rfl ?_)
  refine wpAny_bind (m := typeOf _) (wpAny_typeOf_ref hx ?_)
  refine wpAny_bind (m := Builtin.Slots.slotNamesOf _) ?_
  unfold Builtin.Slots.slotNamesOf classData
  refine wpAny_bind (wpAny_bind (wpAny_load hC (wpAny_pure (wpAny_pure ?_))))
  refine wpAny_ite_false rfl (wpAny_pure ?_)
  exact hq
theorem Mine.k_dset {Q : Value → Shared → Prop} (hC : h.get? a = some (Mine.kcls N Mine.kQ [.ref a, .type "object"] (Mine.kSlots bA kt qt) false ["obj"])) (hd : h.get? dm = some (Mine.dmObj a dt)) (hx : h.get? x = some (Mine.kObj a dx #[]))
    (hq : ∀ h', Heap.SameBut x h h' → h'.get? x = some (Mine.kObj a dx #[some v]) → Q .none ⟨h', g, d, t, os⟩) :
    wpAny (model prog w) A (call (.builtin "member_descriptor.__set__") [.ref dm, .ref x, v]) Q E ⟨h, g, d, t, os⟩ := by
  have hC' : h.get? a = some (excClassObj "K" Mine.kQ a N [.type "object"] [.type "object"] false ["obj"] [] false none none (some (.ref bA)) none (some (.str "K" kt)) (some (.str Mine.kQ qt)) (some (.bool false)) "object.__new__") := hC
  refine wpAny_call (codeAny_call_builtin Mine.slotSet.plain Mine.entSet (Mine.slotSet.check _ _ _ _ _ _ _ _ ⟨_, hd, rfl⟩ (Mine.argSet _ _ _) ?_))
  unfold Builtin.«member_descriptor.__set__» Builtin.Getset_descriptor.descrSet
  refine wpAny_ite_false rfl ?_
  unfold Builtin.Getset_descriptor.descrStoreThrough
  refine wpAny_bind (m := Builtin.Getset_descriptor.descrCheckInstance _ _) ?_
  unfold Builtin.Getset_descriptor.descrCheckInstance
  refine wpAny_bind (m := Builtin.Getset_descriptor.descrNameAndClass _) ?_
  unfold Builtin.Getset_descriptor.descrNameAndClass
  refine wpAny_bind (wpAny_field hd rfl (x := .str "obj" dt) rfl ?_)
  refine wpAny_bind (wpAny_field hd rfl (x := .ref a) rfl (wpAny_pure ?_))
  refine wpAny_bind (m := isInstance _ _) ?_
  unfold isInstance
  refine wpAny_bind (m := typeOf _) (wpAny_typeOf_ref hx ?_)
  refine wpAny_isSubtype_exc (base := .ref a) hC' ?_
  rw [show (Value.ref a :: [Value.type "object"]).contains (.ref a) = true by simp]
  refine wpAny_ite_false rfl (wpAny_pure ?_)
  refine wpAny_bind (m := Builtin.Getset_descriptor.descrItself _) ?_
  unfold Builtin.Getset_descriptor.descrItself
  refine wpAny_bind (wpAny_fieldsOf hd rfl (wpAny_pure ?_))
  refine wpAny_bind (wpAny_field hd rfl (x := .builtin "proto.slot#set") rfl ?_)
  refine wpAny_bind (wpAny_rule ?_)
  refine wpAny_pure ⟨Code.quiet_builtin _ (by decide +kernel), codeAny_builtin (args := ⟨[.ref x, v, .ref dm], []⟩) Mine.entSl ?_⟩
  unfold Builtin.«proto.slot#set»
  refine wpAny_bind (Mine.k_tgt hC hd hx ?_)
  refine wpAny_bind (Mine.setSlot_abs (o' := Mine.kObj a dx #[some v]) hx (by decide) rfl rfl fun h' hx' hs => ?_)
  exact wpAny_pure (hq h' hs hx')
theorem Mine.k_seta {tk : Tok} {Q : PySem.Fin → Shared → Prop} (hC : h.get? a = some (Mine.kcls N Mine.kQ [.ref a, .type "object"] (Mine.kSlots bA kt qt) false ["obj"])) (hn : h.Ns N mf) (ho : mf "obj" = some (.ref dm)) (hd : h.get? dm = some (Mine.dmObj a dt)) (hx : h.get? x = some (Mine.kObj a dx #[]))
    (hq : ∀ h', Heap.SameBut x h h' → h'.get? x = some (Mine.kObj a dx #[some v]) → Q (.done (.ret .none)) ⟨h', g, d, t, os⟩) :
    wpAny (model prog w) A (Builtin.«object.__setattr__» ⟨[.ref x, .str "obj" tk, v], []⟩) Q E ⟨h, g, d, t, os⟩ := by
  have hC' : h.get? a = some (excClassObj "K" Mine.kQ a N [.type "object"] [.type "object"] false ["obj"] [] false none none (some (.ref bA)) none (some (.str "K" kt)) (some (.str Mine.kQ qt)) (some (.bool false)) "object.__new__") := hC
  unfold Builtin.«object.__setattr__»
  refine wpAny_ite_false rfl ?_
  refine wpAny_bind (m := Builtin.ObjectAttr.refuseIfOverridden (.ref x) "__setattr__") ?_
  rw [refuse_eq]
  refine wpAny_bind (m := typeOf _) (wpAny_typeOf_ref hx (wpAny_bind (m := mroOf _) (wpAny_mroOf_exc hC' ?_)))
  rw [refuseLoop_ref, F.store_object.passes]
  refine wpAny_pure (wpAny_bind (m := Builtin.ObjectAttr.attrName _) (wpAny_pure ?_))
  refine wpAny_bind (m := typeOf _) (wpAny_typeOf_ref hx ?_)
  refine wpAny_bind (Mine.k_type hC hn (y := none) (by rw [typeLookup_type, builtinLookup_eq_fast]; kernel_rfl) ?_)
  rw [ho]
  refine wpAny_bind (m := Builtin.ObjectAttr.storeTaker? _) ?_
  unfold Builtin.ObjectAttr.storeTaker?
  refine wpAny_bind (m := Builtin.ObjectAttr.takesStores _) ?_
  unfold Builtin.ObjectAttr.takesStores
  refine wpAny_bind (wpAny_specialOf (T := "member_descriptor") ⟨_, hd, rfl⟩ Mine.slotSet.lookup (wpAny_ite_true rfl (wpAny_pure (wpAny_ite_true rfl (wpAny_pure ?_)))))
  show wpAny _ _ (Builtin.ObjectAttr.setByDescriptor (.ref dm) (.ref x) v) _ _ _
  unfold Builtin.ObjectAttr.setByDescriptor
  refine wpAny_bind (wpAny_rule (wpAny_bind (wpAny_holding (wpAny_callSpecial?_slot (T := "member_descriptor") ⟨_, hd, rfl⟩ Mine.slotSet ?_))))
  exact Mine.k_dset hC hd hx fun h' hs hx' => wpAny_pure (hq h' hs hx')
theorem Mine.k_setattr {Q : Unit → Shared → Prop} (hC : h.get? a = some (Mine.kcls N Mine.kQ [.ref a, .type "object"] (Mine.kSlots bA kt qt) false ["obj"])) (hn : h.Ns N mf) (ho : mf "obj" = some (.ref dm)) (hs0 : mf "__setattr__" = none) (hd : h.get? dm = some (Mine.dmObj a dt)) (hx : h.get? x = some (Mine.kObj a dx #[]))
    (hq : ∀ h' tk, Heap.SameBut x h h' → h'.get? x = some (Mine.kObj a dx #[some v]) → Q () ⟨h', g, d, tk, os⟩) :
    wpAny (model prog w) A (setAttr (.ref x) "obj" v) Q E ⟨h, g, d, t, os⟩ := by
  have hC' : h.get? a = some (excClassObj "K" Mine.kQ a N [.type "object"] [.type "object"] false ["obj"] [] false none none (some (.ref bA)) none (some (.str "K" kt)) (some (.str Mine.kQ qt)) (some (.bool false)) "object.__new__") := hC
  unfold setAttr
  refine wpAny_bind (wpAny_mkText ?_)
  refine wpAny_bind (m := callSpecial? _ _ _) ?_
  unfold callSpecial?
  refine wpAny_bind (m := specialOf _ _) ?_
  unfold specialOf
  refine wpAny_bind (m := typeOf _) (wpAny_typeOf_ref hx ?_)
  refine Mine.k_type hC hn (y := some (.builtin "object.__setattr__")) F.store_object.slot.lookup ?_
  rw [hs0]
  refine wpAny_holding (wpAny_bind (wpAny_of_eq (F.store_object.slot.bind _) ?_))
  refine wpAny_bind (wpAny_call (codeAny_call_builtin F.store_object.slot.plain F.store_object.entry ?_))
  unfold checkBuiltinCall
  rw [F.store_object.kind, F.store_object.split]
  refine wpAny_bind (m := isInstance _ _) ?_
  unfold isInstance
  refine wpAny_bind (m := typeOf _) (wpAny_typeOf_ref hx ?_)
  refine wpAny_isSubtype_exc (base := .type "object") hC' ?_
  rw [show (Value.ref a :: [Value.type "object"]).contains (.type "object") = true by simp]
  refine wpAny_ite_false rfl ?_
  refine wpAny_of_eq (Mine.args_pure (F.store_object.args (.ref x) (.str "obj" t) v)) ?_
  refine Mine.k_seta hC hn ho hd hx fun h' hs hx' => ?_
  exact wpAny_pure (wpAny_pure (hq h' _ hs hx'))
end
end

section
open PySem PySem.W PySem.W.X PyProof.Rows PySem.Spec PySem.Calls
set_option Elab.async false
set_option maxRecDepth 100000
section
variable {prog : Program} {w : World} {A : Around} {E : Value → Shared → Prop} {h : Heap} {g : Array GenState} {d : Drawn} {t : Nat} {os : OsState} {a N cl : Addr} {v : Value}
theorem Mine.k_make {Q : Value → Shared → Prop} (hK : Mine.KCls h a cl N) (hnl : h.NoLimit) (hA2 : A.depth + 2 ≤ 800)
    (hq : ∀ x dx h' tk, (∀ b o, h.get? b = some o → h'.get? b = some o) → h.get? x = none → h'.get? x = some (Mine.kObj a dx #[some v]) → Q (.ref x) ⟨h', g, d, tk, os⟩) :
    wpAny (model prog w) A (call (.ref a) [v]) Q E ⟨h, g, d, t, os⟩ := by
  obtain ⟨dm, bA, f2, f3, nA, P, dt, kt, qt, mf, x1, x2, x3, x4, x5, x6, x7, x8, x9⟩ := hK.ex
  obtain ⟨n1, n2, doc, pm, cv, ctv, ⟨e1, e2⟩, e3⟩ := x6
  refine Mine.k_call x1 x2 x5 e3 fun x dx h1 k1 nx hx hdx ndx nxd => ?_
  refine wpAny_call (codeAny_call_def (body := Mine.kBo 2) (binds := [("self", .ref x), ("obj", v)]) ?_ (k1 _ _ e3) rfl (hnl.keeps k1) (e2.keeps k1) rfl (BindsTo.of_eq (by rfl)) (show ∀ x ∈ (Mine.kFs 2).names, x.2 ≠ .cell by decide) ?_ (fun h2 ns2 k2 => ?_) rfl rfl rfl)
  · show A.depth + Code.weight (.builtin "type.__call__" ⟨[.ref a, v], []⟩) < 1000
    have : Code.weight (.builtin "type.__call__" ⟨[.ref a, v], []⟩) = 1 := rfl
    omega
  · intro y hy
    simp only [List.mem_cons, List.not_mem_nil, or_false] at hy
    rcases hy with rfl | rfl <;> rfl
  · refine wpAny_execs_cons (plainObj_wpAny_Assign_Attribute ?_)
    refine wpAny_Name (wpAny_loadName_local rfl rfl ns2 (v := v) (by rfl) ?_) rfl
    refine wpAny_Name (wpAny_loadName_local rfl rfl ns2 (v := .ref x) (by rfl) ?_) rfl
    have hk := fun b o e => k2 b o (k1 b o e)
    refine Mine.k_setattr (hk _ _ x1) (x2.keeps hk) x3 (x9 _ (by decide +kernel)) (hk _ _ x4) (k2 _ _ hx) fun h3 tk s3 hx3 => ?_
    refine wpAny_execs_nil ⟨rfl, ?_⟩
    refine hq x dx h3 tk (fun b o e => ?_) nx hx3
    have : b ≠ x := fun q => by rw [q, nx] at e; cases e
    exact (s3.2 b this).trans (hk b o e)
end
end

section
open PySem PySem.W PySem.W.X PyProof.Rows PySem.Spec PySem.Calls
set_option Elab.async false
set_option maxRecDepth 100000
set_option hygiene false in
local macro_rules | `(tactic| x_close) => `(tactic| first | exact hQ _ _ (Mine.mem_all (by assumption)) | exact hQ _ _ (fun _ _ e => e))
set_option maxHeartbeats 8000000 in
theorem Mine.k_get (prog : Program) (w : World) (s : Shared) (hg : s.gens = #[]) (a N bA dm x dx : Addr) (kt qt dt : Tok) (v : Value) (E Q : Value → Shared → Prop)
   (h1 : s.heap.get? a = some ⟨.type "type", none, .cls { name := "K", bases := [.type "object"], mro := [.ref a, .type "object"], ns := N, qualname := "cmp_to_key.<locals>.K", hasDict := false, slotNames := ["obj"] }, #[some (.ref bA), none, some (.str "K" kt), some (.str "cmp_to_key.<locals>.K" qt), some (.builtin "object.__new__"), some (.bool false)]⟩)
   (h2 : s.heap.get? dm = some ⟨.type "member_descriptor", none, .fields #[.str "obj" dt, .ref a, .builtin "proto.slot", .builtin "proto.slot#set", rawInt 0], #[]⟩)
   (h3 : s.heap.get? x = some ⟨.ref a, some dx, .plain, #[some v]⟩)
   (hQ : ∀ h' tk, (∀ b o, s.heap.get? b = some o → h'.get? b = some o) → Q v ⟨h', #[], s.drawn, tk, s.os⟩) :
   wpAny (model prog w) Mine.A0 (call (.builtin "member_descriptor.__get__") [.ref dm, .ref x, .ref a]) Q E s := by
  x_run
theorem Mine.slotGet : Slot "member_descriptor" "__get__" "member_descriptor.__get__" := .of (owner := "member_descriptor") (n := "__get__") (by rw [typeLookup_type, builtinLookup_eq_fast]; kernel_rfl) (by decide +kernel) (by decide +kernel) (by decide +kernel)
    (by first | exact .inl (by decide +kernel) | exact .inr (by decide +kernel)) (by rw [isSubtype_type]; kernel_rfl)
section
variable {prog : Program} {w : World} {A : Around} {E : Value → Shared → Prop} {h : Heap} {d : Drawn} {t : Nat} {os : OsState} {a N cl x dx : Addr} {v : Value}
theorem Mine.k_getattr {Q : Value → Shared → Prop} (hK : Mine.KCls h a cl N) (hx : h.get? x = some (Mine.kObj a dx #[some v])) (hv : handedOut v = pure v) (hA : A.handled = none) (hA2 : A.depth ≤ 790) (hA3 : A.units + 5 ≤ 5000) {e : Bool}
    (hq : ∀ h' tk, (∀ b o, h.get? b = some o → h'.get? b = some o) → Q v ⟨h', #[], d, tk, os⟩) :
    wpAny (model prog w) A (getAttr (.ref x) "obj" e) Q E ⟨h, #[], d, t, os⟩ := by
  obtain ⟨dm, bA, f2, f3, nA, P, dt, kt, qt, mf, x1, x2, x3, x4, x5, x6, x7, x8, x9⟩ := hK.ex
  unfold getAttr getAttrBy
  refine wpAny_bind (wpAny_mkText (wpAny_holding (wpAny_bind (m := typeOf _) (wpAny_typeOf_ref hx ?_))))
  refine wpAny_bind (Mine.k_type x1 x2 (y := some (.builtin "object.__getattribute__")) (by rw [typeLookup_type, builtinLookup_eq_fast]; kernel_rfl) ?_)
  rw [x9 _ (by decide +kernel)]
  refine wpAny_ite_true rfl ?_
  unfold getAttrEveryday
  refine wpAny_bind (wpAny_onRaise (wpAny_runValue (codeAny_builtin F.entry_getattr_hooked ?_)))
  unfold Builtin.«proto.getattr_hooked»
  refine wpAny_bind (m := Builtin.ObjectAttr.attrName _) (wpAny_pure ?_)
  refine wpAny_bind (m := typeOf _) (wpAny_typeOf_ref hx ?_)
  refine wpAny_bind (m := Builtin.ObjectAttr.find _ _ _) ?_
  unfold Builtin.ObjectAttr.find
  refine wpAny_bind (Mine.k_type x1 x2 (y := none) (by rw [typeLookup_type, builtinLookup_eq_fast]; kernel_rfl) ?_)
  rw [x3]
  refine wpAny_bind (m := Builtin.ObjectAttr.getOf _) (wpAny_specialOf (T := "member_descriptor") ⟨_, x4, rfl⟩ Mine.slotGet.lookup ?_)
  refine wpAny_bind (m := Builtin.ObjectAttr.dataDescriptor? _ _) ?_
  unfold Builtin.ObjectAttr.dataDescriptor?
  refine wpAny_bind (m := Builtin.ObjectAttr.takesStores _) ?_
  unfold Builtin.ObjectAttr.takesStores
  refine wpAny_bind (wpAny_specialOf (T := "member_descriptor") ⟨_, x4, rfl⟩ Mine.slotSet.lookup (wpAny_ite_true rfl (wpAny_pure (wpAny_ite_true rfl (wpAny_pure ?_)))))
  refine wpAny_bind (wpAny_rule (wpAny_pure ?_))
  refine wpAny_bind (Mine.k_type x1 x2 (y := none) (by rw [typeLookup_type, builtinLookup_eq_fast]; kernel_rfl) ?_)
  rw [x9 _ (by decide +kernel)]
  show wpAny _ _ (Builtin.ObjectAttr.bindWithHook _ _ _ _ _ none) _ _ _
  unfold Builtin.ObjectAttr.bindWithHook Builtin.ObjectAttr.bindTo
  rw [Around.under_plain rfl rfl]
  refine wpAny_bind (wpAny_holding (Mine.wp_room hA (by show A.depth ≤ 800; omega) (by show A.units + 1 ≤ 5000; omega) (Mine.k_get prog w ⟨h, #[], d, t + 1, os⟩ rfl a N bA dm x dx kt qt dt v _ _ x1 x4 hx fun h' tk k => ?_)))
  refine wpAny_pure ?_
  show wpAny _ _ (handedOut v) _ _ _
  rw [hv]
  exact wpAny_pure (hq h' tk k)
end
end

section
open PySem PySem.W PySem.W.X PyProof.Rows PySem.Spec PySem.Calls
set_option Elab.async false
set_option maxRecDepth 100000
section
variable {prog : Program} {w : World} {A : Around} {E : Value → Shared → Prop} {h : Heap} {d : Drawn} {t : Nat} {os : OsState} {a N cl x dx y dy : Addr} {v u : Value} {env : Env}
theorem Mine.k_attr {Q : Value → Shared → Prop} {nm : Str} {p p2 : Pos} (hK : Mine.KCls h a cl N) (hx : h.get? x = some (Mine.kObj a dx #[some v])) (hv : handedOut v = pure v) (hA : A.handled = none) (hA2 : A.depth ≤ 790) (hA3 : A.units + 5 ≤ 5000)
    (hn : ∀ Q' : Value → Shared → Prop, Q' (.ref x) ⟨h, #[], d, t, os⟩ → wpAny (model prog w) A (eval (.Name nm p) env) Q' E ⟨h, #[], d, t, os⟩)
    (hq : ∀ h' tk, (∀ b o, h.get? b = some o → h'.get? b = some o) → Q v ⟨h', #[], d, tk, os⟩) :
    wpAny (model prog w) A (eval (.Attribute (.Name nm p) "obj" p2) env) Q E ⟨h, #[], d, t, os⟩ := by
  rw [arm_eval_Attribute]
  refine wpAny_bind (m := attributeBase _ _ _ _) (hn _ ?_)
  refine wpAny_bind (wpAny_standAt (wpAny_bind (wpAny_holding ?_)))
  exact Mine.k_getattr hK hx hv hA hA2 hA3 fun h' tk k => wpAny_bind (wpAny_pure (wpAny_pure (hq h' tk k)))
theorem Mine.KCls.keeps {h h' : Heap} {a cl N : Addr} (x : Mine.KCls h a cl N) (kp : ∀ b o, h.get? b = some o → h'.get? b = some o) : Mine.KCls h' a cl N := by
  have kf : ∀ {f n nm q nA P}, Mine.FnK h nA P f cl n nm q → Mine.FnK h' nA P f cl n nm q := fun x => Mine.FnAt.kp x fun b o _ _ e => kp b o e
  obtain ⟨dm, bA, f2, f3, nA, P, dt, t, qt, mf, x1, x2, x3, x4, x5, x6, x7, x8, x9⟩ := x.ex
  exact ⟨dm, bA, f2, f3, nA, P, dt, t, qt, mf, kp _ _ x1, x2.keeps kp, x3, kp _ _ x4, x5, kf x6, x7, kf x8, x9⟩
def Mine.MyCmp (prog : Program) (w : World) (os : OsState) (d : Drawn) (h : Heap) (n : Nat) (g : Addr) (v u : Value) (i : Int) : Prop :=
  ∀ (A : Around) (h1 : Heap) (tk : Nat) (Q : Value → Shared → Prop) (E : Value → Shared → Prop), Mine.Room A n → (∀ b o, h.get? b = some o → h1.get? b = some o) →
    (∀ h' tk' t, (∀ b o, h1.get? b = some o → h'.get? b = some o) → Q (.int i t) ⟨h', #[], d, tk', os⟩) → wpAny (model prog w) A (call (.ref g) [v, u]) Q E ⟨h1, #[], d, tk, os⟩
theorem Mine.k_ltcall {Q : Value → Shared → Prop} {f3 nA P g : Addr} {og : Obj} {fdg : FuncData} {n : Nat} {i : Int} (hK : Mine.KCls h a cl N) (hcl : h.IsCell cl (some (.ref g))) (hog : h.get? g = some og) (hfg : og.data = .func fdg) (hf : Mine.FnK h nA P f3 cl 3 "__lt__" "cmp_to_key.<locals>.K.__lt__")
    (hx : h.get? x = some (Mine.kObj a dx #[some v])) (hy : h.get? y = some (Mine.kObj a dy #[some u])) (hv : handedOut v = pure v) (hu : handedOut u = pure u) (hnl : h.NoLimit) (hR : Mine.Room A (n + 1))
    (hA2 : A.depth ≤ 780) (hA3 : A.units + 15 ≤ 5000)
    (hm : Mine.MyCmp prog w os d h n g v u i)
    (hq : ∀ h' tk, (∀ b o, h.get? b = some o → h'.get? b = some o) → Q (.bool (decide (i < 0))) ⟨h', #[], d, tk, os⟩) :
    wpAny (model prog w) A (call (.ref f3) [.ref x, .ref y]) Q E ⟨h, #[], d, t, os⟩ := by
  obtain ⟨n1, n2, doc, pm, cv, ctv, ⟨e1, e2⟩, e3⟩ := hf
  refine wpAny_call (codeAny_call_def (body := Mine.kBo 3) (binds := [("self", .ref x), ("other", .ref y)]) (by show A.depth < 1000; omega) e3 rfl hnl e2 rfl (BindsTo.of_eq (by rfl)) (show ∀ x ∈ (Mine.kFs 3).names, x.2 ≠ .cell by decide) ?_ (fun h2 ns2 k2 => ?_) rfl rfl rfl)
  · intro y hy
    simp only [List.mem_cons, List.not_mem_nil, or_false] at hy
    rcases hy with rfl | rfl <;> rfl
  · refine wpAny_execs_cons (wpAny_Return_some (wpAny_Compare1 (wpAny_Call_NameR ?_)))
    obtain ⟨oc, hc1, hc2⟩ := hcl
    refine wpAny_Name (wpAny_loadName_free rfl rfl (c := cl) rfl (v := .ref g) ⟨oc, k2 _ _ hc1, hc2⟩ ?_) rfl
    refine callWith_function (o := og) (fd := fdg) (Calls.evalArgs_plain (Calls.spliced_cons ?_))
    refine Mine.k_attr (hK.keeps k2) (k2 _ _ hx) hv hR.hh (by show A.depth + 1 ≤ 790; omega) (by show A.units + 3 + 5 ≤ 5000; omega) (fun Q' q => wpAny_Name (wpAny_loadName_local rfl rfl ns2 (v := .ref x) (by rfl) q) rfl) fun h3 tk3 k3 => ?_
    have k23 := fun b o e => k3 b o (k2 b o e)
    refine Calls.spliced_cons ?_
    refine Mine.k_attr (hK.keeps k23) (k23 _ _ hy) hu hR.hh (by show A.depth + 1 ≤ 790; omega) (by show A.units + 3 + 5 ≤ 5000; omega) (fun Q' q => wpAny_Name (wpAny_loadName_local rfl rfl (ns2.keeps k3) (v := .ref y) (by rfl) q) rfl) fun h4 tk4 k4 => ?_
    have k24 := fun b o e => k4 b o (k23 b o e)
    refine Calls.spliced_nil ⟨⟨k24 _ _ hog, hfg⟩, ?_⟩
    refine hm _ h4 _ _ _ hR.deeper k24 fun h5 tk5 ti k5 => ?_
    refine wpAny_mkInt (lt_int ?_)
    refine hq h5 _ fun b o e => k5 _ _ (k24 _ _ e)
theorem Mine.k_lt {Q : Bool → Shared → Prop} {g : Addr} {og : Obj} {fdg : FuncData} {n : Nat} {i : Int} (hK : Mine.KCls h a cl N) (hcl : h.IsCell cl (some (.ref g))) (hog : h.get? g = some og) (hfg : og.data = .func fdg)
    (hx : h.get? x = some (Mine.kObj a dx #[some v])) (hy : h.get? y = some (Mine.kObj a dy #[some u])) (hv : handedOut v = pure v) (hu : handedOut u = pure u) (hnl : h.NoLimit) (hR : Mine.Room A (n + 1))
    (hA2 : A.depth ≤ 780) (hA3 : A.units + 15 ≤ 5000)
    (hm : Mine.MyCmp prog w os d h n g v u i)
    (hq : ∀ h' tk, (∀ b o, h.get? b = some o → h'.get? b = some o) → Q (decide (i < 0)) ⟨h', #[], d, tk, os⟩) :
    wpAny (model prog w) A (keyLt' oneType' (.ref x) (.ref y)) Q E ⟨h, #[], d, t, os⟩ := by
  obtain ⟨dm, bA, f2, f3, nA, P, dt, kt, qt, mf, x1, x2, x3, x4, x5, x6, x7, x8, x9⟩ := id hK.ex
  obtain ⟨n1, n2, doc, pm, cv, ctv, e1, e3⟩ := id x8
  rw [keyLt'_oneType, oneLt'_eq]
  simp only [if_true]
  refine wpAny_bind (wpAny_cRoomFor (by show A.units < 9900; omega) ?_)
  have call : ∀ {Q' : Option Value → Shared → Prop}, (∀ h' tk, (∀ b o, h.get? b = some o → h'.get? b = some o) → Q' (some (.bool (decide (i < 0)))) ⟨h', #[], d, tk, os⟩) →
      wpAny (model prog w) A (callSpecialIfBound? (.ref x) "__lt__" [.ref y]) Q' E ⟨h, #[], d, t, os⟩ := by
    intro Q' hQ'
    simp only [callSpecialIfBound?, bindSpecialIfBound?]
    refine wpAny_holding (wpAny_bind (wpAny_bind ?_))
    unfold specialOf
    refine wpAny_bind (m := typeOf _) (wpAny_typeOf_ref hx ?_)
    refine Mine.k_type x1 x2 (y := some (.builtin "object.__lt__")) (by rw [typeLookup_type, builtinLookup_eq_fast]; kernel_rfl) ?_
    rw [x7]
    have fin : wpAny (model prog w) A (call (.ref f3) ([.ref x] ++ [.ref y]) >>= fun v => pure (some v)) Q' E ⟨h, #[], d, t, os⟩ :=
      wpAny_bind (Mine.k_ltcall hK hcl hog hfg x8 hx hy hv hu hnl hR hA2 hA3 hm fun h' tk k => wpAny_pure (hQ' h' tk k))
    have bs : ∀ {Q2 : Value × List Value → Shared → Prop} {E2 : Value → Shared → Prop}, Q2 (.ref f3, [.ref x]) ⟨h, #[], d, t, os⟩ → wpAny (model prog w) A (bindSpecial (.ref f3) (.ref x)) Q2 E2 ⟨h, #[], d, t, os⟩ := by
      intro Q2 E2 q
      unfold bindSpecial
      exact wpAny_bind (m := typeOf _) (wpAny_typeOf_ref e3 (wpAny_ite_true rfl (wpAny_pure q)))
    refine wpAny_bind (wpAny_askSetting (wpAny_ite ?_))
    split
    · exact wpAny_bind (bs (wpAny_pure (by exact fin)))
    · exact wpAny_tryCatch (wpAny_bind (bs (wpAny_pure (by exact fin))))
  refine wpAny_bind (call fun h' tk k => ?_)
  exact wpAny_bind (wpAny_truthy_bool (wpAny_pure (hq h' tk k)))
end
end

section
open PySem PySem.W PyProof.Rows
set_option Elab.async false
set_option linter.unusedVariables false
namespace Mine
def Hold (n : Nat) (c : Nat → Nat → Bool) {α : Type} : KasT α → (α → Prop) → Prop
  | .ret a, R => R a
  | .ask i j k, R => i < n ∧ j < n ∧ Hold n c (k (c i j)) R
variable {n : Nat} {c : Nat → Nat → Bool}
theorem Hold.mono {α : Type} {R R' : α → Prop} (h : ∀ a, R a → R' a) : ∀ {t : KasT α}, Hold n c t R → Hold n c t R'
  | .ret a, x => h a x
  | .ask i j k, ⟨x, y, z⟩ => ⟨x, y, Hold.mono h (t := k (c i j)) z⟩
theorem Hold.bind {α β : Type} {f : α → KasT β} {R : β → Prop} : ∀ {t : KasT α}, Hold n c t (fun a => Hold n c (f a) R) → Hold n c (t.bind f) R
  | .ret a, x => x
  | .ask i j k, ⟨x, y, z⟩ => ⟨x, y, Hold.bind (t := k (c i j)) z⟩
def Ok (n : Nat) (p : Array Nat) : Prop := p.Perm (List.toArray (List.range n))
theorem Ok.at {p : Array Nat} (h : Ok n p) (hn : 0 < n) (i : Nat) : p.getD i 0 < n := by
  by_cases hi : i < p.size
  · have : p.getD i 0 ∈ p := by
      simp only [Array.getD, hi, dif_pos]
      exact Array.getElem_mem hi
    have := (h.mem_iff (a := p.getD i 0)).mp this
    simpa using this
  · simp [Array.getD, hi, hn]
theorem Ok.rev {p : Array Nat} (h : Ok n p) (i j : Nat) : Ok n (kas_rev p i j) := (mirror_perm _ _ _ _).trans h
theorem asc_ok {p : Array Nat} (h : Ok n p) (hn : 0 < n) : ∀ (f m : Nat), Hold n c (kas_asc p f m) fun _ => True
  | 0, m => trivial
  | f + 1, m => ⟨h.at hn _, h.at hn _, by
      cases c (p.getD m 0) (p.getD (m - 1) 0)
      · exact asc_ok h hn f (m + 1)
      · trivial⟩
theorem desc_ok (hn : 0 < n) : ∀ (f : Nat) {p : Array Nat} (m q : Nat), Ok n p → Hold n c (kas_desc f p m q) fun r => Ok n r.1
  | 0, p, m, q, h => h
  | f + 1, p, m, q, h => ⟨h.at hn _, h.at hn _, by
      cases c (p.getD m 0) (p.getD (m - 1) 0)
      · refine ⟨h.at hn _, h.at hn _, ?_⟩
        cases c (p.getD (m - 1) 0) (p.getD m 0)
        · exact desc_ok hn f _ _ h
        · exact h
      · show Hold n c (if q > 0 then _ else _) _
        split
        · exact desc_ok hn f _ _ (h.rev _ _)
        · exact desc_ok hn f _ _ h⟩
theorem tail_ok {p : Array Nat} (h : Ok n p) (hn : 0 < n) (m k : Nat) : Hold n c (kas_tail3 m k p) fun r => Ok n r.2 :=
  Hold.bind (Hold.mono (fun a _ => h.rev _ _) (asc_ok (h.rev _ _) hn _ _))
theorem descPart_ok {p : Array Nat} (h : Ok n p) (hn : 0 < n) (m k : Nat) : Hold n c (kas_descPart m k p) fun r => Ok n r.2 := by
  refine Hold.bind (Hold.mono (fun r hr => ?_) (desc_ok hn _ _ _ h))
  show Hold n c (if r.2.2 > 0 then _ else _) _
  split
  · exact tail_ok (hr.rev _ _) hn _ _
  · exact tail_ok hr hn _ _
theorem count_ok {p : Array Nat} (h : Ok n p) (hn : 0 < n) (k : Nat) : Hold n c (kas_count k p) fun r => Ok n r.2 := by
  refine Hold.bind (Hold.mono (fun m _ => ?_) (asc_ok h hn _ _))
  show Hold n c (if (m == k) = true then _ else if m > 1 then _ else _) _
  split
  · exact h
  · split
    · refine ⟨h.at hn _, h.at hn _, ?_⟩
      cases c (p.getD 0 0) (p.getD (m - 1) 0)
      · exact descPart_ok (h.rev _ _) hn _ _
      · exact h
    · exact descPart_ok h hn _ _
theorem place_ok {p : Array Nat} (h : Ok n p) (hn : 0 < n) (k : Nat) : ∀ (f l r : Nat), Hold n c (kas_place p k f l r) fun _ => True
  | 0, l, r => trivial
  | f + 1, l, r => by
    show Hold n c (if l ≥ r then _ else _) _
    split
    · trivial
    · refine ⟨h.at hn _, h.at hn _, ?_⟩
      cases c (p.getD k 0) (p.getD ((l + r) / 2) 0)
      · exact place_ok h hn k f _ _
      · exact place_ok h hn k f _ _
theorem bin_ok (hn : 0 < n) : ∀ (f : Nat) {p : Array Nat} (k : Nat), Ok n p → Hold n c (kas_bin f p k) (Ok n)
  | 0, p, k, h => h
  | f + 1, p, k, h => Hold.bind (Hold.mono (fun l _ => bin_ok hn f _ ((bubble_perm _ _ _).trans h)) (place_ok h hn k _ _ _))
theorem sort_ok (hn : 0 < n) : Hold n c (kas_sort n) (Ok n) := by
  refine Hold.bind (Hold.mono (fun r hr => ?_) (count_ok (Array.Perm.refl _) hn n))
  show Hold n c (if r.1 < n then _ else _) _
  split
  · exact bin_ok hn _ _ hr
  · exact hr
theorem Hold.wp {cmp : Nat → Nat → (Bool → Shared → Prop) → Shared → Prop} {α : Type} {R : α → Prop} {Q : α → Shared → Prop} (I : Shared → Prop) (hc : ∀ i j s C, i < n → j < n → I s → (∀ s', I s' → C (c i j) s') → cmp i j C s)
    (hQ : ∀ a s, R a → I s → Q a s) : ∀ {t : KasT α} {s : Shared}, Hold n c t R → I s → t.kasWp cmp Q s
  | .ret a, s, h, hs => hQ a s h hs
  | .ask i j k, s, ⟨h1, h2, h3⟩, hs => hc i j s _ h1 h2 hs fun s' hs' => Hold.wp I hc hQ (t := k (c i j)) h3 hs'
end Mine
end

section
open PySem PySem.W PySem.W.X PyProof.Rows PySem.Spec PySem.Calls
set_option Elab.async false
set_option maxRecDepth 100000
theorem Mine.lu_abs {M : Model} {A : Around} {E : Value → Shared → Prop} {h : Heap} {g : Array GenState} {d : Drawn} {t : Nat} {os : OsState} {a : Addr} {xs : Array Value} {n : Nat} {f : Array Value → Array Value} {Q : Unit → Shared → Prop}
    (ho : h.get? a = some (seqObj "list" xs n)) (h1 : xs.size ≤ 1000) (h2 : (f xs).size ≤ 1000)
    (hq : ∀ h' c, h'.get? a = some (seqObj "list" (f xs) c) → Heap.SameBut a h h' → Q () ⟨h', g, d, t, os⟩) : wpAny M A (Builtin.List.listUpdate (.ref a) f) Q E ⟨h, g, d, t, os⟩ :=
  listUpdate_at ho rfl (hq _ _ (get?_update_seq ho f) (Heap.SameBut.update ..)) (by rw [sizeLine_eq]; omega) (by rw [sizeLine_eq]; omega)
def Mine.Insts (h : Heap) (kc : Addr) (vs : List Value) (xs : List Value) : Prop :=
  ∀ (j : Nat) (x : Value), xs[j]? = some x → ∃ (b dx : Addr) (v : Value), x = .ref b ∧ vs[j]? = some v ∧ h.get? b = some (Mine.kObj kc dx #[some v])
theorem Mine.Insts.kp {h h' : Heap} {kc : Addr} {vs xs : List Value} {D : Addr} (x : Mine.Insts h kc vs xs) (hs : Heap.SameBut D h h') (hD : ∃ ys c, h.get? D = some (seqObj "list" ys c)) : Mine.Insts h' kc vs xs := by
  intro j y hy
  obtain ⟨b, dx, v, e1, e2, e3⟩ := x j y hy
  refine ⟨b, dx, v, e1, e2, (hs.2 b ?_).trans e3⟩
  rintro rfl
  obtain ⟨ys, c, e⟩ := hD
  rw [e] at e3; cases e3
theorem Mine.Insts.keeps {h h' : Heap} {kc : Addr} {vs xs : List Value} (x : Mine.Insts h kc vs xs) (k : ∀ b o, h.get? b = some o → h'.get? b = some o) : Mine.Insts h' kc vs xs := by
  intro j y hy
  obtain ⟨b, dx, v, e1, e2, e3⟩ := x j y hy
  exact ⟨b, dx, v, e1, e2, k _ _ e3⟩
structure Mine.SI (h0 : Heap) (kc D kS : Addr) (vs : List Value) (e1 : Nat) (xs : List Value) (h : Heap) : Prop where
  keep : ∀ b o, h0.get? b = some o → h.get? b = some o
  hD : h.get? D = some (seqObj "list" #[] e1)
  hS : ∃ e, h.get? kS = some (seqObj "list" xs.toArray e)
  ins : Mine.Insts h kc vs xs
theorem Mine.SI.keeps {h0 h h' : Heap} {kc D kS : Addr} {vs xs : List Value} {e1 : Nat} (x : Mine.SI h0 kc D kS vs e1 xs h) (k : ∀ b o, h.get? b = some o → h'.get? b = some o) : Mine.SI h0 kc D kS vs e1 xs h' :=
  ⟨fun b o e => k _ _ (x.keep b o e), k _ _ x.hD, x.hS.imp fun e q => k _ _ q, x.ins.keeps k⟩
section
variable {prog : Program} {w : World} {A : Around} {E : Value → Shared → Prop} {h h0 : Heap} {d : Drawn} {t : Nat} {os : OsState} {kc N cl g D kS : Addr} {vs : List Value} {e1 nn : Nat} {og : Obj} {fdg : FuncData} {ans : Nat → Nat → Int} {R : Array Nat → Prop}
structure Mine.SK (prog : Program) (w : World) (os : OsState) (d : Drawn) (h0 : Heap) (kc cl N g nn : Nat) (vs : List Value) (ans : Nat → Nat → Int) : Prop where
  K : Mine.KCls h0 kc cl N
  cell : h0.IsCell cl (some (.ref g))
  fn : ∃ og fdg, h0.get? g = some og ∧ og.data = .func fdg
  nl : h0.NoLimit
  out : ∀ v ∈ vs, handedOut v = pure v
  cmp : ∀ i j v u, vs[i]? = some v → vs[j]? = some u → Mine.MyCmp prog w os d h0 nn g v u (ans i j)
theorem Mine.k_tail {P : PySem.Fin → Shared → Prop} {st : SortSt} {p : Array Nat} {xs : List Value} (S : Mine.SI h0 kc D kS vs e1 xs h) (hDS : D ≠ kS) (h0D : h0.get? D = none) (h0S : h0.get? kS = none) (hl : xs.length = vs.length) (hz : vs.length ≤ 900) (hps : p.size = vs.length)
    (hst : (arrOf st).map (·.2) = (p.toList.map fun i => vs.getD i Value.none).toArray) (hf : failedOf st = none)
    (hq : ∀ h' c, (∀ b o, h0.get? b = some o → h'.get? b = some o) → h'.get? D = some (seqObj "list" (p.toList.map fun i => vs.getD i Value.none).toArray c) → P (.done (.ret .none)) ⟨h', #[], d, t, os⟩) :
    wpAny (model prog w) A (ksk_tail D false e1 (.ref kS) st) P E ⟨h, #[], d, t, os⟩ := by
  obtain ⟨e, hS⟩ := S.hS
  unfold ksk_tail
  dsimp only
  refine wpAny_bind (Mine.lu_abs hS (by rw [List.size_toArray]; omega) (Nat.zero_le _) fun h1 c1 g1 s1 => ?_)
  refine wpAny_bind (wpAny_letGo ?_)
  have hD1 : h1.get? D = some (seqObj "list" #[] e1) := (s1.2 D hDS).trans S.hD
  refine wpAny_bind (seqEpoch_at hD1 rfl ?_)
  refine wpAny_bind (Mine.lu_abs hD1 (Nat.zero_le _) ?_ fun h2 c2 g2 s2 => ?_)
  · rw [if_neg (by decide), hst, List.size_toArray, List.length_map, Array.length_toList, hps]; omega
  rw [hf]
  rw [if_neg (by decide), hst] at g2
  simp only [bne_self_eq_false, Bool.false_eq_true, if_false]
  refine wpAny_pure (hq h2 c2 (fun b o q => ?_) g2)
  have n1 : b ≠ D := fun z => by rw [z, h0D] at q; cases q
  have n2 : b ≠ kS := fun z => by rw [z, h0S] at q; cases q
  exact (s2.2 b n1).trans ((s1.2 b n2).trans (S.keep b o q))
theorem Mine.MyCmp.mono {h h' : Heap} {n : Nat} {g : Addr} {v u : Value} {i : Int} (x : Mine.MyCmp prog w os d h n g v u i) (k : ∀ b o, h.get? b = some o → h'.get? b = some o) : Mine.MyCmp prog w os d h' n g v u i :=
  fun A h1 tk Q E r k1 q => x A h1 tk Q E r (fun b o e => k1 _ _ (k _ _ e)) q
theorem Mine.item_at {xs vs : List Value} (hl : xs.length = vs.length) {i : Nat} (hi : i < vs.length) : kas_item (xs.toArray.zip vs.toArray) i = (xs[i]'(by omega), vs[i]) := by
  unfold kas_item
  have hz : (xs.toArray.zip vs.toArray).size = vs.length := by simp [hl]
  simp [Array.getD, hz, hi, hl]
theorem Mine.k_end {P : PySem.Fin → Shared → Prop} {xs : List Value} (K : Mine.SK prog w os d h0 kc cl N g nn vs ans) (S : Mine.SI h0 kc D kS vs e1 xs h) (hDS : D ≠ kS) (h0D : h0.get? D = none) (h0S : h0.get? kS = none) (hl : xs.length = vs.length) (hz : vs.length ≤ 60)
    (hR : Mine.Room A (nn + 1)) (hA2 : A.depth ≤ 780) (hA3 : A.units + 15 ≤ 5000) (hH : 2 ≤ vs.length → Mine.Hold vs.length (fun i j => decide (ans i j < 0)) (kas_sort vs.length) R) (hR1 : vs.length < 2 → R (List.toArray (List.range vs.length)))
    (hRs : ∀ p, R p → p.size = vs.length)
    (hq : ∀ p h' tk c, R p → (∀ b o, h0.get? b = some o → h'.get? b = some o) → h'.get? D = some (seqObj "list" (p.toList.map fun i => vs.getD i Value.none).toArray c) → P (.done (.ret .none)) ⟨h', #[], d, tk, os⟩) :
    wpAny (model prog w) A (ksk_end D false vs.toArray e1 (.ref kS) xs.toArray) P E ⟨h, #[], d, t, os⟩ := by
  have hzs : (xs.toArray.zip vs.toArray).size = vs.length := by simp [hl]
  unfold ksk_end
  dsimp only
  rw [if_neg (by decide)]
  by_cases h2 : vs.toArray.size < 2
  · rw [if_pos h2, if_pos h2]
    refine wpAny_bind (wpAny_pure ?_)
    rw [StateT.run_pure]
    refine wpAny_bind (wpAny_pure ?_)
    dsimp only
    rw [List.size_toArray] at h2
    refine Mine.k_tail S hDS h0D h0S hl (by omega) (p := List.toArray (List.range vs.length)) (by simp) ?_ rfl fun h' c k g => hq _ h' _ c (hR1 h2) k g
    show ((xs.toArray.zip vs.toArray).map (·.2)) = _
    apply Array.toList_inj.mp
    apply List.ext_getElem
    · simp [hl]
    · intro i q1 q2
      simp at q1 q2
      simp [q2]
  · rw [if_neg h2, if_neg h2]
    rw [List.size_toArray] at h2
    refine wpAny_bind (kas_kind (T := .ref kc) (by omega) (fun v hv => ?_) (by rfl) (by simp) ?_)
    · obtain ⟨j, hj, rfl⟩ := List.getElem_of_mem hv
      obtain ⟨b, dx, v, q1, q2, q3⟩ := S.ins j _ (List.getElem?_eq_getElem hj)
      rw [q1]
      exact fun A' Q' E' s' hk hq' => wpAny_typeOf_ref (hk _ _ q3) hq'
    have est : SortSt.mk' oneType' (xs.toArray.zip vs.toArray) #[] 7 none = kas_st oneType' (xs.toArray.zip vs.toArray) (List.toArray (List.range vs.length)) := by
      have e := kas_range (xs.toArray.zip vs.toArray)
      rw [hzs] at e
      show _ = SortSt.mk' oneType' ((List.toArray (List.range vs.length)).map (kas_item (xs.toArray.zip vs.toArray))) #[] 7 none
      rw [e]
    rw [if_neg (by decide), est]
    have ask : (kas_sort vs.length).kasWp (kas_cmp prog w A oneType' (xs.toArray.zip vs.toArray)) (fun p s' => R p ∧ ∃ h' tk, s' = ⟨h', #[], d, tk, os⟩ ∧ Mine.SI h0 kc D kS vs e1 xs h') ⟨h, #[], d, t, os⟩ := by
      refine Mine.Hold.wp (n := vs.length) (c := fun i j => decide (ans i j < 0)) (R := R) (fun s' => ∃ h' tk, s' = ⟨h', #[], d, tk, os⟩ ∧ Mine.SI h0 kc D kS vs e1 xs h') ?_ (fun p s' r q => ⟨r, q⟩) (hH (by omega)) ⟨h, t, rfl, S⟩
      rintro i j s' C hi hj ⟨h', tk, rfl, S'⟩ hC
      unfold kas_cmp
      rw [Mine.item_at hl hi, Mine.item_at hl hj]
      obtain ⟨b1, dx1, v1, q1, q2, q3⟩ := S'.ins i _ (List.getElem?_eq_getElem (by omega))
      obtain ⟨b2, dx2, v2, r1, r2, r3⟩ := S'.ins j _ (List.getElem?_eq_getElem (by omega))
      obtain ⟨og, fdg, f1, f2⟩ := K.fn
      obtain ⟨oc, c1, c2⟩ := K.cell
      dsimp only
      rw [q1, r1]
      exact Mine.k_lt (K.K.keeps S'.keep) ⟨oc, S'.keep _ _ c1, c2⟩ (S'.keep _ _ f1) f2 q3 r3 (K.out _ (List.mem_of_getElem? q2)) (K.out _ (List.mem_of_getElem? r2)) (K.nl.keeps S'.keep) hR hA2 hA3 ((K.cmp i j v1 v2 q2 r2).mono S'.keep)
        fun h3 tk3 k3 => hC _ ⟨h3, tk3, rfl, S'.keeps k3⟩
    have run := kas_runs (E := E) (Q := fun _ st' s' => ∃ p : Array Nat, p.size = vs.length ∧ arrOf st' = p.map (kas_item (xs.toArray.zip vs.toArray)) ∧ failedOf st' = none ∧ R p ∧ ∃ h' tk, s' = ⟨h', #[], d, tk, os⟩ ∧ Mine.SI h0 kc D kS vs e1 xs h')
      (by omega) (by omega) (fun p' st' s' a1 a2 a3 a4 => ⟨p', a1, a2, a3, a4.1, a4.2⟩) ask
    refine wpAny_bind (wpAny_mono run ?_ fun _ _ e => e)
    rintro ⟨⟨⟩, st'⟩ s' ⟨p, hp, har, hf, hRp, h', tk, rfl, S'⟩
    dsimp only
    refine Mine.k_tail S' hDS h0D h0S hl (by omega) (p := p) hp ?_ hf fun h3 c k g => hq p h3 _ c hRp k g
    apply Array.toList_inj.mp
    rw [har, Array.map_map, Array.toList_map]
    refine List.map_congr_left fun i _ => ?_
    show (kas_item (xs.toArray.zip vs.toArray) i).2 = _
    by_cases hi : i < vs.length
    · rw [Mine.item_at hl hi]
      simp [hi]
    · have : ¬ i < (xs.toArray.zip vs.toArray).size := by rw [hzs]; exact hi
      simp only [kas_item, Array.getD, this, dif_neg, not_false_iff]
      simp [List.getElem?_eq_none (Nat.le_of_not_lt hi)]
theorem Mine.k_rest {P : PySem.Fin → Shared → Prop} (K : Mine.SK prog w os d h0 kc cl N g nn vs ans) (S : Mine.SI h0 kc D kS vs e1 [] h) (hDS : D ≠ kS) (h0D : h0.get? D = none) (h0S : h0.get? kS = none) (hz : vs.length ≤ 60)
    (hR : Mine.Room A (nn + 1)) (hA2 : A.depth ≤ 780) (hA3 : A.units + 15 ≤ 5000) (hH : 2 ≤ vs.length → Mine.Hold vs.length (fun i j => decide (ans i j < 0)) (kas_sort vs.length) R) (hR1 : vs.length < 2 → R (List.toArray (List.range vs.length)))
    (hRs : ∀ p, R p → p.size = vs.length)
    (hq : ∀ p h' tk c, R p → (∀ b o, h0.get? b = some o → h'.get? b = some o) → h'.get? D = some (seqObj "list" (p.toList.map fun i => vs.getD i Value.none).toArray c) → P (.done (.ret .none)) ⟨h', #[], d, tk, os⟩) :
    wpAny (model prog w) A (ksk_rest D (.ref kc) false vs.toArray e1 (.ref kS)) P E ⟨h, #[], d, t, os⟩ := by
  unfold ksk_rest
  refine wpAny_bind (wpAny_rule ?_)
  first
    | rw [List.forIn_toArray]
    | (rw [← Array.forIn_toList]; simp only [List.toList_toArray])
    | rw [← Array.forIn_toList]
  refine wpAny_bind (ksk_fold (fun i s' => ∃ h' tk xs, s' = ⟨h', #[], d, tk, os⟩ ∧ xs.length = i ∧ Mine.SI h0 kc D kS vs e1 xs h') vs 0 _ ⟨h, t, [], rfl, rfl, S⟩ ?step ?done)
  case step =>
    rintro j v s' hv ⟨h', tk, xs, rfl, hl, S'⟩
    have hj : j < vs.length := (List.getElem?_eq_some_iff.mp hv).1
    refine wpAny_bind (wpAny_attempt (Mine.k_make (K.K.keeps S'.keep) (K.nl.keeps S'.keep) (by omega) fun x dx h2 tk2 k2 nx hx => ?_))
    have S2 := S'.keeps k2
    obtain ⟨e, hS⟩ := S2.hS
    dsimp only
    refine wpAny_bind (Mine.lu_abs hS (by rw [List.size_toArray]; omega) (by rw [Array.size_push, List.size_toArray]; omega) fun h3 c3 g3 s3 => ?_)
    refine wpAny_pure ⟨rfl, h3, _, xs ++ [.ref x], rfl, by rw [List.length_append, hl]; simp, ?_, (s3.2 D hDS).trans S2.hD, ⟨c3, ?_⟩, ?_⟩
    · intro b o q
      have n2 : b ≠ kS := fun z => by rw [z, h0S] at q; cases q
      exact (s3.2 b n2).trans (S2.keep b o q)
    · rw [g3]; simp
    · have I3 := S2.ins.kp s3 ⟨_, _, hS⟩
      intro i y hy
      rcases Nat.lt_or_ge i xs.length with hi | hi
      · rw [List.getElem?_append_left hi] at hy
        exact I3 i y hy
      · rw [List.getElem?_append_right hi] at hy
        have hi0 : i - xs.length = 0 := by
          cases q : i - xs.length with
          | zero => rfl
          | succ n => rw [q] at hy; simp at hy
        rw [hi0] at hy
        simp only [List.getElem?_cons_zero, Option.some.injEq] at hy
        subst hy
        have hij : i = j := by omega
        subst hij
        refine ⟨x, dx, v, rfl, hv, (s3.2 x ?_).trans hx⟩
        rintro rfl
        obtain ⟨e', he'⟩ := S'.hS
        rw [he'] at nx; cases nx
  case done =>
    rintro s' ⟨h', tk, xs, rfl, hl, S'⟩
    obtain ⟨e, hS⟩ := S'.hS
    refine wpAny_bind (listItems_at hS rfl ?_)
    exact Mine.k_end K S' hDS h0D h0S (by omega) hz hR hA2 hA3 hH hR1 hRs hq
theorem Mine.k_tree {P : PySem.Fin → Shared → Prop} {n0 : Nat} (K : Mine.SK prog w os d h0 kc cl N g nn vs ans) (keep : ∀ b o, h0.get? b = some o → h.get? b = some o) (hD : h.get? D = some (seqObj "list" vs.toArray n0)) (h0D : h0.get? D = none) (hz : vs.length ≤ 60)
    (hR : Mine.Room A (nn + 1)) (hA2 : A.depth ≤ 780) (hA3 : A.units + 15 ≤ 5000) (hH : 2 ≤ vs.length → Mine.Hold vs.length (fun i j => decide (ans i j < 0)) (kas_sort vs.length) R) (hR1 : vs.length < 2 → R (List.toArray (List.range vs.length)))
    (hRs : ∀ p, R p → p.size = vs.length)
    (hq : ∀ p h' tk c, R p → (∀ b o, h0.get? b = some o → h'.get? b = some o) → h'.get? D = some (seqObj "list" (p.toList.map fun i => vs.getD i Value.none).toArray c) → P (.done (.ret .none)) ⟨h', #[], d, tk, os⟩) :
    wpAny (model prog w) A (ksk_tree D (.ref kc) false) P E ⟨h, #[], d, t, os⟩ := by
  unfold ksk_tree
  refine wpAny_bind (listItems_at hD rfl ?_)
  refine wpAny_bind (Mine.lu_abs hD (by rw [List.size_toArray]; omega) (Nat.zero_le _) fun h1 e1 g1 s1 => ?_)
  refine wpAny_bind (seqEpoch_at g1 rfl ?_)
  refine wpAny_bind (m := newTuple _) (Mine.newObj_abs (show sizeOk (Data.seq _) by show vs.toArray.toList.toArray.size ≤ _; rw [sizeLine_eq]; simp; omega) rfl fun tA h2 g2 k2 n2 => ?_)
  refine wpAny_bind (m := newList _) (Mine.newObj_abs (show sizeOk (Data.seq _) by show (0 : Nat) ≤ _; omega) rfl fun kS h3 g3 k3 n3 => ?_)
  refine wpAny_holding ?_
  have k13 : ∀ b o, h1.get? b = some o → h3.get? b = some o := fun b o e => k3 _ _ (k2 _ _ e)
  have hDS : D ≠ kS := Mine.ne_of_new ⟨_, k2 _ _ g1⟩ n3
  have kp : ∀ b o, h0.get? b = some o → h3.get? b = some o := fun b o e => by
    have n1 : b ≠ D := fun z => by rw [z, h0D] at e; cases e
    exact k13 _ _ ((s1.2 b n1).trans (keep b o e))
  have h0S : h0.get? kS = none := by
    cases q : h0.get? kS with
    | none => rfl
    | some o =>
      have n1 : kS ≠ D := hDS.symm
      have := k2 _ _ ((s1.2 kS n1).trans (keep _ _ q))
      rw [this] at n3; cases n3
  exact Mine.k_rest K ⟨kp, k13 _ _ g1, ⟨_, g3⟩, fun j x hx => by simp at hx⟩ hDS h0D h0S hz hR hA2 hA3 hH hR1 hRs hq
theorem Mine.k_sorted {Q : Value → Shared → Prop} {l : Addr} (K : Mine.SK prog w os d h kc cl N g nn vs ans) (hl : h.IsList l vs.toArray) (hz : vs.length ≤ 60)
    (hR : Mine.Room A.in1.in1 (nn + 1)) (hA2 : A.depth ≤ 780) (hA3 : A.units + 17 ≤ 5000) (hH : 2 ≤ vs.length → Mine.Hold vs.length (fun i j => decide (ans i j < 0)) (kas_sort vs.length) R) (hR1 : vs.length < 2 → R (List.toArray (List.range vs.length)))
    (hRs : ∀ p, R p → p.size = vs.length)
    (hq : ∀ D p h' tk c, R p → (∀ b o, h.get? b = some o → h'.get? b = some o) → h.get? D = none → h'.get? D = some (seqObj "list" (p.toList.map fun i => vs.getD i Value.none).toArray c) → Q (.ref D) ⟨h', #[], d, tk, os⟩) :
    wpAny (model prog w) A (call (.builtin "sorted") [.ref l] [("key", .ref kc)]) Q E ⟨h, #[], d, t, os⟩ := by
  refine call_function_entry_kw kind_sorted plain_sorted entry_sorted (ksk_s1 _ _) ?_
  unfold Builtin.«sorted»
  refine wpAny_bind (m := checkCount "sorted" 1 1 _) (wpAny_pure ?_)
  refine wpAny_bind (collect_list hl ?_ (by rw [sizeLine_eq]; omega))
  have keep : ∀ b o, h.get? b = some o → ((h.push (seqObj "list" #[] 0)).update h.objs.size (Obj.mapSeq (· ++ vs.toArray))).get? b = some o := fun b o q => by
    have hlt : b < h.objs.size := Heap.lt_size q
    rw [Heap.get?_update_ne _ _ _ _ (Nat.ne_of_lt hlt), Heap.get?_push_ne _ _ _ (Nat.ne_of_lt hlt)]
    exact q
  generalize ((h.push (seqObj "list" #[] 0)).update h.objs.size (Obj.mapSeq (· ++ vs.toArray))) = h1 at keep ⊢
  refine wpAny_bind (m := newList _) (Mine.newObj_abs (show sizeOk (Data.seq _) by show vs.toArray.size ≤ _; rw [sizeLine_eq]; simp; omega) rfl fun D h2 g2 k2 n2 => ?_)
  have h0D : h.get? D = none := Mine.get_none keep n2
  refine wpAny_bind (wpAny_holding (wpAny_call_entry_kw slot_list_sort ⟨_, g2, rfl⟩ entry_list_sort ?body (ksk_l1 _ _)))
  case body =>
    show wpAny (model prog w) A.in1.in1 (Builtin.«list.sort» ⟨[.ref D], [(Str.ofString "key", .ref kc)]⟩) _ _ _
    rw [ksk_t1]
    refine Mine.k_tree (D := D) K (fun b o e => k2 _ _ (keep b o e)) g2 h0D hz hR hA2 (by show A.units + 1 + 1 + 15 ≤ 5000; omega) hH hR1 hRs fun p h' tk c r k g => ⟨_, rfl, ?_⟩
    exact wpAny_pure ⟨_, rfl, hq D p h' tk c r k h0D g⟩
end
end

section
set_option Elab.async false
set_option linter.unusedVariables false
set_option linter.unusedSimpArgs false
set_option maxRecDepth 100000
namespace Mine
open PySem PySem.W PyProof.Rows PySem.Calls
section
variable {G : Gx} {n : Nat} {P : Pred} {f : Addr} {fd : FuncData} {e : Expr} {ns : List Str} {ds : List D} {pas : Mu} {R : D → Mu → Prop}
structure LamOk (fd : FuncData) (e : Expr) (ns : List Str) (k : Nat) : Prop where
  body : fd.body = .expr e
  bind : ∀ (vs : List Value), vs.length = k → bindArgs fd ⟨vs, []⟩ = pure (ns.zip vs)
  nd : ns.Nodup
  kind : fd.scope.kind = .function
  co : fd.scope.isCoroutine = false
  gen : fd.scope.isGenerator = false
  gl : fd.globals = mainGlobals
  bu : fd.builtins = builtinsNs
theorem call_lam (hmon : P.Mon) (ok : LamOk fd e ns ds.length) (hf : ∀ K F, Fle G.hb.get? F → P K F → FnF F f fd) (hcell : ∀ x ∈ fd.scope.names, x.2 ≠ .cell) (hloc : ∀ x ∈ ns, fd.scope.names.lookup x = some .local) (cv : List (Str × D))
    (hcv : ∀ K F, P K F → (∀ x ∈ fd.closure, ∃ o v, K x.2 = some o ∧ o.data = .cell v) ∧ ∀ x d, cv.lookup x = some d → ∃ c o v, fd.scope.names.lookup x = some .free ∧ fd.closure.lookup x = some c ∧ K c = some o ∧ o.data = .cell (some v) ∧ Rep F v d)
    (hpw : fd.closure.Pairwise fun x y => x.2 ≠ y.2)
    (hb : ∀ A L, Room A (n + 1) → EvX (fnCx G A fd f L n P) { vars := ns.zip ds ++ cv, mu := pas } e R) : CallSem G (n + 1) P f pas ds R := by
  refine ⟨fun K F hbs hp => ?_, fun A K F s vs Q E hr hp X r hQ => ?_⟩
  · obtain ⟨⟨o, h1, h2⟩, _⟩ := hf K F hbs hp
    exact ⟨fd, o, h1, h2⟩
  · obtain ⟨⟨o, h1, h2⟩, c, oc, cvs, t, h3, h4, h5, h6⟩ := hf K F X.base hp
    have hl := r.length
    refine wpAny_call (kla_callFunE (prog := G.prog) (w := G.w) (by have := hr.dp; omega) (X.frz _ _ h1) h2 ok.co ok.gen ok.body ⟨c, oc, cvs, t, h3, X.frz _ _ h4, h5, h6⟩ ?_)
    rw [ok.bind vs hl]
    refine wpAny_pure (wpAny_newFunctionEnv hcell (fun x hx => hloc _ (by obtain ⟨a, b⟩ := x; exact (List.of_mem_zip hx).1)) (fun h₀ hns hsb => ⟨X.nl.fresh _ hsb, ?_⟩) ok.kind)
    have hk : ∀ b o, s.heap.get? b = some o → h₀.get? b = some o := fun b o e => hsb.extBut b o (Nat.ne_of_lt (Heap.lt_size e)) (Heap.get?_push_of_some _ e)
    have ns0 := hns
    have freshL : ∀ o, s.heap.get? s.heap.objs.size ≠ some o := fun o e => Nat.lt_irrefl _ (Heap.lt_size e)
    obtain ⟨hc1, hc2⟩ := hcv K F hp
    refine kla_codeExpr (hb A s.heap.objs.size hr K F _ (fun v s' => match (Except.ok (Flow.ret v) : Result) with | .ok (.ret v) => Q v s' | .ok _ => False | .error e => E e s') _ ?_ fun F' v s' d mu hR X' g r' => hQ F' v s' d mu hR X'.am g r')
    refine ⟨⟨ok.kind, ok.gl, ok.bu, hr.deeper, .head _, hpw, fun x hx e => ?_, hmon⟩, (X.grow (t := s.toks + (ns.zip vs).length) hk (Fle.refl _) (fun _ _ e => .inl e) fun a o e => hk _ _ (X.frz _ _ e)), fun a ha => ?_, fun x hx => ?_, ⟨_, ns0, fun x d e => ?_⟩, fun p hp ha => ?_, (fun p hp => nomatch hp), hp⟩
    · obtain ⟨o', v', q1, q2⟩ := hc1 x hx
      have e' : x.2 = s.heap.objs.size := e
      exact freshL _ (e' ▸ X.keep _ _ q1)
    · obtain rfl : a = s.heap.objs.size := by simpa [fnCx] using ha
      obtain ⟨oL, es, ep, eL, _⟩ := ns0
      exact ⟨X.fresh, X.freshK, oL, eL⟩
    · obtain ⟨o', v', q1, q2⟩ := hc1 x hx
      exact ⟨⟨v', o', hk _ _ (X.keep _ _ q1), q2⟩, .inr ⟨o', q1⟩⟩
    · have : ∀ {l r : List (Str × D)}, (l ++ r).lookup x = some d → l.lookup x = some d ∨ (l.lookup x = none ∧ r.lookup x = some d) := fun {l r} h => by
        induction l with
        | nil => exact .inr ⟨rfl, h⟩
        | cons a l ih =>
          rw [List.cons_append, List.lookup_cons] at h
          rw [List.lookup_cons]
          cases hb : x == a.1 with
          | true => rw [hb] at h; exact .inl h
          | false => rw [hb] at h; exact ih h
      rcases this e with e | ⟨_, e⟩
      · obtain ⟨v, q1, q2⟩ := lookup_zip r e
        refine ⟨v, ?_, q2⟩
        unfold VarAt
        rw [show (fnCx G A fd f s.heap.objs.size n P).env.kindOf x = some .local from hloc x (List.of_mem_zip q1).1]
        exact lookup_rev ok.nd q1
      · obtain ⟨c', o', v, q1, q2, q3, q4, q5⟩ := hc2 x d e
        refine ⟨v, ?_, q5⟩
        unfold VarAt
        rw [show (fnCx G A fd f s.heap.objs.size n P).env.kindOf x = some .free from q1]
        exact ⟨c', q2, o', hk _ _ (X.keep _ _ q3), q4⟩
    · obtain ⟨o', ho'⟩ := (X.mus p hp).1.some
      have : p.1 = s.heap.objs.size := by simpa [fnCx] using ha
      rw [this] at ho'
      exact freshL _ ho'
theorem CallSem.mycmp {g : Addr} {v u : Value} {d1 d2 : D} {i : Int} {F : Fz} {s : Shared} {K : Fz} {mu : Mu} (hm : P.Mon) (hc : CallSem G n P g [] [d1, d2] (Pure (.int i))) (X : Am G K mu F s) (hP : P (full F s.heap []) F) (h1 : Rep F v d1) (h2 : Rep F u d2) (hg : G.s0.gens = #[]) :
    MyCmp G.prog G.w s.os s.drawn s.heap n g v u i := by
  intro A h3 tk Q E hr hk hQ
  have X0 : Am G (full F s.heap []) [] F s := X.leave (pas := []) (oth := mu) rfl
  have X1 : Am G (full F s.heap []) [] F ⟨h3, #[], s.drawn, tk, s.os⟩ := by
    have := X0.grow (F' := F) (h' := h3) (t := tk) hk (Fle.refl _) (fun _ _ e => .inl e) fun a o e => hk _ _ (X.frz _ _ e)
    rw [show s.gens = #[] from X.gens.trans hg] at this
    exact this
  have X2 : Am G (full F h3 []) [] F ⟨h3, #[], s.drawn, tk, s.os⟩ := X1.leave (pas := []) (oth := []) rfl
  have hP2 : P (full F h3 []) F := hm _ _ _ _ hP (fun a o e => by
    obtain ⟨q1, q2, q3⟩ := full_some e
    exact full_of q1 q2 (hk _ _ q3)) (Fle.refl _)
  refine hc.sem A _ F _ [v, u] Q E hr hP2 X2 (.cons h1 (.cons h2 .nil)) fun F' v' s' d mu hR X3 gF r => ?_
  obtain ⟨rfl, rfl⟩ := hR
  obtain ⟨t, rfl⟩ := r.int_inv
  obtain ⟨h4, g4, d4, t4, o4⟩ := s'
  have e1 : g4 = #[] := X3.gens.trans hg
  have e2 : d4 = s.drawn := X3.drawn.trans X.drawn.symm
  have e3 : o4 = s.os := X3.os.trans X.os.symm
  subst e1 e2 e3
  refine hQ h4 t4 t fun b o e => ?_
  cases q : F b with
  | some ob =>
    have : h3.get? b = some ob := X2.frz _ _ q
    rw [this] at e; cases e
    exact X3.frz _ _ (gF _ _ q)
  | none => exact X3.keep _ _ (full_of q (by simp) e)
end
end Mine
end

section
set_option Elab.async false
set_option linter.unusedVariables false
set_option linter.unusedSimpArgs false
set_option maxRecDepth 100000
namespace Mine
open PySem PySem.W PyProof.Rows PySem.Calls
theorem Am.more {G : Gx} {K F F' : Fz} {mu : Mu} {s : Shared} (X : Am G K mu F s) (hF : Fle F F') (hn : ∀ b o, F' b = some o → F b = some o ∨ (K b = none ∧ ∀ p ∈ mu, p.1 ≠ b)) (hf : ∀ b o, F' b = some o → s.heap.get? b = some o) : Am G K mu F' s := by
  refine ⟨X.ok, fun a o e => hF _ _ (X.base _ _ e), hf, fun a o e => ?_, X.keep, fun p hp => ?_, X.nd, X.gens, X.drawn, X.os⟩
  · cases q : F' a with
    | none => rfl
    | some o' =>
      rcases hn a o' q with h | ⟨h, _⟩
      · rw [X.dis _ _ e] at h; cases h
      · rw [e] at h; cases h
  · obtain ⟨h1, h2, h3⟩ := X.mus p hp
    refine ⟨h1.mono hF fun o e => e, ?_, h3⟩
    cases q : F' p.1 with
    | none => rfl
    | some o' =>
      rcases hn _ o' q with h | ⟨_, h⟩
      · rw [h2] at h; cases h
      · exact absurd rfl (h p hp)
theorem Mo.dropNew {C : Cx} {K F F' : Fz} {σ : St} {s : Shared} {h' : Heap} {a : Addr} {mo : MO} {mu : Mu} {t : Nat} (X : Mo C K σ F s) (hσ : σ.mu = (a, mo) :: mu) (hs : Heap.ExtBut a s.heap h') (hF : Fle F F')
    (hn : ∀ b o, F' b = some o → F b = some o ∨ s.heap.get? b = none) (hf : ∀ b o, F' b = some o → h'.get? b = some o) : Mo C K (σ.setMu mu) F' { s with heap := h', toks := t } := by
  have A := X.am
  rw [hσ] at A
  have ha : a ∉ C.priv := X.pmu (a, mo) (by rw [hσ]; exact .head _)
  have A1 := A.dropExt (t := t) hs
  refine X.with (A1.more hF (fun b o e => ?_) hf) (fun b hb => ⟨?_, ?_⟩) hF fun p hp => X.pmu p (by rw [hσ]; exact .tail _ hp)
  · rcases hn b o e with h | h
    · exact .inl h
    · refine .inr ⟨?_, fun p hp q => ?_⟩
      · cases q : K b with
        | none => rfl
        | some o' => rw [X.am.keep _ _ q] at h; cases h
      · obtain ⟨o', e'⟩ := (A.mus p (.tail _ hp)).1.some
        rw [q, h] at e'; cases e'
  · obtain ⟨h1, h2, o, ho⟩ := X.priv b hb
    cases q : F' b with
    | none => rfl
    | some o' =>
      rcases hn b o' q with h | h
      · rw [h1] at h; cases h
      · rw [ho] at h; cases h
  · obtain ⟨o, ho⟩ := (X.priv b hb).2.2
    exact get_of_ext hs (fun e => ha (e ▸ hb)) ho
theorem Mo.turnNew {C : Cx} {K F F' : Fz} {σ : St} {s : Shared} {h' : Heap} {a : Addr} {mo mo' : MO} {mu : Mu} {t : Nat} (X : Mo C K σ F s) (hσ : σ.mu = (a, mo) :: mu) (hs : Heap.ExtBut a s.heap h') (hF : Fle F F')
    (hn : ∀ b o, F' b = some o → F b = some o ∨ s.heap.get? b = none) (hf : ∀ b o, F' b = some o → h'.get? b = some o) (hm : mo'.At F' h' a) : Mo C K (σ.setMu ((a, mo') :: mu)) F' { s with heap := h', toks := t } := by
  have Y := X.dropNew (t := t) hσ hs hF hn hf
  have A := X.am
  rw [hσ] at A
  obtain ⟨h1, h2, h3⟩ := A.mus (a, mo) (.head _)
  have nd := A.nd
  rw [List.map_cons, List.nodup_cons] at nd
  have hFa : F' a = none := by
    cases q : F' a with
    | none => rfl
    | some o =>
      rcases hn a o q with h | h
      · rw [h2] at h; cases h
      · obtain ⟨o', e⟩ := h1.some
        rw [h] at e; cases e
  have ha : a ∉ C.priv := X.pmu (a, mo) (by rw [hσ]; exact .head _)
  have Z : Am C.G K ((a, mo') :: mu) F' { s with heap := h', toks := t } := by
    refine ⟨Y.am.ok, Y.am.base, Y.am.frz, Y.am.dis, Y.am.keep, fun p hp => ?_, ?_, Y.am.gens, Y.am.drawn, Y.am.os⟩
    · rcases List.mem_cons.mp hp with rfl | hp
      · exact ⟨hm, hFa, h3⟩
      · exact Y.am.mus p hp
    · rw [List.map_cons, List.nodup_cons]; exact nd
  refine Y.with Z (fun b hb => ⟨(Y.priv b hb).1, rfl⟩) (Fle.refl _) fun p hp => ?_
  rcases List.mem_cons.mp hp with rfl | hp
  · exact ha
  · exact Y.pmu p hp
theorem Rep.out {F : Fz} {v : Value} {d : D} (h : Rep F v d) : handedOut v = pure v := by
  cases h <;> rfl
def permL (ds : List D) (p : Array Nat) : List D := p.toList.map fun i => ds.getD i .none
theorem RepL.perm {F : Fz} {vs : List Value} {ds : List D} (r : RepL F vs ds) : ∀ (l : List Nat), RepL F (l.map fun i => vs.getD i .none) (l.map fun i => ds.getD i .none)
  | [] => .nil
  | i :: l => .cons (by
      by_cases hi : i < ds.length
      · obtain ⟨v, h1, h2⟩ := r.get (List.getElem?_eq_getElem hi)
        simp only [List.getD_eq_getElem?_getD, h1, List.getElem?_eq_getElem hi, Option.getD_some]
        exact h2
      · have h1 := r.length
        have e1 : ds[i]? = none := List.getElem?_eq_none (Nat.le_of_not_lt hi)
        have e2 : vs[i]? = none := List.getElem?_eq_none (by omega)
        simp only [List.getD_eq_getElem?_getD, e1, e2, Option.getD_none]
        exact .none) (RepL.perm r l)
end Mine
end

section
set_option Elab.async false
set_option linter.unusedVariables false
set_option linter.unusedSimpArgs false
set_option maxRecDepth 100000
namespace Mine
open PySem PySem.W PyProof.Rows PySem.Calls
abbrev T0 : MO := .obj (· = tabObj #[])
abbrev T1 : MO := .obj (fun o => ∃ more, o = tabObj more)
section
variable {C : Cx} {σ : St}
abbrev lamFd (C : Cx) (params : Arguments) (body : Expr) (lsc : Scope) (clos : List (Str × Addr)) (pm : Value) (c' : Addr) (ctv : Value) : FuncData :=
  kla_fn "<lambda>" (C.env.qual ++ "<lambda>") params body lsc clos pm (.ref c') ctv
theorem EvX.keyed {e body : Expr} {params : Arguments} {lsc : Scope} {p1 p2 p3 p4 p5 lp : Pos} {ds : List D} {fa c1 P1 cL PL : Addr} {doc pm cdv ct : Value} {an : Option Addr} {ms : Str → Option Value} {rest : Mu} {clos : List (Str × Addr)} {ans : Nat → Nat → Int} {R : Array Nat → Prop} {n : Nat}
    (hs1 : C.env.kindOf "sorted" = some .globalImplicit) (hs2 : C.G.mg "sorted" = none) (hs3 : C.G.mb "sorted" = some (.builtin "sorted"))
    (hc1 : C.env.kindOf "cmp_to_key" = some .globalImplicit) (hc2 : C.G.mg "cmp_to_key" = some (.ref fa)) (he : Ev C σ e (.list ds)) (hz : ds.length ≤ 60) (hgens : C.G.s0.gens = #[])
    (H : KPre C.G.hb C.G.mg C.G.mb ms fa c1 P1 doc pm cdv ct an) (hL : C.env.code = .ref cL) (hLd : CodeHd C.G.hb cL PL) (hcl : closureFor lsc C.env = pure clos) (hdef : defaultsOf params C.env = ([], []))
    (hσ : σ.mu.Perm ((PL, T0) :: (P1, T0) :: rest)) (hrm : n + 3 ≤ C.rm) (hdp : C.A.depth ≤ 700) (hun : C.A.units ≤ 4000)
    (hlam : ∀ gl c' ctv, ∃ PP : Pred, PP.Mon ∧ (∀ K F s, Mo C K (σ.setMu ((P1, T1) :: (PL, T1) :: rest)) F s → FnF F gl (lamFd C params body lsc clos ((C.G.mg "__name__").getD .none) c' ctv) → PP (full F s.heap []) F) ∧
      ∀ i j d1 d2, ds[i]? = some d1 → ds[j]? = some d2 → CallSem C.G n PP gl [] [d1, d2] (Pure (.int (ans i j))))
    (hH : 2 ≤ ds.length → Hold ds.length (fun i j => decide (ans i j < 0)) (kas_sort ds.length) R) (hR1 : ds.length < 2 → R (List.toArray (List.range ds.length))) (hRs : ∀ p, R p → p.size = ds.length) (hst : starEach [e] C.env = (false, eval e C.env) :: starEach [] C.env := by rfl) :
    EvX C σ (.Call (.Name "sorted" p1) [e] [⟨some "key", .Call (.Name "cmp_to_key" p2) [.Lambda params body lsc lp] [] p3, p4⟩] p5) (fun d mu => ∃ Da p, R p ∧ d = .ref Da ∧ mu = (Da, .list (permL ds p)) :: (P1, T1) :: (PL, T1) :: rest) := fun K F s Q E X hQ => by
  show wpAny _ _ (do callWith p5 (← eval (.Name "sorted" p1) C.env) [] (backTo p5 (starEach [e] C.env)) (backToKw p5 (keywordEach [⟨some "key", .Call (.Name "cmp_to_key" p2) [.Lambda params body lsc lp] [] p3, p4⟩] C.env))) Q E s
  have hb0 : backTo p5 (starEach [e] C.env) = (false, eval e C.env) :: backTo p5 (starEach [] C.env) := by rw [hst]; rfl
  refine wpAny_bind (bName X hs1 hs2 hs3 (callWith_kw ?_ hb0 (by rw [hb0]; rfl)))
  refine (EvL.cons he EvL.nil hst) p5 K F s _ E X fun F1 vs0 s1 X1 g1 r1 => ?_
  obtain ⟨v0, rfl, r2⟩ : ∃ v0, vs0 = [v0] ∧ Rep F1 v0 (.list ds) := by
    cases r1 with | cons a b => cases b with | nil => exact ⟨_, rfl, a⟩
  obtain ⟨l, ol, vs, rfl, hl1, ⟨hl2, ln, rfl⟩, rvs⟩ := r2.list_inv
  refine evalAll_cons (wpAny_bind ?_)
  refine wpAny_Call_NameR (gName X1 hc1 hc2 ?_)
  obtain ⟨of, hf1, hf2⟩ := H.fn
  refine callWith_function (o := of) (fd := fdN 1 "cmp_to_key" "cmp_to_key" .none .none doc pm an (.ref c1) ct) (Calls.evalArgs_plain (Calls.spliced_cons ?_))
  have hsb : ∀ b o, C.G.hb.get? b = some o → s1.heap.get? b = some o := fun b o e => X1.am.frz _ _ (X1.am.base _ _ e)
  have X1p := X1.perm hσ.symm
  have hPL : s1.heap.get? PL = some (tabObj #[]) := by
    obtain ⟨o, h1, h2⟩ := (X1p.am.mus (PL, T0) (.head _)).1
    rw [h1, h2]
  have hgP : mainGlobals ≠ PL := by
    rintro rfl
    obtain ⟨o, es, ep, e, q, _⟩ := H.nsg.keeps hsb
    rw [hPL] at e; cases e; cases q
  refine kla_eval hdef (kla_makeFunction (mg := C.G.mg) (ps := #[]) hcl X1.ok.gl (H.nsg.keeps hsb) hL (hLd.keeps hsb) hPL trivial rfl hgP ?_ fun c' ctv h' tk hx hge hlt hrec htb => ?_)
  · obtain ⟨bm, ob, b1, b2, b3, b4, b5, b6⟩ := H.bm
    exact ⟨bm, ob, b1, b2, b3, (fun q => by rw [q] at b4; rw [hsb _ _ b4] at hPL; cases hPL; cases b5), hsb _ _ b4, b5, b6⟩
  · obtain ⟨hp1, gg1, dd1, tt1, oo1⟩ := s1
    have hgg : gg1 = #[] := X1.am.gens.trans hgens
    subst hgg
    obtain ⟨c₂, oc, cvs, ctk, e2, hoc, hod, hov⟩ := hrec
    cases e2
    have hx : Heap.ExtBut PL hp1 h' := hx
    have hge : hp1.objs.size ≤ c' := hge
    have lsz : hp1.objs.size ≤ h'.objs.size := by omega
    generalize hlo : kla_obj "<lambda>" (C.env.qual ++ "<lambda>") params body lsc clos ((C.G.mg "__name__").getD .none) c' ctv = lo at *
    have hlg : (h'.push lo).get? h'.objs.size = some lo := Heap.get?_push_size _ (by rw [← hlo]; rfl)
    have hlc : (h'.push lo).get? c' = some oc := Heap.get?_push_of_some _ hoc
    have hfr : ∀ b, hp1.objs.size ≤ b → F1 b = none := fun b hb => by
      cases q : F1 b with
      | none => rfl
      | some o => exact absurd (Heap.lt_size (X1.am.frz _ _ q)) (Nat.not_lt.mpr hb)
    have hcg : c' ≠ h'.objs.size := Nat.ne_of_lt hlt
    have gF : Fle F1 ((F1.put c' oc).put h'.objs.size lo) := (Fle.put (hfr _ hge) _).trans (Fle.put (by rw [Fz.put_ne _ _ hcg.symm]; exact hfr _ lsz) _)
    generalize hF2 : ((F1.put c' oc).put h'.objs.size lo) = F2 at *
    have f2g : F2 h'.objs.size = some lo := by rw [← hF2]; exact Fz.put_self _ _ _
    have f2c : F2 c' = some oc := by rw [← hF2, Fz.put_ne _ _ hcg]; exact Fz.put_self _ _ _
    have f2 : ∀ b o, F2 b = some o → (b = h'.objs.size ∧ o = lo) ∨ (b = c' ∧ o = oc) ∨ F1 b = some o := fun b o q => by
      rw [← hF2] at q
      by_cases q1 : b = h'.objs.size
      · subst q1; rw [Fz.put_self] at q; cases q; exact .inl ⟨rfl, rfl⟩
      · rw [Fz.put_ne _ _ q1] at q
        by_cases q2 : b = c'
        · subst q2; rw [Fz.put_self] at q; cases q; exact .inr (.inl ⟨rfl, rfl⟩)
        · rw [Fz.put_ne _ _ q2] at q; exact .inr (.inr q)
    have hx2 : Heap.ExtBut PL hp1 (h'.push lo) := fun b o n q => Heap.get?_push_of_some _ (hx b o n q)
    have hPF : F1 PL = none := (X1p.am.mus (PL, T0) (.head _)).2.1
    have X2 := X1p.turnNew (F' := F2) (t := tk) (mo' := T1) (mu := (P1, T0) :: rest) rfl hx2 gF (fun b o q => by
      rcases f2 b o q with ⟨rfl, rfl⟩ | ⟨rfl, rfl⟩ | q
      · exact .inr (Heap.get?_none_of_le lsz)
      · exact .inr (Heap.get?_none_of_le hge)
      · exact .inl q) (fun b o q => by
      rcases f2 b o q with ⟨rfl, rfl⟩ | ⟨rfl, rfl⟩ | q
      · exact hlg
      · exact hlc
      · exact hx2 _ _ (fun z => by rw [z, hPF] at q; cases q) (X1.am.frz _ _ q)) ⟨_, Heap.get?_push_of_some _ htb, _, rfl⟩
    have X2 := X2.perm (mu' := (P1, T0) :: (PL, T1) :: rest) (List.Perm.swap ..)
    have hFn : FnF F2 h'.objs.size (lamFd C params body lsc clos ((C.G.mg "__name__").getD .none) c' ctv) := ⟨⟨lo, f2g, by rw [← hlo]⟩, c', oc, cvs, ctk, rfl, f2c, hod, hov⟩
    have hsb2 : ∀ b o, C.G.hb.get? b = some o → (h'.push lo).get? b = some o := fun b o q => X2.am.frz _ _ (X2.am.base _ _ q)
    have hP1 : (h'.push lo).get? P1 = some (tabObj #[]) := by
      obtain ⟨o, q1, q2⟩ := (X2.am.mus (P1, T0) (.head _)).1
      rw [q1, q2]
    have hcs : cdv = cdv := rfl
    refine Calls.spliced_nil ⟨⟨hsb2 _ _ hf1, hf2⟩, ?_⟩
    refine cmpk C.G.prog C.G.w C.A ⟨h'.push lo, #[], dd1, tk, oo1⟩ fa c1 P1 h'.objs.size #[] C.G.mg C.G.mb ms doc pm cdv ct an E _ X.ok.rm.hh (by omega) (by omega) rfl (H.keeps hsb2) hP1 trivial rfl fun a N cl h3 tk3 k1 k2 k3 k4 k5 k5' => ?_
    obtain ⟨more5, k5'⟩ := k5'
    have hP1F : F2 P1 = none := (X2.am.mus (P1, T0) (.head _)).2.1
    have X3 := X2.turnNew (F' := F2) (t := tk3) (h' := h3) (mo' := T1) (mu := (PL, T1) :: rest) rfl k5 (Fle.refl _) (fun _ _ e => .inl e) (fun b o q => k5 b o (fun z => by rw [z, hP1F] at q; cases q) (X2.am.frz _ _ q)) ⟨_, k5', _, rfl⟩
    have X3 : Mo C K (σ.setMu ((P1, T1) :: (PL, T1) :: rest)) F2 ⟨h3, #[], dd1, tk3, oo1⟩ := X3
    refine wpAny_bind (wpAny_standAt (wpAny_pure (evalAll_nil ?_)))
    obtain ⟨PP, pm1, pm2, pm3⟩ := hlam h'.objs.size c' ctv
    have hlen := rvs.length
    have rv2 : RepL F2 vs ds := rvs.mono gF
    refine k_sorted (R := R) (ans := ans) (nn := n) (kc := a) (cl := cl) (N := N) (g := h'.objs.size) (vs := vs) ⟨k1, k2, ⟨lo, _, X3.am.frz _ _ f2g, by rw [← hlo]⟩, X3.am.nl, fun v hv => ?_, fun i j v u hi hj => ?_⟩ ⟨_, X3.am.frz _ _ (gF _ _ hl1), rfl, _, rfl⟩ (by omega)
      ((X.ok.rm.mono hrm).in1.in1) (by omega) (by omega) (by rw [hlen]; exact hH) (by rw [hlen]; exact hR1) (by rw [hlen]; exact hRs) fun Da p h4 tk4 c4 hRp k6 k7 k8 => ?_
    · obtain ⟨i, hi, rfl⟩ := List.getElem_of_mem hv
      obtain ⟨d, q1, q2⟩ := rv2.get' (List.getElem?_eq_getElem hi)
      exact q2.out
    · obtain ⟨d1, q1, q2⟩ := rv2.get' hi
      obtain ⟨d2, q3, q4⟩ := rv2.get' hj
      exact CallSem.mycmp pm1 (pm3 i j d1 d2 q1 q3) X3.am (pm2 K F2 _ X3 hFn) q2 q4 hgens
    · have X4 := X3.addMu (t := tk4) (mo := .list (permL ds p)) k6 k7 ⟨_, p.toList.map fun i => vs.getD i .none, k8, ⟨by rw [List.length_map, Array.length_toList, hRs p hRp]; omega, _, rfl⟩, rv2.perm _⟩
      exact hQ F2 (.ref Da) _ (.ref Da) _ ⟨Da, p, hRp, rfl, rfl⟩ X4 (g1.trans gF) (.ref Da)
end
end Mine
end

section
set_option Elab.async false
set_option linter.unusedVariables false
set_option linter.unusedSimpArgs false
set_option maxRecDepth 100000
namespace Mine
open PySem PySem.W PyProof.Rows PySem.Calls
theorem Ev.neg1 {C : Cx} {σ : St} {k : Nat} {p p' : Pos} : Ev C σ (.UnaryOp .USub (.Constant (.int 1) k p) p') (.int (-1)) := fun K F s Q E X hQ => by
  refine wpAny_UnaryOp (wpAny_Constant_int ?_)
  exact neg_int (hQ F _ _ ((X.toks _).toks _) (Fle.refl _) (.int _ _))
section
variable {G : Gx} {f : Addr} {name qual : Str} {dV kV doc pm cdv ct : Value} {an : Option Addr}
def growF (fs : List Int) (leaf : Nat) (a : Int) : List Int := fs.take leaf ++ [a] ++ fs.drop (leaf + 1)
def growN (nm : List Int) (leaf : Nat) (a : Int) : List Int := (nm.set leaf (-1)).set a.toNat ((nm.set leaf (-1)).getD a.toNat 0 - 1)
theorem zs_take (l : List Int) (n : Nat) : (zs l).take n = zs (l.take n) := by simp [zs, List.map_take]
theorem zs_drop (l : List Int) (n : Nat) : (zs l).drop n = zs (l.drop n) := by simp [zs, List.map_drop]
theorem zs_set (l : List Int) (n : Nat) (x : Int) : (zs l).set n (.int x) = zs (l.set n x) := by simp [zs, List.map_set]
theorem zs_append (l m : List Int) : zs l ++ zs m = zs (l ++ m) := by simp [zs]
theorem zs_length (l : List Int) : (zs l).length = l.length := by simp [zs]
theorem zs_get (l : List Int) {i : Nat} (h : i < l.length) : (zs l)[i]? = some (.int (l.getD i 0)) := by simp [zs, h]
abbrev grCx (G : Gx) (A : Around) (name qual : Str) (doc pm cdv ct : Value) (an : Option Addr) (f L : Addr) (n : Nat) (P : Pred) : Cx := fnCx G A (fdN 6 name qual .none .none doc pm an cdv ct) f L n P
theorem grow_body {A : Around} {L : Addr} {n : Nat} {P : Pred} {fs nm : List Int} {a : Int} {leaf : Nat} (h1 : nm[leaf]? = some 0) (h2 : ∀ m, m < leaf → nm[m]? ≠ some 0) (ha : 0 ≤ a) (ha2 : a.toNat < nm.length) (hz : fs.length ≤ 1000) (hz2 : nm.length ≤ 1000) :
    WP (grCx G A name qual doc pm cdv ct an f L n P) { vars := [("state", .tup [.list (zs fs), .list (zs nm)]), ("father", .int a)], mu := [] } (bo 6)
      (Fin (Pure (.tup [.list (zs (growF fs leaf a)), .list (zs (growN nm leaf a))]))) := by
  have hl : leaf < nm.length := (List.getElem?_eq_some_iff.mp h1).1
  refine WP.unpack (.inl rfl) (.inl rfl) (Ev.name rfl) ?_
  refine WP.set (.inl rfl) (Ev.index (d := .list (zs nm)) (Ev.name rfl) Items.list Ev.int h1 h2) ?_
  refine WP.set (d := .list (zs (growF fs leaf a))) (.inl rfl) (Ev.of_new (EvN.cast (EvX.bin (Ev.of_new (EvX.bin (Ev.of_new (EvN.upto (d := .list (zs fs)) (Ev.name rfl) Items.list (Ev.name (d := .int leaf) rfl))) (Ev.of_new (EvN.list (EvL.cons (Ev.name (d := .int a) rfl) EvL.nil) (by simp))) (OpN.concat Items.list Items.list ?_)))
    (Ev.of_new (EvN.from (d := .list (zs fs)) (n := leaf + 1) (Ev.name rfl) Items.list (Ev.cast (Ev.bin (Ev.name (d := .int leaf) rfl) Ev.int Op.add) rfl))) (OpN.concat Items.list Items.list ?_)) ?_)) ?_
  · simp [zs]; omega
  · simp [zs]; omega
  · rw [zs_take, zs_drop, growF, ← zs_append, ← zs_append]; rfl
  refine WP.setX (.inl rfl) (EvN.copy (d := .list (zs nm)) (Ev.name rfl) Items.list) ?_
  rintro d mu ⟨na, rfl, rfl⟩
  refine WP.setItem (k := leaf) (d := .int (-1)) Ev.neg1 (Ev.name rfl) (Ev.name rfl) (by omega) (by rw [zs_length]; simpa using hl) MuSet.head ?_
  refine WP.setItem (k := a) (d := .int ((nm.set leaf (-1)).getD a.toNat 0 - 1)) ?_ (Ev.name rfl) (Ev.name rfl) ha (by simpa [zs_length] using ha2) MuSet.head ?_
  · refine Ev.bin (Ev.idx (d := .ref na) (x := .int ((nm.set leaf (-1)).getD a.toNat 0)) (Ev.name rfl) (Items.mu (.head _)) (Ev.name (d := .int a) rfl) ha ?_) Ev.int Op.sub
    rw [Int.toNat_natCast, zs_set]
    exact zs_get _ (by rw [List.length_set]; exact ha2)
  refine WP.frz [("fathers", .list (zs (growF fs leaf a))), ("named", .list (zs (growN nm leaf a)))] (a := na) (ds := zs (growN nm leaf a)) (mu := []) ?_ ?_ ?_
  · show [(na, MO.list _)] = _
    rw [Int.toNat_natCast, zs_set, zs_set]; rfl
  · intro p hp
    simp only [List.mem_cons, List.not_mem_nil, or_false] at hp
    rcases hp with rfl | rfl
    · exact .inl rfl
    · exact .inr ⟨rfl, rfl⟩
  exact WP.ret (Ev.tuple (EvL.cons (Ev.name rfl) (EvL.cons (Ev.name rfl) EvL.nil)) (by simp)) ⟨rfl, rfl⟩
theorem grow_sem {n : Nat} {P : Pred} {fs nm : List Int} {a : Int} {leaf : Nat} (hmon : P.Mon) (hF : FnF G.hb.get? f (fdN 6 name qual .none .none doc pm an cdv ct)) (h1 : nm[leaf]? = some 0) (h2 : ∀ m, m < leaf → nm[m]? ≠ some 0) (ha : 0 ≤ a) (ha2 : a.toNat < nm.length) (hz : fs.length ≤ 1000) (hz2 : nm.length ≤ 1000) :
    CallSem G (n + 1) P f [] [.tup [.list (zs fs), .list (zs nm)], .int a] (Pure (.tup [.list (zs (growF fs leaf a)), .list (zs (growN nm leaf a))])) := by
  refine call_fn (fd := fdN 6 name qual .none .none doc pm an cdv ct) (ns := ["state", "father"]) (body := bo 6) hmon ⟨rfl, fun s vs hb h => ?_, by decide, rfl, rfl, rfl, rfl, rfl⟩ (fun K F hb _ => hF.mono hb) (show ∀ x ∈ (sc 6).names, _ by decide) (show ∀ x ∈ (["state", "father"] : List Str), (sc 6).names.lookup x = _ by decide) [] (fun K F _ => ⟨fun x hx => (nomatch hx), fun x d h => (nomatch h)⟩) List.Pairwise.nil (by simp) fun A L hr => ?_
  · match vs, h with
    | [a, b], _ => exact BindsTo.of_eq rfl
  · exact grow_body h1 h2 ha ha2 hz hz2
end
end Mine
end

section
set_option Elab.async false
set_option linter.unusedVariables false
set_option linter.unusedSimpArgs false
set_option maxRecDepth 100000
namespace Mine
open PySem PySem.W PyProof.Rows PySem.Calls
section
variable {C : Cx} {σ : St}
theorem foldl_rep (v : Value) : ∀ (n : Nat) (a : Array Value), List.foldl (fun x1 x2 => x1 ++ x2) a (List.replicate n #[v]) = a ++ (List.replicate n v).toArray
  | 0, a => by simp
  | n + 1, a => by
    rw [List.replicate_succ, List.foldl_cons, foldl_rep v n, List.replicate_succ]
    apply Array.toList_inj.mp
    simp
theorem RepL.rep {F : Fz} {v : Value} {d : D} (h : Rep F v d) : ∀ n, RepL F (List.replicate n v) (List.replicate n d)
  | 0 => .nil
  | n + 1 => .cons h (RepL.rep h n)
theorem OpN.repeat {d1 x : D} {n : Nat} (i1 : Items C σ d1 [x]) (hz : n ≤ 1000) : OpX C σ (binaryOp .Mult) d1 (.int n) (NewL σ (List.replicate n x)) := fun K F0 s v1 v2 Q E X r1 r2 hQ => by
  obtain ⟨l, vs, k, rfl, h1, h2, h3⟩ := i1.at X r1
  obtain ⟨u, rfl⟩ := r2.int_inv
  obtain ⟨v, rfl, hv⟩ : ∃ v, vs = [v] ∧ Rep F0 v x := by
    cases h2 with | cons a b => cases b with | nil => exact ⟨_, rfl, a⟩
  have main : ∀ (items : Array Value) (m : Int), items.size * m.toNat ≤ 1000 → -1000 ≤ m → m ≤ 1000 → s.heap.get? l = some { cls := .type "list", dict := none, data := .seq items k, slots := #[] } →
      Q (.ref s.heap.objs.size) { s with heap := s.heap.push { cls := .type "list", data := .seq (List.foldl (fun x1 x2 => x1 ++ x2) #[] (List.replicate (if items.isEmpty = true then 0 else m.toNat) items)) } } →
      wpAny C.G.M C.A (binaryOp .Mult (.ref l) (.int m u)) Q E s := by
    intro items m hsz h1 h2 hl h
    exact wpAny_binaryOp_repeat_ref (T := "list") (U := "int") (by decide) ⟨_, hl, rfl⟩ (fun s' => typeIs_int s' m u) noFill_list_mul F.fills_int_mul F.slot_int_rmul repeat_list F.slot_int_index.lookup
      (call_meets F.slot_int_rmul (typeIs_int s m u) F.entry_int_rmul (F.args_int_rmul_2 _ _) (int___rmul___int_list m u l items k) ⟨hl, rfl, ⟨_, hl, rfl⟩,
        call_meets F.slot_list_mul ⟨_, hl, rfl⟩ F.entry_list_mul (F.args_list_mul_2 _ _)
          (AutoListH.list___mul___list_int_3 l items k m u (by simp [Builtin.List.listFitsIndex]; omega) (by omega) (by simp [Builtin.List.listTooLong, sizeLine]; omega)) ⟨hl, h⟩⟩)
  refine main #[v] n (by simp; omega) (by omega) (by omega) h1 ?_
  have e : (List.foldl (fun x1 x2 => x1 ++ x2) #[] (List.replicate (if (#[v] : Array Value).isEmpty = true then 0 else (n : Int).toNat) #[v])) = (List.replicate n v).toArray := by
    rw [show ((#[v] : Array Value).isEmpty) = false from rfl]
    rw [if_neg (by decide), Int.toNat_natCast, foldl_rep]
    simp
  rw [e]
  exact hQ F0 _ _ _ _ ⟨_, rfl, rfl⟩ (X.newList (RepL.rep hv n) (by rw [List.length_replicate]; omega) _) (Fle.refl _) (.ref _)
end
end Mine
end

section
set_option Elab.async false
set_option linter.unusedVariables false
set_option linter.unusedSimpArgs false
set_option maxRecDepth 100000
namespace Mine
open PySem PySem.W PyProof.Rows PySem.Calls
structure Bt (G : Gx) : Prop where
  len : G.mg "len" = none ∧ G.mb "len" = some (.builtin "len")
  sum : G.mg "sum" = none ∧ G.mb "sum" = some (.builtin "sum")
  min : G.mg "min" = none ∧ G.mb "min" = some (.builtin "min")
  sorted : G.mg "sorted" = none ∧ G.mb "sorted" = some (.builtin "sorted")
  range : G.mg "range" = none ∧ G.mb "range" = some (.type "range")
  list : G.mg "list" = none ∧ G.mb "list" = some (.type "list")
def nats (n : Nat) : List Int := (List.range n).map fun i : Nat => (i : Int)
theorem rints_nats (n : Nat) : rints 0 n = zs (nats n) := by simp [rints, zs, nats]
section
variable {C : Cx} {σ : St}
theorem compOkF {scope : Scope} {cl : List (Str × Addr)} (h1 : closureFor scope C.env = pure cl) (h2 : scope.kind = .function) (h3 : ∀ y ∈ scope.names, y.2 = .local → scope.names.lookup y.1 = some .local) (h4 : ∀ x ∈ cl, C.env.cells.lookup x.1 = some x.2) (h5 : cl.Pairwise fun x y => x.2 ≠ y.2) (h6 : ∀ y ∈ scope.names, y.2 ≠ .cell) : CompOk C scope cl :=
  ⟨h1, h2, h3, fun x c h => h4 (x, c) (mem_of_lookup h), fun x h => mem_of_lookup (h4 x h), h5, fun y _ hm => h6 _ hm rfl⟩
theorem Ev.len {x : Str} {p pos : Pos} {e : Expr} {d : D} {ds : List D} {k : Int} (hb : BN C "len" (.builtin "len")) (he : Ev C σ e d) (hi : Items C σ d ds) (hk : (ds.length : Int) = k) (hs : starEach [e] C.env = [(false, eval e C.env)] := by rfl) : Ev C σ (.Call (.Name "len" p) [e] [] pos) (.int k) :=
  hk ▸ Ev.of_just (EvX.call1 (.inl ⟨_, rfl⟩) hb he (C1.len hi) hs)
theorem Ev.range {p pos : Pos} {e : Expr} {n : Int} (hb : BN C "range" (.type "range")) (he : Ev C σ e (.int n)) (hs : starEach [e] C.env = [(false, eval e C.env)] := by rfl) : Ev C σ (.Call (.Name "range" p) [e] [] pos) (.rng 0 n) :=
  Ev.of_just (EvX.call1 (.inr ⟨_, rfl⟩) hb he C1.range hs)
end
section
variable {G : Gx} {f : Addr} {name qual : Str} {dV kV doc pm cdv ct : Value} {an : Option Addr}
abbrev trCx (G : Gx) (A : Around) (name qual : Str) (doc pm cdv ct : Value) (an : Option Addr) (f L : Addr) (n : Nat) (P : Pred) : Cx := fnCxC G A (fdN 7 name qual .none .none doc pm an cdv ct) f L n P
theorem tree_body {A : Around} {L fr fg : Addr} {n : Nat} {P : Pred} {code : List Int} {acc : Nat → List Int × List Int} (B : Bt G) (h1 : G.mg "reduce" = some (.ref fr)) (h2 : G.mg "_law_grow" = some (.ref fg)) (hz : code.length ≤ 60)
    (h0 : acc 0 = (List.replicate (code.length + 2) (code.length + 1 : Int), (nats (code.length + 2)).map fun x => (code.count x : Int)))
    (hr : CallSem G n P fr [] [.ref fg, .list (zs code), .tup [.list (zs (acc 0).1), .list (zs (acc 0).2)]] (Pure (.tup [.list (zs (acc code.length).1), .list (zs (acc code.length).2)]))) (hP : ∀ K F s σ, Mo (trCx G A name qual doc pm cdv ct an f L n P) K σ F s → P (full F s.heap []) F) :
    WP (trCx G A name qual doc pm cdv ct an f L n P) { vars := [("code", .list (zs code))], mu := [] } (bo 7) (Fin (Pure (.list (zs (acc code.length).1)))) := by
  refine WP.set (d := .int (code.length + 2 : Int)) (.inl rfl) (Ev.bin (Ev.len (x := "len") ⟨rfl, B.len.1, B.len.2, rfl⟩ (Ev.name (d := .list (zs code)) rfl) Items.list (zs_length _ ▸ rfl)) Ev.int Op.add) ?_
  refine WP.setC rfl (EvC.plain (scope := _) (nats (code.length + 2)) D.int (fun _ => true) (fun x => .int (code.count x)) (compOkF rfl rfl (by decide) (fun x hx => by obtain rfl := List.mem_singleton.mp hx; rfl) (List.pairwise_singleton _ _) (by decide)) (.inl rfl) (Ev.range ⟨rfl, B.range.1, B.range.2, rfl⟩ (Ev.name rfl)) ?_ (by simp [nats]; omega) fun L' a ha => ⟨rfl, fun _ => ?_⟩) ?_
  · have := ItD.rng (C := trCx G A name qual doc pm cdv ct an f L n P) (σ := ({ vars := [("code", .list (zs code))], mu := [] } : St).set "size" (.int (code.length + 2 : Int))) (lo := 0) (hi := (code.length + 2 : Int)) (by omega)
    rw [show (code.length + 2 : Int) = ((code.length + 2 : Nat) : Int) by simp, rints_nats] at this
    exact this
  · exact Ev.count (d := .list (zs code)) (Ev.name rfl) Items.list (Ev.name rfl)
  rintro d mu ⟨na, rfl, rfl⟩
  have e2 : (List.map (fun x => D.int (code.count x)) (List.filter (fun _ => true) (nats (code.length + 2)))) = zs (acc 0).2 := by
    rw [h0, show ∀ l : List Int, l.filter (fun _ => true) = l from fun l => List.filter_eq_self.mpr (by simp)]; simp [zs]
  rw [e2]
  refine WP.frz [("code", .list (zs code)), ("size", .int (code.length + 2 : Int)), ("named", .list (zs (acc 0).2))] (a := na) (ds := zs (acc 0).2) (mu := []) rfl ?_ ?_
  · intro p hp
    simp only [List.mem_cons, List.not_mem_nil, or_false] at hp
    rcases hp with rfl | rfl | rfl
    · exact .inl rfl
    · exact .inl rfl
    · exact .inr ⟨rfl, rfl⟩
  refine WP.ret (Ev.tupIdx (ds := [.list (zs (acc code.length).1), .list (zs (acc code.length).2)]) (Ev.call (Ev.glob rfl h1) (EvL.cons (Ev.glob rfl h2) (EvL.cons (Ev.name rfl) (EvL.cons (Ev.tuple (EvL.cons ?_ (EvL.cons (Ev.name rfl) EvL.nil)) (by simp)) EvL.nil))) hr (Nat.le_refl _) (fun K F s X => hP K F s _ X)) Ev.int (by omega) rfl) ⟨rfl, rfl⟩
  refine Ev.of_new (EvN.cast (EvX.bin (Ev.of_new (EvN.list (EvL.cons (Ev.cast (Ev.bin (Ev.name (d := .int (code.length + 2 : Int)) rfl) Ev.int Op.sub) rfl) EvL.nil) (by simp))) (Ev.cast (Ev.name (d := .int (code.length + 2 : Int)) rfl) (show D.int _ = .int ((code.length + 2 : Nat) : Int) by simp)) (OpN.repeat Items.list (by omega))) ?_)
  rw [h0]
  simp [zs]
  omega
theorem tree_sem {fr fg : Addr} {n : Nat} {P : Pred} {code : List Int} {acc : Nat → List Int × List Int} (hmon : P.Mon) (hF : FnF G.hb.get? f (fdN 7 name qual .none .none doc pm an cdv ct)) (B : Bt G) (h1 : G.mg "reduce" = some (.ref fr)) (h2 : G.mg "_law_grow" = some (.ref fg)) (hz : code.length ≤ 60)
    (h0 : acc 0 = (List.replicate (code.length + 2) (code.length + 1 : Int), (nats (code.length + 2)).map fun x => (code.count x : Int)))
    (hr : CallSem G n (fun _ _ => True) fr [] [.ref fg, .list (zs code), .tup [.list (zs (acc 0).1), .list (zs (acc 0).2)]] (Pure (.tup [.list (zs (acc code.length).1), .list (zs (acc code.length).2)]))) :
    CallSem G (n + 1) P f [] [.list (zs code)] (Pure (.list (zs (acc code.length).1))) := by
  refine call_fnC (fd := fdN 7 name qual .none .none doc pm an cdv ct) (ns := ["code"]) (body := bo 7) hmon ⟨rfl, fun s vs hb h => ?_, by decide, rfl, rfl, rfl, rfl, rfl⟩ (fun vs h => ?_) (fun K F hb _ => hF.mono hb) rfl (show ((cellsFrom 0 (sc 7).names []).map (·.1)).Nodup by decide) (show ∀ x ∈ (["code"] : List Str), (sc 7).names.lookup x = _ ∨ (sc 7).names.lookup x = _ by decide) fun A L hr => ?_
  · match vs, h with
    | [a], _ => exact BindsTo.of_eq rfl
  · match vs, h with
    | [a], _ => rfl
  · exact tree_body B h1 h2 hz h0 (hr := ‹CallSem _ _ _ _ _ _ _›.mono (Nat.le_refl _) (fun _ _ _ => trivial) (fun _ _ h => h)) (fun K F s σ X => X.preFull (ex := []) (by simp))
end
end Mine
end

section
set_option Elab.async false
set_option linter.unusedVariables false
set_option linter.unusedSimpArgs false
set_option maxRecDepth 100000
namespace Mine
open PySem PySem.W PyProof.Rows PySem.Calls
theorem CallSem.pure {G : Gx} {n : Nat} {P : Pred} {f : Addr} {pas : Mu} {ds : List D} {d : D} (h : CallSem G n P f pas ds (fun d' _ => d' = d)) : CallSem G n P f pas ds (Pure d) :=
  ⟨h.fn, fun A K F s vs Q E hr hp X r hQ => h.sem A K F s vs Q E hr hp X r fun F' v s' d' mu hd X' g r' => hQ F' v s' d' [] ⟨hd, rfl⟩ (X'.sub (fun p hp => nomatch hp) List.nodup_nil) g r'⟩
def pairUp (as : List Addr) (gs : List (List Int)) : Prs := as.zip gs
theorem pair_ent : ∀ {as : List Addr} {gs : List (List Int)}, zipMu as (gs.map zs) = ent (pairUp as gs)
  | [], _ => by simp [zipMu, ent, pairUp]
  | _ :: _, [] => by simp [zipMu, ent, pairUp]
  | a :: as, g :: gs => by
    have ih := pair_ent (as := as) (gs := gs)
    simp only [zipMu, ent, pairUp, List.map_cons, List.zipWith_cons_cons, List.zip_cons_cons] at ih ⊢
    rw [ih]
theorem pair_refs : ∀ {as : List Addr} {gs : List (List Int)}, as.length = gs.length → as.map D.ref = refs (pairUp as gs)
  | [], [], _ => rfl
  | a :: as, g :: gs, h => by
    have ih := pair_refs (as := as) (gs := gs) (by simpa using h)
    simp only [refs, pairUp, List.map_cons, List.zip_cons_cons] at ih ⊢
    rw [ih]
theorem pair_rows : ∀ {as : List Addr} {gs : List (List Int)}, as.length = gs.length → rowsOf (pairUp as gs) = gs
  | [], [], _ => rfl
  | a :: as, g :: gs, h => by
    have ih := pair_rows (as := as) (gs := gs) (by simpa using h)
    simp only [rowsOf, pairUp, List.map_cons, List.zip_cons_cons] at ih ⊢
    rw [ih]
def singles (n : Nat) : List (List Int) := (nats n).map fun x => [x]
def pairsF (fs : List Int) : List (List Int) := (nats (fs.length - 1)).map fun x => [x, fs.getD x.toNat 0]
def toldRows (fs : List Int) : List (List Int) := singles fs.length ++ pairsF fs
theorem filter_tr {α : Type} (l : List α) : l.filter (fun _ => true) = l := List.filter_eq_self.mpr (by simp)
theorem OpX.mono {C : Cx} {σ : St} {f : Value → Value → Sem Value} {d1 d2 : D} {R R' : D → Mu → Prop} (h : OpX C σ f d1 d2 R) (hR : ∀ d mu, R d mu → R' d mu) : OpX C σ f d1 d2 R' := fun K F s v1 v2 Q E X r1 r2 hQ => h K F s v1 v2 Q E X r1 r2 fun F' v s' d mu r => hQ F' v s' d mu (hR _ _ r)
theorem perm_ba {α : Type} (X Y : List α) (a b : α) : (b :: (Y ++ a :: (X ++ []))).Perm ((X ++ Y) ++ [b, a]) := by
  rw [List.append_nil]
  have h1 : (Y ++ a :: X).Perm (a :: (X ++ Y)) := List.perm_append_comm (l₁ := Y) (l₂ := a :: X)
  exact (h1.cons b).trans (List.perm_append_comm (l₁ := [b, a]) (l₂ := X ++ Y))
section
variable {G : Gx} {f : Addr} {name qual : Str} {dV kV doc pm cdv ct : Value} {an : Option Addr}
abbrev tdCx (G : Gx) (A : Around) (name qual : Str) (doc pm cdv ct : Value) (an : Option Addr) (f L : Addr) (n : Nat) (P : Pred) : Cx := fnCxC G A (fdN 8 name qual .none .none doc pm an cdv ct) f L n P
abbrev tdSt (fs : List Int) : St := { vars := [("size", .int fs.length), ("fathers", .list (zs fs))], mu := [] }
theorem told_body {A : Around} {L fm : Addr} {n : Nat} {P : Pred} {fs : List Int} (B : Bt G) (h1 : G.mg "_c3_merge" = some (.ref fm)) (hz : fs.length ≤ 60) (h0 : 0 < fs.length)
    (hr : ∀ prs : Prs, rowsOf prs = toldRows fs → CallSem G n P fm (ent prs) [.list (refs prs)] (fun d mu => d = .list (zs (mrg (toldRows fs)).1) ∧ mu = ent (prs.map fun p => (p.1, [])))) :
    WP (tdCx G A name qual doc pm cdv ct an f L n P) { vars := [("fathers", .list (zs fs))], mu := [] } (bo 8) (Fin (fun d _ => d = .list (zs (mrg (toldRows fs)).1))) := by
  refine WP.set (d := .int fs.length) (.inl rfl) (Ev.len (x := "len") ⟨rfl, B.len.1, B.len.2, rfl⟩ (Ev.name (d := .list (zs fs)) rfl) Items.list (zs_length _ ▸ rfl)) ?_
  show WP _ (tdSt fs) _ _
  refine WP.setX (.inl rfl) (EvX.binX (R1 := FreshL (tdSt fs) ((singles fs.length).map zs)) (R2 := fun d1 mu1 => FreshL ((tdSt fs).setMu mu1) ((pairsF fs).map zs))
    (R := fun d mu => ∃ c as bs a b, as.length = (singles fs.length).length ∧ bs.length = (pairsF fs).length ∧ d = .ref c ∧ mu = (c, MO.list ((as ++ bs).map .ref)) :: (b, .list (bs.map .ref)) :: (zipMu bs ((pairsF fs).map zs) ++ (a, .list (as.map .ref)) :: (zipMu as ((singles fs.length).map zs) ++ []))) ?_ ?_ ?_) ?_
  · refine EvX.mono (EvC.ev (EvC.fresh (scope := _) (nats fs.length) D.int (fun _ => true) (fun x => zs [x]) (compOk0 rfl rfl (by decide) (by decide)) (.inl rfl) (Ev.range ⟨rfl, B.range.1, B.range.2, rfl⟩ (Ev.name rfl)) (by rw [show (nats fs.length).map D.int = rints 0 fs.length from (rints_nats _).symm]; exact ItD.rng (by omega)) (by simp [nats]; omega) fun L' nm a ha => ⟨rfl, fun _ => EvN.list (EvL.cons (Ev.name rfl) EvL.nil) (by simp)⟩)) fun d mu h => ?_
    rw [filter_tr] at h
    simpa [singles, Function.comp_def] using h
  · rintro d1 mu1 -
    refine EvX.mono (EvC.ev (EvC.fresh (scope := _) (nats (fs.length - 1)) D.int (fun _ => true) (fun x => zs [x, fs.getD x.toNat 0]) (compOkF rfl rfl (by decide) (fun x hx => by obtain rfl := List.mem_singleton.mp hx; rfl) (List.pairwise_singleton _ _) (by decide)) (.inl rfl) (Ev.range ⟨rfl, B.range.1, B.range.2, rfl⟩ (Ev.cast (Ev.bin (Ev.name rfl) Ev.int Op.sub) (show D.int ((fs.length : Int) - 1) = .int ((fs.length - 1 : Nat) : Int) by rw [Int.natCast_sub (by omega)]; rfl))) (by rw [show (nats (fs.length - 1)).map D.int = rints 0 (fs.length - 1 : Nat) from (rints_nats _).symm]; exact ItD.rng (by omega)) (by simp [nats]; omega) fun L' nm a ha => ⟨rfl, fun _ => ?_⟩)) fun d mu h => ?_
    · refine EvN.list (EvL.cons (Ev.name rfl) (EvL.cons (Ev.idx (d := .list (zs fs)) (Ev.name rfl) Items.list (Ev.name rfl) ?_ ?_) EvL.nil)) (by simp)
      · obtain ⟨i, hi, rfl⟩ := List.mem_map.mp ha
        exact Int.natCast_nonneg _
      · obtain ⟨i, hi, rfl⟩ := List.mem_map.mp ha
        have := List.mem_range.mp hi
        exact zs_get _ (by rw [Int.toNat_natCast]; omega)
    rw [filter_tr] at h
    simpa [pairsF, Function.comp_def] using h
  · rintro d1 mu1 d2 mu2 ⟨a, as, ha1, rfl, rfl⟩ ⟨b, bs, hb1, rfl, rfl⟩
    refine (OpX.mono (OpN.concat (ds1 := as.map .ref) (ds2 := bs.map .ref) (Items.mu ?_) (Items.mu (.head _)) ?_) ?_)
    · exact .tail _ (List.mem_append_right _ (.head _))
    · rw [List.length_map] at ha1 hb1
      simp only [List.length_map, ha1, hb1]
      simp [singles, pairsF, nats]; omega
    · rintro d mu ⟨c, rfl, rfl⟩
      exact ⟨c, as, bs, a, b, by simpa using ha1, by simpa using hb1, rfl, by rw [List.map_append, List.append_nil]; simp [tdSt, St.setMu]⟩
  · rintro d mu ⟨c, as, bs, a, b, ha, hb, rfl, rfl⟩
    have hab : (as ++ bs).length = (toldRows fs).length := by simp [toldRows, ha, hb]
    have hent : ent (pairUp (as ++ bs) (toldRows fs)) = zipMu as ((singles fs.length).map zs) ++ zipMu bs ((pairsF fs).map zs) := by
      rw [← pair_ent, toldRows, List.map_append, zipMu_append (by simpa using ha)]
    refine WP.frz [("rows", .list (refs (pairUp (as ++ bs) (toldRows fs))))] (a := c) (ds := refs (pairUp (as ++ bs) (toldRows fs))) (by rw [← pair_refs hab]; rfl) ?_ ?_
    · intro p hp
      obtain rfl := List.mem_singleton.mp hp
      exact .inr ⟨rfl, rfl⟩
    refine WP.retX (EvX.callS (pas := ent (pairUp (as ++ bs) (toldRows fs))) (oth := [(b, .list (bs.map .ref)), (a, .list (as.map .ref))]) (Ev.glob rfl h1) (EvL.cons (Ev.name rfl) EvL.nil) ?_ (hr _ (pair_rows hab)) (Nat.le_refl _) ?_) ?_
    · rw [hent]; exact perm_ba _ _ _ _
    · intro K F s X
      refine X.preFull fun x hx => ?_
      obtain ⟨p, hp, rfl⟩ := List.mem_map.mp hx
      exact (X.am.mus p (List.mem_append_left _ hp)).2.2
    · rintro d mu ⟨mu', ⟨rfl, -⟩, -⟩
      rfl
theorem told_sem {fm : Addr} {n : Nat} {P : Pred} {fs : List Int} (hmon : P.Mon) (hF : FnF G.hb.get? f (fdN 8 name qual .none .none doc pm an cdv ct)) (B : Bt G) (h1 : G.mg "_c3_merge" = some (.ref fm)) (hz : fs.length ≤ 60) (h0 : 0 < fs.length)
    (hr : ∀ prs : Prs, rowsOf prs = toldRows fs → CallSem G n P fm (ent prs) [.list (refs prs)] (fun d mu => d = .list (zs (mrg (toldRows fs)).1) ∧ mu = ent (prs.map fun p => (p.1, [])))) :
    CallSem G (n + 1) P f [] [.list (zs fs)] (Pure (.list (zs (mrg (toldRows fs)).1))) := by
  refine CallSem.pure (call_fnC (fd := fdN 8 name qual .none .none doc pm an cdv ct) (ns := ["fathers"]) (body := bo 8) hmon ⟨rfl, fun s vs hb h => ?_, by decide, rfl, rfl, rfl, rfl, rfl⟩ (fun vs h => ?_) (fun K F hb _ => hF.mono hb) rfl (show ((cellsFrom 0 (sc 8).names []).map (·.1)).Nodup by decide) (show ∀ x ∈ (["fathers"] : List Str), (sc 8).names.lookup x = _ ∨ (sc 8).names.lookup x = _ by decide) fun A L hr' => ?_)
  · match vs, h with
    | [a], _ => exact BindsTo.of_eq rfl
  · match vs, h with
    | [a], _ => rfl
  · exact told_body B h1 hz h0 hr
end
end Mine
end

section
set_option Elab.async false
set_option linter.unusedVariables false
set_option linter.unusedSimpArgs false
namespace Mine
open PySem PySem.W PyProof.Rows PySem.Calls
section
variable {prog : Program} {w : World} {A : Around} {E : Value → Shared → Prop} {R : Result → Shared → Prop} {s : Shared} {elt : Expr} {g0 : Comprehension} {target iter : Expr} {scope : Scope} {pos : Pos} {it acc : Value} {env : Env}
theorem compStart1 (h0 : codeAny (model prog w) A (.compLoop (.ListComp elt [g0, ⟨target, iter, [], 0⟩] scope pos) 1 it acc env) R s)
    (h : wpAny (model prog w) A (pyIter it) (fun it' s' => codeAny (model prog w) A (.compLoop (.ListComp elt [g0, ⟨target, iter, [], 0⟩] scope pos) 1 it' acc env) R s') (notedBy (model prog w) A env fun x s' => R (.error x) s') s) :
    codeAny (model prog w) A (.compStart (.ListComp elt [g0, ⟨target, iter, [], 0⟩] scope pos) 1 it acc env) R s := by
  refine codeAny_of_tree ?_
  show wpAny _ _ ((compStart (.ListComp elt [g0, ⟨target, iter, [], 0⟩] scope pos) 1 it acc env).onRaise (fun x => do noteFrame x env; standAt theWindowsPlace)) _ _ s
  refine wpAny_notedAt ?_
  unfold compStart
  show wpAny _ _ (ask >>= _) _ _ s
  refine wpAny_bind (wpAny_askSetting (wpAny_ite ?_))
  split
  · first
      | exact wpAny_bind (wpAny_pure (wpAny_pure (And.intro rfl h0)))
      | exact wpAny_pure (And.intro rfl h0)
  · refine wpAny_bind (wpAny_rule ?_)
    show wpAny _ _ (standAt iter.pos >>= _) _ _ s
    exact wpAny_bind (wpAny_standAt (wpAny_bind (wpAny_mono h (fun it' s' h' => wpAny_pure (And.intro rfl h')) fun _ _ x => x)))
theorem turn1 : compTurn (.ListComp elt [g0, ⟨target, iter, [], 0⟩] scope pos) 1 it acc env = (standAt iter.pos >>= fun _ => pyNext it >>= fun r => match r with
      | none => pure (.done .next)
      | some v => letOwnedTupleGo target it v >>= fun _ => assign target env v >>= fun _ =>
        (eval elt env >>= fun x => call (.builtin "list.append") [acc, x] >>= fun _ => pure ()) >>= fun _ =>
          again (.compLoop (.ListComp elt [g0, ⟨target, iter, [], 0⟩] scope pos) 1 it acc env)) := by rfl
theorem loop1 (I : Nat → Shared → Prop)
    (turn : ∀ n s, I n s → wpAny (model prog w) A (pyNext it) (fun r s₁ => match r with
      | none => R (.ok .next) s₁
      | some v => wpAny (model prog w) A (assign target env v) (fun _ s₂ => wpAny (model prog w) A (eval elt env) (fun x s₃ =>
          wpAny (model prog w) A (call (.builtin "list.append") [acc, x]) (fun _ s₄ => ∃ m, m < n ∧ I m s₄) (notedBy (model prog w) A env fun e s' => R (.error e) s') s₃)
            (notedBy (model prog w) A env fun e s' => R (.error e) s') s₂) (notedBy (model prog w) A env fun e s' => R (.error e) s') s₁) (notedBy (model prog w) A env fun e s' => R (.error e) s') s)
    (n : Nat) (h : I n s) (ht : ∀ v, letOwnedTupleGo target it v = pure () := by intro _; rfl) :
    codeAny (model prog w) A (.compLoop (.ListComp elt [g0, ⟨target, iter, [], 0⟩] scope pos) 1 it acc env) R s := by
  refine codeAny_loop rfl I (fun n s hI => ?_) n h
  show wpAny _ A ((compTurn (.ListComp elt [g0, ⟨target, iter, [], 0⟩] scope pos) 1 it acc env).onRaise (fun x => do noteFrame x env; theTreesLotGoes x)) _ _ s
  refine wpAny_noted ?_
  rw [turn1]
  refine wpAny_bind (wpAny_standAt (wpAny_bind (wpAny_mono (turn n s hI) (fun r s₁ h₁ => ?_) fun _ _ h' => h')))
  cases r with
  | none => exact wpAny_pure h₁
  | some v =>
    refine wpAny_bind (wpAny_of_eq (ht v) ?_)
    refine wpAny_bind (wpAny_mono h₁ (fun _ s₂ h₂ => ?_) fun _ _ h' => h')
    exact wpAny_bind (wpAny_bind (wpAny_mono h₂ (fun x s₃ h₃ => wpAny_bind (wpAny_mono h₃ (fun _ s₄ h₄ => wpAny_pure (wpAny_pure ⟨rfl, h₄⟩)) fun _ _ h' => h')) fun _ _ h' => h'))
variable {target0 iter0 : Expr}
theorem turn0 : compTurn (.ListComp elt [⟨target0, iter0, [], 0⟩, ⟨target, iter, [], 0⟩] scope pos) 0 it acc env = (standAt iter0.pos >>= fun _ => pyNext it >>= fun r => match r with
      | none => pure (.done .next)
      | some v => letOwnedTupleGo target0 it v >>= fun _ => assign target0 env v >>= fun _ =>
        eval iter env >>= fun x => standAt iter.pos >>= fun _ => foldedSetIterable iter env x >>= fun x => holding [x] (pyIter x) >>= fun i =>
          runOwn (.compStart (.ListComp elt [⟨target0, iter0, [], 0⟩, ⟨target, iter, [], 0⟩] scope pos) 1 i acc env) env >>= fun _ =>
          again (.compLoop (.ListComp elt [⟨target0, iter0, [], 0⟩, ⟨target, iter, [], 0⟩] scope pos) 0 it acc env)) := by rfl
theorem loop0 (I : Nat → Shared → Prop)
    (turn : ∀ n s, I n s → wpAny (model prog w) A (pyNext it) (fun r s₁ => match r with
      | none => R (.ok .next) s₁
      | some v => wpAny (model prog w) A (assign target0 env v) (fun _ s₂ => wpAny (model prog w) A (eval iter env) (fun x s₃ => wpAny (model prog w) A (pyIter x) (fun i s₄ =>
          codeAny (model prog w) A (.compStart (.ListComp elt [⟨target0, iter0, [], 0⟩, ⟨target, iter, [], 0⟩] scope pos) 1 i acc env) (fun r s₅ => match r with | .ok _ => ∃ m, m < n ∧ I m s₅ | .error e => False) s₄)
            (notedBy (model prog w) A env fun e s' => R (.error e) s') s₃)
            (notedBy (model prog w) A env fun e s' => R (.error e) s') s₂) (notedBy (model prog w) A env fun e s' => R (.error e) s') s₁) (notedBy (model prog w) A env fun e s' => R (.error e) s') s)
    (n : Nat) (h : I n s) (ht : ∀ v, letOwnedTupleGo target0 it v = pure () := by intro _; rfl) (hs : ∀ x, foldedSetIterable iter env x = pure x := by intro _; rfl) :
    codeAny (model prog w) A (.compLoop (.ListComp elt [⟨target0, iter0, [], 0⟩, ⟨target, iter, [], 0⟩] scope pos) 0 it acc env) R s := by
  refine codeAny_loop rfl I (fun n s hI => ?_) n h
  show wpAny _ A ((compTurn (.ListComp elt [⟨target0, iter0, [], 0⟩, ⟨target, iter, [], 0⟩] scope pos) 0 it acc env).onRaise (fun x => do noteFrame x env; theTreesLotGoes x)) _ _ s
  refine wpAny_noted ?_
  rw [turn0]
  refine wpAny_bind (wpAny_standAt (wpAny_bind (wpAny_mono (turn n s hI) (fun r s₁ h₁ => ?_) fun _ _ h' => h')))
  cases r with
  | none => exact wpAny_pure h₁
  | some v =>
    refine wpAny_bind (wpAny_of_eq (ht v) ?_)
    refine wpAny_bind (wpAny_mono h₁ (fun _ s₂ h₂ => ?_) fun _ _ h' => h')
    refine wpAny_bind (wpAny_mono h₂ (fun x s₃ h₃ => ?_) fun _ _ h' => h')
    refine wpAny_bind (wpAny_standAt (wpAny_bind (wpAny_of_eq (hs x) (wpAny_bind (wpAny_holding (wpAny_mono h₃ (fun i s₄ h₄ => ?_) fun _ _ h' => h'))))))
    refine wpAny_bind (wpAny_runOwn (codeAny_mono h₄ fun r s₅ h₅ => ?_))
    cases r with
    | ok f => exact wpAny_pure ⟨rfl, h₅⟩
    | error e => exact h₅.elim
end
section
variable {C : Cx} {scope : Scope}
theorem sub_cons {x : Str} {d : D} {vs0 vs : List (Str × D)} (h : ∀ y e, vs0.lookup y = some e → vs.lookup y = some e) : ∀ y e, ((x, d) :: vs0).lookup y = some e → ((x, d) :: vs).lookup y = some e := fun y e q => by
  rw [List.lookup_cons] at q ⊢
  cases hb : y == x with
  | true => rw [hb] at q; exact q
  | false => rw [hb] at q; exact h y e q
theorem sub_self {x : Str} {d : D} {vs0 : List (Str × D)} (h : vs0.lookup x = none) : ∀ y e, vs0.lookup y = some e → ((x, d) :: vs0).lookup y = some e := fun y e q => by
  rw [List.lookup_cons]
  cases hb : y == x with
  | true => rw [beq_iff_eq.mp hb] at q; rw [h] at q; cases q
  | false => exact q
theorem comp_inner {K0 F0 : Fz} {elt iter : Expr} {g0 : Comprehension} {x : Str} {px pos : Pos} {it acc : Addr} {ds : List D} {P : Nat → Obj → Prop} {R : Result → Shared → Prop} {vs0 : List (Str × D)} {out0 : List D} {nm : Mu} {s : Shared} (g : D → D) (I : IterOk C.G C.A K0 F0 it ds P) (hl : out0.length + ds.length ≤ 100000)
    (hasg : ∀ d mu vs, Asg C { vars := vs, mu := mu } (.Name x px) d { vars := (x, d) :: vs, mu := mu }) (hx0 : vs0.lookup x = none) (step : ∀ d mu, d ∈ ds → Ev C { vars := (x, d) :: vs0, mu := mu } elt (g d))
    (hR : ∀ F' s' vs, (∀ y e, vs0.lookup y = some e → vs.lookup y = some e) → Mo C K0 { vars := vs, mu := (acc, .list (out0 ++ ds.map g)) :: nm } F' s' → Fle F0 F' → R (.ok .next) s')
    {vs1 : List (Str × D)} (hv1 : ∀ y e, vs0.lookup y = some e → vs1.lookup y = some e) (X : Mo C K0 { vars := vs1, mu := (it, .obj (P 0)) :: (acc, .list out0) :: nm } F0 s) :
    codeAny C.G.M C.A (.compLoop (.ListComp elt [g0, ⟨.Name x px, iter, [], 0⟩] scope pos) 1 (.ref it) (.ref acc) C.env) R s := by
  refine loop1 (prog := C.G.prog) (w := C.G.w) (fun n s => ∃ k vs F, n + k = ds.length ∧ Fle F0 F ∧ (∀ y e, vs0.lookup y = some e → vs.lookup y = some e) ∧
    Mo C K0 { vars := vs, mu := (it, .obj (P k)) :: (acc, .list (out0 ++ (ds.take k).map g)) :: nm } F s) ?_ ds.length ⟨0, vs1, F0, by simp, Fle.refl _, hv1, by simpa using X⟩
  rintro n s ⟨k, vs, F, hn, hF, hvs, X⟩
  have hit : ∃ o, s.heap.get? it = some o ∧ P k o := (X.am.mus (it, .obj (P k)) (.head _)).1
  cases n with
  | zero =>
    have hk : k = ds.length := by omega
    subst hk
    refine I.stop F s _ _ hF X.am.frz X.am.keep hit fun h' t hs => ?_
    have X' := X.dropExt (t := t) rfl hs
    rw [List.take_length] at X'
    exact hR F _ vs hvs X' hF
  | succ n =>
    have hk : k < ds.length := by omega
    refine I.item k ds[k] F s _ _ hF X.am.frz X.am.keep (List.getElem?_eq_getElem hk) hit fun h' v t hs hit' hr => ?_
    have X1 := X.turn (pre := []) (mo' := .obj (P (k + 1))) (t := t) rfl hs hit'
    refine hasg ds[k] _ vs K0 F _ v _ _ X1 hr fun s2 X2 => ?_
    replace X2 := X2.weak (σ' := { vars := (x, ds[k]) :: vs0, mu := (it, .obj (P (k + 1))) :: (acc, .list (out0 ++ (ds.take k).map g)) :: nm }) (sub_cons hvs) rfl
    refine step ds[k] _ (List.getElem_mem hk) K0 F s2 _ _ X2 fun F3 v3 s3 X3 g3 r3 => ?_
    obtain ⟨oa, vsa, hoa, ⟨hl100, na, rfl⟩, hra⟩ := (X3.am.mus (acc, .list (out0 ++ (ds.take k).map g)) (.tail _ (.head _))).1
    have hlo : vsa.length = out0.length + k := by
      rw [hra.length, List.length_append, List.length_map, List.length_take]; omega
    refine wpAny_list_append_plain ⟨na, hoa⟩ (fun h7 hp7 hs7 => ?_) (by rw [List.size_toArray]; exact fitsSz (by omega))
    obtain ⟨n7, hp7⟩ := hp7
    have e1 : out0 ++ (ds.take (k + 1)).map g = (out0 ++ (ds.take k).map g) ++ [g ds[k]] := by
      rw [List.take_add_one, List.getElem?_eq_getElem hk, List.map_append, ← List.append_assoc]; rfl
    have X4 := X3.turn (pre := [(it, .obj (P (k + 1)))]) (post := nm) (mo' := .list (out0 ++ (ds.take (k + 1)).map g)) (t := s3.toks) rfl hs7 ⟨_, vsa ++ [v3], hp7, ⟨by rw [List.length_append]; simp; omega, n7, by simp⟩, by rw [e1]; exact hra.append (.cons r3 .nil)⟩
    exact ⟨n, Nat.lt_succ_self n, k + 1, _, F3, by omega, hF.trans g3, sub_self hx0, X4⟩
theorem comp_outer {K0 F0 : Fz} {elt iter0 iter : Expr} {x y : Str} {px py pos : Pos} {it acc : Addr} {ds : List D} {P : Nat → Obj → Prop} {R : Result → Shared → Prop} {vs0 : List (Str × D)} {s : Shared} (sub : D → List D) (g : D → D → D) (I : IterOk C.G C.A K0 F0 it ds P) (hl : (ds.map fun d => (sub d).length).sum ≤ 50000) (hl2 : ds.length ≤ 50000)
    (hasg : ∀ z pz, z = x ∨ z = y → ∀ d mu vs, Asg C { vars := vs, mu := mu } (.Name z pz) d { vars := (z, d) :: vs, mu := mu }) (hxy : x ≠ y) (hx0 : vs0.lookup x = none) (hy0 : vs0.lookup y = none)
    (hit : ∀ d mu, d ∈ ds → Ev C { vars := (y, d) :: vs0, mu := mu } iter (.list (sub d)))
    (step : ∀ d e mu, d ∈ ds → e ∈ sub d → Ev C { vars := (x, e) :: (y, d) :: vs0, mu := mu } elt (g d e))
    (hR : ∀ F' s' vs, Mo C K0 { vars := vs, mu := [(acc, .list (ds.flatMap fun d => (sub d).map (g d)))] } F' s' → Fle F0 F' → R (.ok .next) s')
    (X : Mo C K0 { vars := vs0, mu := [(it, .obj (P 0)), (acc, .list [])] } F0 s) (hs : ∀ x, foldedSetIterable iter C.env x = pure x := by intro _; rfl) :
    codeAny C.G.M C.A (.compLoop (.ListComp elt [⟨.Name y py, iter0, [], 0⟩, ⟨.Name x px, iter, [], 0⟩] scope pos) 0 (.ref it) (.ref acc) C.env) R s := by
  refine loop0 (prog := C.G.prog) (w := C.G.w) (fun n s => ∃ k vs F, n + k = ds.length ∧ Fle F0 F ∧ (∀ y e, vs0.lookup y = some e → vs.lookup y = some e) ∧
    Mo C K0 { vars := vs, mu := [(it, .obj (P k)), (acc, .list ((ds.take k).flatMap fun d => (sub d).map (g d)))] } F s) ?_ ds.length ⟨0, vs0, F0, by simp, Fle.refl _, fun _ _ e => e, by simpa using X⟩ (fun _ => rfl) hs
  rintro n s ⟨k, vs, F, hn, hF, hvs, X⟩
  have hi : ∃ o, s.heap.get? it = some o ∧ P k o := (X.am.mus (it, .obj (P k)) (.head _)).1
  cases n with
  | zero =>
    have hk : k = ds.length := by omega
    subst hk
    refine I.stop F s _ _ hF X.am.frz X.am.keep hi fun h' t hs' => ?_
    have X' := X.dropExt (t := t) rfl hs'
    rw [List.take_length] at X'
    exact hR F _ vs X' hF
  | succ n =>
    have hk : k < ds.length := by omega
    refine I.item k ds[k] F s _ _ hF X.am.frz X.am.keep (List.getElem?_eq_getElem hk) hi fun h' v t hs' hit' hr => ?_
    have X1 := X.turn (pre := []) (mo' := .obj (P (k + 1))) (t := t) rfl hs' hit'
    refine hasg y py (.inr rfl) ds[k] _ vs K0 F _ v _ _ X1 hr fun s2 X2 => ?_
    replace X2 := X2.weak (σ' := { vars := (y, ds[k]) :: vs0, mu := [(it, .obj (P (k + 1))), (acc, .list ((ds.take k).flatMap fun d => (sub d).map (g d)))] }) (sub_cons hvs) rfl
    refine hit ds[k] _ (List.getElem_mem hk) K0 F s2 _ _ X2 fun F3 v3 s3 X3 g3 r3 => ?_
    have S : Src K0 F3 v3 (sub ds[k]) := by
      obtain ⟨a, o, ws, rfl, h1, h2, h3⟩ := r3.list_inv
      exact .list (.inl h1) h2 h3
    refine pyIter_src X3.ok.rm.hh S X3.am.frz X3.am.keep fun o P2 hf2 hP2 IA => ?_
    have I2 := IA C.A X3.ok.rm.hh
    have X4 := X3.allocMu o (.obj (P2 0)) s3.toks ⟨o, Heap.get?_push_size _ hf2, hP2⟩
    have X5 := X4.perm (mu' := [(s3.heap.objs.size, .obj (P2 0)), (acc, .list ((ds.take k).flatMap fun d => (sub d).map (g d))), (it, .obj (P (k + 1)))]) (List.Perm.cons _ (List.Perm.swap ..))
    have hb : ((ds.take k).flatMap fun d => (sub d).map (g d)).length + (sub ds[k]).length ≤ 100000 := by
      rw [List.length_flatMap]
      simp only [List.length_map]
      have h1 : ((ds.take k).map fun d => (sub d).length).sum + (sub ds[k]).length ≤ (ds.map fun d => (sub d).length).sum := by
        have e : ds = ds.take k ++ ds[k] :: ds.drop (k + 1) := by rw [← List.drop_eq_getElem_cons hk, List.take_append_drop]
        have e2 := congrArg (fun l : List D => (l.map fun d => (sub d).length).sum) e
        simp only [List.map_append, List.map_cons, List.sum_append, List.sum_cons] at e2
        omega
      omega
    have body : codeAny C.G.M C.A (.compLoop (.ListComp elt [⟨.Name y py, iter0, [], 0⟩, ⟨.Name x px, iter, [], 0⟩] scope pos) 1 (.ref s3.heap.objs.size) (.ref acc) C.env)
        (fun r s₅ => match r with | .ok _ => ∃ m, m < n + 1 ∧ ∃ k vs F, m + k = ds.length ∧ Fle F0 F ∧ (∀ y e, vs0.lookup y = some e → vs.lookup y = some e) ∧ Mo C K0 { vars := vs, mu := [(it, .obj (P k)), (acc, .list ((ds.take k).flatMap fun d => (sub d).map (g d)))] } F s₅ | .error e => False)
        { s3 with heap := s3.heap.push o } := by
      refine comp_inner (F0 := F3) (vs0 := (y, ds[k]) :: vs0) (vs1 := (y, ds[k]) :: vs0) (nm := [(it, .obj (P (k + 1)))]) (g ds[k]) I2 hb (hasg x px (.inl rfl)) ?_ (fun d mu hd => step ds[k] d mu (List.getElem_mem hk) hd) (fun F' s' vs' hvs' X' g' => ?_) (fun _ _ e => e) X5
      · rw [List.lookup_cons, beq_eq_false_iff_ne.mpr hxy]; exact hx0
      · refine ⟨n, Nat.lt_succ_self n, k + 1, vs', F', by omega, (hF.trans g3).trans g', fun z e q => hvs' z e (sub_self hy0 z e q), ?_⟩
        have e1 : (ds.take (k + 1)).flatMap (fun d => (sub d).map (g d)) = ((ds.take k).flatMap fun d => (sub d).map (g d)) ++ (sub ds[k]).map (g ds[k]) := by
          rw [List.take_add_one, List.getElem?_eq_getElem hk, List.flatMap_append]; simp
        rw [e1]
        exact X'.perm (List.Perm.swap ..)
    exact compStart1 (prog := C.G.prog) (w := C.G.w) body (I2.self 0 _ _ _ ⟨o, Heap.get?_push_size _ hf2, hP2⟩ body)
variable {σ : St} {cl : List (Str × Addr)}
theorem compVars_none {env : Env} {x y : Str} {vars : List (Str × D)} (h : scope.names.lookup x ≠ some .free) : (compVars env scope cl y vars).lookup x = none := by
  cases q : (compVars env scope cl y vars).lookup x with
  | none => rfl
  | some e =>
    unfold compVars at q
    obtain ⟨q1, _⟩ := lookup_filter (fun n => sees env scope cl y n) q
    simp only [sees, Bool.and_eq_true] at q1
    exact absurd (by simpa using q1.2) h
theorem EvC.flat {elt iter0 iter : Expr} {x y : Str} {px py pos : Pos} {d : D} {ds : List D} (sub : D → List D) (g : D → D → D) (ok : CompOk C scope cl) (hx : scope.names.lookup x = some .local ∨ scope.names.lookup x = some .cell) (hy : scope.names.lookup y = some .local ∨ scope.names.lookup y = some .cell) (hxy : x ≠ y)
    (hv : Ev C σ iter0 d) (hi : ItD C σ d ds) (hl : (ds.map fun d => (sub d).length).sum ≤ 50000) (hl2 : ds.length ≤ 50000)
    (hit : ∀ L d mu, d ∈ ds → Ev (compCx C σ scope cl L) { vars := (y, d) :: compVars C.env scope cl y σ.vars, mu := mu } iter (.list (sub d)))
    (step : ∀ L d e mu, d ∈ ds → e ∈ sub d → Ev (compCx C σ scope cl L) { vars := (x, e) :: (y, d) :: compVars C.env scope cl y σ.vars, mu := mu } elt (g d e))
    (hs : ∀ x, foldedSetIterable iter0 C.env x = pure x := by intro _; rfl) (hs2 : ∀ env x, foldedSetIterable iter env x = pure x := by intro _ _; rfl) :
    EvC C σ elt [⟨.Name y py, iter0, [], 0⟩, ⟨.Name x px, iter, [], 0⟩] scope pos (NewL σ (ds.flatMap fun d => (sub d).map (g d))) := fun use K F s Q E X hQ => by
  refine wpAny_comprehension_free rfl hs ok.clos ok.kind ok.names (hv K F s _ E X fun F1 v s1 X1 g1 r1 => ?_)
  have S := hi.src X1 r1
  have A0 := X1.am.leave (pas := []) rfl
  refine pyIter_src X.ok.rm.hh S X1.am.frz A0.keep fun o P hf hP IA => ?_
  have I := IA C.A X.ok.rm.hh
  have A1 := A0.allocMu o (.obj (P 0)) s1.toks ⟨o, Heap.get?_push_size _ hf, hP⟩
  refine wpAny_newObj_type ?_
  have A2 := A1.allocMu { cls := .type "list", data := .seq ([] : List Value).toArray } (.list []) s1.toks ⟨_, [], Heap.get?_push_size _ rfl, ⟨by simp, 0, rfl⟩, .nil⟩
  have A3 := A2.perm (mu' := [(s1.heap.objs.size, .obj (P 0)), ((s1.heap.push o).objs.size, .list [])]) (List.Perm.swap ..)
  refine comp_enter (x := y) X1 ok A3 fun L s2 hLn X2 => ?_
  have hnf : ∀ {z}, scope.names.lookup z = some .local ∨ scope.names.lookup z = some .cell → (compVars C.env scope cl y σ.vars).lookup z = none := fun {z} h => compVars_none (by rcases h with h | h <;> (rw [h]; intro e; cases e))
  have loop : codeAny C.G.M C.A (.compLoop (.ListComp elt [⟨.Name y py, iter0, [], 0⟩, ⟨.Name x px, iter, [], 0⟩] scope pos) 0 (.ref s1.heap.objs.size) (.ref (s1.heap.push o).objs.size) (compCx C σ scope cl L).env)
      (compPost C.G.M C.A E use Q (.ref (s1.heap.push o).objs.size) L) s2 := by
    refine comp_outer (C := compCx C σ scope cl L) (K0 := full F1 s1.heap []) (F0 := F1) (vs0 := compVars C.env scope cl y σ.vars) sub g I hl hl2 (fun z pz hz d mu vs => ?_) hxy (hnf hx) (hnf hy) (fun d mu hd => hit L d mu hd) (fun d e mu hd he => step L d e mu hd he) (fun F' s' vs X' g' => ?_) X2 (fun x => hs2 _ x)
    · rcases hz with rfl | rfl
      · exact compAsg hx
      · exact compAsg hy
    · have B := X1.back (pas := []) (oth := σ.mu) (mu' := [((s1.heap.push o).objs.size, .list (ds.flatMap fun d => (sub d).map (g d)))]) rfl X'.am g'
      obtain ⟨p1, p2, p3⟩ := X'.priv L (.head _)
      have hs1 : ∀ o', s1.heap.get? L ≠ some o' := fun o' e => by rw [hLn] at e; cases e
      refine hQ F' _ s' _ L ⟨_, rfl, rfl⟩ B (g1.trans g') p1 ?_ ?_ ?_ ?_
      · cases e : K L with
        | none => rfl
        | some o' => exact absurd (X1.am.keep _ _ e) (hs1 o')
      · intro p hp e
        rcases List.mem_cons.mp hp with rfl | hp
        · exact X'.pmu _ (.head _) (e ▸ .head _)
        · obtain ⟨o', ho'⟩ := (X1.am.mus p hp).1.some
          exact hs1 o' (e ▸ ho')
      · intro hp
        obtain ⟨o', ho'⟩ := (X1.priv L hp).2.2
        exact hs1 o' ho'
      · obtain ⟨m, hm, _⟩ := X'.loc
        exact ⟨m, hm⟩
  exact codeAny_compStart_list loop (I.self 0 s2 _ _ ((X2.am.mus (s1.heap.objs.size, .obj (P 0)) (.head _)).1) loop)
end
end Mine
end

section
set_option Elab.async false
set_option linter.unusedVariables false
set_option linter.unusedSimpArgs false
set_option maxRecDepth 100000
namespace Mine
open PySem PySem.W PyProof.Rows PySem.Calls
def ones (es : List (List Int)) : List Int := es.flatten.filter fun x => (es.flatten.count x : Int) == 1
inductive Plk : List (List Int) → List Int → List Int → Prop
  | last {a b c d : Int} (h : (c = a ∧ d = b ∧ a ≤ b) ∨ (c = b ∧ d = a ∧ b ≤ a)) : Plk [[a, b]] [c, d] []
  | step {es : List (List Int)} {l a b : Int} {ps cs : List Int} (h1 : 1 < es.length) (h2 : ∀ e ∈ es, e.length = 2) (h3 : l ∈ ones es) (h4 : ∀ x ∈ ones es, l ≤ x) (h5 : es.find? (fun e => decide (l ∈ e)) = some [a, b]) (t : Plk (es.filter fun e => !decide (l ∈ e)) ps cs) : Plk es (l :: ps) ((a + b - l) :: cs)
def zss (es : List (List Int)) : List D := es.map fun e => .list (zs e)
def subD : D → List D | .list l => l | _ => []
theorem len2 {es : List (List Int)} (h : ∀ e ∈ es, e.length = 2) : (es.map List.length).sum = 2 * es.length := by
  induction es with
  | nil => rfl
  | cons e es ih =>
    rw [List.map_cons, List.sum_cons, ih fun e he => h e (.tail _ he), h e (.head _), List.length_cons]; omega
section
variable {G : Gx} {f : Addr} {name qual : Str} {dV kV doc pm cdv ct : Value} {an : Option Addr}
abbrev pkCx (G : Gx) (A : Around) (name qual : Str) (doc pm cdv ct : Value) (an : Option Addr) (f L : Addr) (n : Nat) (P : Pred) : Cx := fnCxC G A (fdN 9 name qual .none .none doc pm an cdv ct) f L n P
theorem plucked_body {A : Around} {L : Addr} {n : Nat} {P : Pred} {fs ps cs : List Int} (B : Bt G) (hz : fs.length ≤ 60) (h0 : 0 < fs.length) (hp : Plk (pairsF fs) ps cs) :
    WP (pkCx G A name qual doc pm cdv ct an f L n P) { vars := [("fathers", .list (zs fs))], mu := [] } (bo 9) (Fin (fun d _ => d = .tup [.list (zs ps), .list (zs cs)])) := by
  refine WP.setC rfl (EvC.plain (scope := _) (nats (fs.length - 1)) D.int (fun _ => true) (fun x => .list (zs [x, fs.getD x.toNat 0])) (compOkF rfl rfl (by decide) (fun x hx => by obtain rfl := List.mem_singleton.mp hx; rfl) (List.pairwise_singleton _ _) (by decide)) (.inl rfl) (Ev.range ⟨rfl, B.range.1, B.range.2, rfl⟩ (Ev.cast (Ev.bin (Ev.len (x := "len") ⟨rfl, B.len.1, B.len.2, rfl⟩ (Ev.name (d := .list (zs fs)) rfl) Items.list (k := fs.length) (by rw [zs_length])) Ev.int Op.sub) (show D.int ((fs.length : Int) - 1) = .int ((fs.length - 1 : Nat) : Int) by rw [Int.natCast_sub (by omega)]; rfl))) (by rw [show (nats (fs.length - 1)).map D.int = rints 0 (fs.length - 1 : Nat) from (rints_nats _).symm]; exact ItD.rng (by omega)) (by simp [nats]; omega) fun L' a ha => ⟨rfl, fun _ => ?_⟩) ?_
  · refine Ev.of_new (EvN.list (EvL.cons (Ev.name rfl) (EvL.cons (Ev.idx (d := .list (zs fs)) (Ev.name rfl) Items.list (Ev.name rfl) ?_ ?_) EvL.nil)) (by simp))
    · obtain ⟨i, hi, rfl⟩ := List.mem_map.mp ha
      exact Int.natCast_nonneg _
    · obtain ⟨i, hi, rfl⟩ := List.mem_map.mp ha
      have := List.mem_range.mp hi
      exact zs_get _ (by rw [Int.toNat_natCast]; omega)
  rintro d mu ⟨ea, rfl, rfl⟩
  rw [filter_tr]
  have ee : List.map (fun x => D.list (zs [x, fs.getD x.toNat 0])) (nats (fs.length - 1)) = zss (pairsF fs) := by simp [zss, pairsF, Function.comp_def]
  rw [ee]
  refine WP.frz [("edges", .list (zss (pairsF fs)))] (a := ea) (ds := zss (pairsF fs)) (mu := []) rfl ?_ ?_
  · intro p hp
    obtain rfl := List.mem_singleton.mp hp
    exact .inr ⟨rfl, rfl⟩
  refine WP.setX (.inl rfl) (EvN.list (ds := []) EvL.nil (by simp)) ?_
  rintro d mu ⟨pa, rfl, rfl⟩
  refine WP.setX (.inl rfl) (EvN.list (ds := []) EvL.nil (by simp)) ?_
  rintro d mu ⟨ca, rfl, rfl⟩
  refine WP.while (fun n σ => ∃ (es : List (List Int)) (ps1 ps2 cs1 cs2 : List Int), n = es.length ∧ Plk es ps2 cs2 ∧ ps1 ++ ps2 = ps ∧ cs1 ++ cs2 = cs ∧ es.length ≤ 60 ∧ ps1.length + es.length ≤ 100 ∧ cs1.length + es.length ≤ 100 ∧ σ.mu = [(ca, .list (zs cs1)), (pa, .list (zs ps1))] ∧
    σ.v "points" = some (.ref pa) ∧ σ.v "code" = some (.ref ca) ∧ σ.v "edges" = some (.list (zss es))) (pairsF fs).length ⟨pairsF fs, [], ps, [], cs, rfl, hp, rfl, rfl, by simp [pairsF, nats]; omega, by simp [pairsF, nats]; omega, by simp [pairsF, nats]; omega, rfl, rfl, rfl, rfl⟩ ?_
  rintro n σ ⟨es, ps1, ps2, cs1, cs2, rfl, hp, hps, hcs, hes, hl1, hl2, hmu, v1, v2, v3⟩
  refine ⟨decide (1 < (es.length : Int)), EvT.cmp (Ev.len (x := "len") ⟨rfl, B.len.1, B.len.2, rfl⟩ (Ev.name (d := .list (zss es)) v3) Items.list (k := es.length) (by simp [zss])) Ev.int Cm.gt, fun hb => ?_, fun hb => ?_⟩
  · cases hp with
    | last h => simp at hb
    | @step _ l a b ps2 cs2 h1 h2 h3 h4 h5 tl =>
      have hfl : es.flatten.length ≤ 200 := by
        rw [List.length_flatten, len2 h2]; omega
      refine WP.setX (.inr ⟨rfl, L + 2, rfl, by show L + 2 ∈ [L, L + 3, L + 2, L + 1]; simp⟩) (EvC.ev (EvC.flat (scope := _) (ds := zss es) subD (fun _ e => e) (compOk0 rfl rfl (by decide) (by decide)) (.inl rfl) (.inl rfl) (by decide) (Ev.name v3) ItD.list ?_ ?_ ?_ ?_)) ?_
      · rw [show ((zss es).map fun d => (subD d).length) = es.map List.length by simp [zss, subD, Function.comp_def, zs]]
        rw [len2 h2]; omega
      · simp [zss]; omega
      · intro L' d mu hd
        obtain ⟨e, he, rfl⟩ := List.mem_map.mp hd
        exact Ev.name rfl
      · exact fun L' d e mu hd he => Ev.name rfl
      rintro d mu ⟨ba, rfl, rfl⟩
      have e1 : ((zss es).flatMap fun d => (subD d).map fun e => e) = zs es.flatten := by
        simp [zss, subD, List.flatMap_map, zs, List.map_flatten, List.flatMap_def, List.map_map, Function.comp_def]
      rw [e1]
      refine WP.frz [("both", .list (zs es.flatten)), ("points", .ref pa), ("code", .ref ca), ("edges", .list (zss es))] (a := ba) (ds := zs es.flatten) (mu := [(ca, .list (zs cs1)), (pa, .list (zs ps1))]) (by rw [← hmu]; rfl) ?_ ?_
      · intro p hp
        simp only [List.mem_cons, List.not_mem_nil, or_false] at hp
        rcases hp with rfl | rfl | rfl | rfl
        · exact .inr ⟨rfl, rfl⟩
        · exact .inl v1
        · exact .inl v2
        · exact .inl v3
      refine WP.setX (.inr ⟨rfl, L + 3, rfl, by show L + 3 ∈ [L, L + 3, L + 2, L + 1]; simp⟩) (EvX.call1 (.inl ⟨_, rfl⟩) ⟨rfl, B.min.1, B.min.2, rfl⟩ (Ev.of_new (EvC.ev (EvC.plain (scope := _) es.flatten D.int (fun x => (es.flatten.count x : Int) == 1) D.int (compOkF rfl rfl (by decide) (fun x hx => by obtain rfl := List.mem_singleton.mp hx; rfl) (List.pairwise_singleton _ _) (by decide)) (.inl rfl) (Ev.name rfl) ItD.list (by omega) fun L' x hx => ⟨?_, fun _ => Ev.name rfl⟩))) (C1.min (ns := ones es) Items.list (List.ne_nil_of_mem h3))) ?_
      · exact EvT.cmp (Ev.count (d := .list (zs es.flatten)) (Ev.name rfl) Items.list (Ev.name rfl)) Ev.int Cm.eq
      rintro d mu ⟨m, rfl, rfl, hm1, hm2⟩
      have hml : m = l := Int.le_antisymm (hm2 l h3) (h4 m hm1)
      subst hml
      refine WP.set (d := .list (zs [a, b])) (.inl rfl) (Ev.idx (Ev.of_new (EvC.ev (EvC.plain (scope := _) es (fun e => .list (zs e)) (fun e => decide (m ∈ e)) (fun e => .list (zs e)) (compOkF rfl rfl (by decide) (fun x hx => by obtain rfl := List.mem_singleton.mp hx; rfl) (List.pairwise_singleton _ _) (by decide)) (.inl rfl) (Ev.name (d := .list (zss es)) rfl) ItD.list (by omega) fun L' x hx => ⟨?_, fun _ => Ev.name rfl⟩))) Items.list Ev.int (by omega) ?_) ?_
      · exact EvT.cmp (Ev.name (d := .int m) rfl) (Ev.name (d := .list (zs x)) rfl) (Cm.in Items.list)
      · rw [← List.head?_filter] at h5
        show (List.map _ _)[0]? = _
        rw [← List.head?_eq_getElem?, List.head?_map, h5]; rfl
      refine WP.exprX (EvX.append (ds := zs ps1) (e := .int m) (mu' := [(ca, .list (zs cs1)), (pa, .list (zs ps1 ++ [D.int m]))]) (Ev.name rfl) (Ev.name rfl) (show MuSet [(ca, .list (zs cs1)), (pa, .list (zs ps1))] pa _ _ _ from MuSet.tail MuSet.head) (by simp [zs]; omega)) ?_
      rintro d mu ⟨rfl, rfl⟩
      refine WP.exprX (EvX.append (ds := zs cs1) (e := .int (a + b - m)) (mu' := [(ca, .list (zs cs1 ++ [D.int (a + b - m)])), (pa, .list (zs ps1 ++ [D.int m]))]) (Ev.name rfl) (Ev.bin (Ev.bin (Ev.idx (d := .list (zs [a, b])) (x := .int a) (Ev.name rfl) Items.list Ev.int (by omega) rfl) (Ev.idx (d := .list (zs [a, b])) (x := .int b) (Ev.name rfl) Items.list Ev.int (by omega) rfl) Op.add) (Ev.name rfl) Op.sub) (show MuSet [(ca, .list (zs cs1)), (pa, .list (zs ps1 ++ [D.int m]))] ca _ _ _ from MuSet.head) (by simp [zs]; omega)) ?_
      rintro d mu ⟨rfl, rfl⟩
      refine WP.setC rfl (EvC.plain (scope := _) es (fun e => .list (zs e)) (fun e => !decide (m ∈ e)) (fun e => .list (zs e)) (compOkF rfl rfl (by decide) (fun x hx => by obtain rfl := List.mem_singleton.mp hx; rfl) (List.pairwise_singleton _ _) (by decide)) (.inl rfl) (Ev.name (d := .list (zss es)) rfl) ItD.list (by omega) fun L' x hx => ⟨?_, fun _ => Ev.name rfl⟩) ?_
      · exact EvT.cmp (Ev.name (d := .int m) rfl) (Ev.name (d := .list (zs x)) rfl) (Cm.notIn Items.list)
      rintro d mu ⟨na, rfl, rfl⟩
      refine WP.frz [("points", .ref pa), ("code", .ref ca), ("edges", .list (zss (es.filter fun e => !decide (m ∈ e))))] (a := na) (ds := zss (es.filter fun e => !decide (m ∈ e))) (mu := [(ca, .list (zs cs1 ++ [D.int (a + b - m)])), (pa, .list (zs ps1 ++ [D.int m]))]) rfl ?_ ?_
      · intro p hp
        simp only [List.mem_cons, List.not_mem_nil, or_false] at hp
        rcases hp with rfl | rfl | rfl
        · exact .inl rfl
        · exact .inl rfl
        · exact .inr ⟨rfl, rfl⟩
      have hlt : (es.filter fun e => !decide (m ∈ e)).length < es.length := by
        refine List.length_filter_lt_length_iff_exists.mpr ⟨[a, b], List.mem_of_find?_eq_some h5, ?_⟩
        have := List.find?_some h5
        simp at this ⊢
        exact fun h => this.resolve_left h
      refine WP.nil ⟨_, hlt, _, ps1 ++ [m], ps2, cs1 ++ [a + b - m], cs2, rfl, tl, by rw [← hps]; simp, by rw [← hcs]; simp, by omega, by rw [List.length_append]; simp; omega, by rw [List.length_append]; simp; omega, ?_, rfl, rfl, rfl⟩
      rw [← zs_append, ← zs_append]; rfl
  · cases hp with
    | step h1 h2 h3 h4 h5 tl => simp at hb; omega
    | @last a b c d h =>
      have hcs' : cs = cs1 := by rw [← hcs]; simp
      refine WP.frz [("points", .ref pa), ("code", .list (zs cs1)), ("edges", .list (zss [[a, b]]))] (a := ca) (ds := zs cs1) (mu := [(pa, .list (zs ps1))]) hmu ?_ ?_
      · intro p hp
        simp only [List.mem_cons, List.not_mem_nil, or_false] at hp
        rcases hp with rfl | rfl | rfl
        · exact .inl v1
        · exact .inr ⟨v2, rfl⟩
        · exact .inl v3
      refine WP.frz [("points", .list (zs ps1)), ("code", .list (zs cs1)), ("edges", .list (zss [[a, b]]))] (a := pa) (ds := zs ps1) (mu := []) rfl ?_ ?_
      · intro p hp
        simp only [List.mem_cons, List.not_mem_nil, or_false] at hp
        rcases hp with rfl | rfl | rfl
        · exact .inr ⟨rfl, rfl⟩
        · exact .inl rfl
        · exact .inl rfl
      refine WP.ret (Ev.tuple (EvL.cons (Ev.of_new (EvN.cast (EvX.bin (Ev.name (d := .list (zs ps1)) rfl) (Ev.of_new (ds := zs [c, d]) (EvX.mono (EvX.call1 (.inl ⟨_, rfl⟩) ⟨rfl, B.sorted.1, B.sorted.2, rfl⟩ (Ev.idx (d := .list (zss [[a, b]])) (x := .list (zs [a, b])) (Ev.name rfl) Items.list Ev.int (by omega) rfl) (C1.sorted (ns := [a, b]) Items.list (by simp))) ?_)) (OpN.concat Items.list Items.list ?_)) (zs_append ps1 [c, d]))) (EvL.cons (Ev.name rfl) EvL.nil)) (by simp)) ?_
      · rintro d' mu ⟨ns, hn, hp, hs⟩
        have : ns = [c, d] := by
          rcases ksk_perm2 hp with rfl | rfl
          · rcases h with ⟨rfl, rfl, h⟩ | ⟨rfl, rfl, h⟩
            · rfl
            · have : c = d := by simp at hs; omega
              rw [this]
          · rcases h with ⟨rfl, rfl, h⟩ | ⟨rfl, rfl, h⟩
            · have : c = d := by simp at hs; omega
              rw [this]
            · rfl
        rw [this] at hn
        exact hn
      · simp [zs]; omega
      · show D.tup _ = D.tup _
        rw [hps, hcs']
theorem plucked_sem {n : Nat} {P : Pred} {fs ps cs : List Int} (hmon : P.Mon) (hF : FnF G.hb.get? f (fdN 9 name qual .none .none doc pm an cdv ct)) (B : Bt G) (hz : fs.length ≤ 60) (h0 : 0 < fs.length) (hp : Plk (pairsF fs) ps cs) :
    CallSem G (n + 1) P f [] [.list (zs fs)] (Pure (.tup [.list (zs ps), .list (zs cs)])) := by
  refine CallSem.pure (call_fnC (fd := fdN 9 name qual .none .none doc pm an cdv ct) (ns := ["fathers"]) (body := bo 9) hmon ⟨rfl, fun s vs hb h => ?_, by decide, rfl, rfl, rfl, rfl, rfl⟩ (fun vs h => ?_) (fun K F hb _ => hF.mono hb) rfl (show ((cellsFrom 0 (sc 9).names []).map (·.1)).Nodup by decide) (show ∀ x ∈ (["fathers"] : List Str), (sc 9).names.lookup x = _ ∨ (sc 9).names.lookup x = _ by decide) fun A L hr' => ?_)
  · match vs, h with
    | [a], _ => exact BindsTo.of_eq rfl
  · match vs, h with
    | [a], _ => rfl
  · exact plucked_body B hz h0 hp
end
end Mine
end

section
set_option Elab.async false
set_option linter.unusedVariables false
set_option linter.unusedSimpArgs false
set_option maxRecDepth 100000
namespace Mine
open PySem PySem.W PyProof.Rows PySem.Calls
def fathersW (line drawn : List Int) (start : Int) : Nat → List Int
  | 0 => List.replicate line.length (line.length - 1 : Int)
  | k + 1 => (fathersW line drawn start k).set (line.getD (k + 1) 0).toNat (line.getD ((start + drawn.getD k 0).fmod (k + 1 : Nat)).toNat 0)
theorem fathersW_length (line drawn : List Int) (start : Int) : ∀ k, (fathersW line drawn start k).length = line.length
  | 0 => by simp [fathersW]
  | k + 1 => by simp [fathersW, fathersW_length line drawn start k]
section
variable {G : Gx} {f : Addr} {name qual : Str} {dV kV doc pm cdv ct : Value} {an : Option Addr}
abbrev ftCx (G : Gx) (A : Around) (name qual : Str) (doc pm cdv ct : Value) (an : Option Addr) (f L : Addr) (n : Nat) (P : Pred) : Cx := fnCx G A (fdN 10 name qual .none .none doc pm an cdv ct) f L n P
theorem fathers_body {A : Around} {L : Addr} {n : Nat} {P : Pred} {line drawn : List Int} {start : Int} (B : Bt G) (hz : line.length ≤ 60) (h0 : 0 < line.length) (hl : ∀ x ∈ line, 0 ≤ x ∧ x.toNat < line.length) (hd : line.length ≤ drawn.length + 1) :
    WP (ftCx G A name qual doc pm cdv ct an f L n P) { vars := [("line", .list (zs line)), ("drawn", .list (zs drawn)), ("start", .int start)], mu := [] } (bo 10) (Fin (fun d _ => d = .list (zs (fathersW line drawn start (line.length - 1))))) := by
  refine WP.setX (.inl rfl) (EvX.bin (Ev.of_new (EvN.list (EvL.cons (Ev.bin (Ev.len (x := "len") ⟨rfl, B.len.1, B.len.2, rfl⟩ (Ev.name (d := .list (zs line)) rfl) Items.list (k := line.length) (by rw [zs_length])) Ev.int Op.sub) EvL.nil) (by simp))) (Ev.len (x := "len") ⟨rfl, B.len.1, B.len.2, rfl⟩ (Ev.name (d := .list (zs line)) rfl) Items.list (k := line.length) (by rw [zs_length])) (OpN.repeat Items.list (by omega))) ?_
  rintro d mu ⟨pa, rfl, rfl⟩
  refine WP.for (ds := rints 1 line.length) (fun k σ => σ.mu = [(pa, .list (zs (fathersW line drawn start k)))] ∧ σ.v "line" = some (.list (zs line)) ∧ σ.v "drawn" = some (.list (zs drawn)) ∧ σ.v "start" = some (.int start) ∧ σ.v "parents" = some (.ref pa))
    (Ev.of_just (EvX.call2 (.inr ⟨_, rfl⟩) ⟨rfl, B.range.1, B.range.2, rfl⟩ Ev.int (Ev.len (x := "len") ⟨rfl, B.len.1, B.len.2, rfl⟩ (Ev.name (d := .list (zs line)) rfl) Items.list (k := line.length) (by rw [zs_length])) C2.range)) (.inr ⟨1, line.length, rfl, rfl, by omega⟩) ⟨?_, rfl, rfl, rfl, rfl⟩ (fun d σ => σ.set "place" d) (fun _ _ _ => rfl) (fun _ _ => rfl) (fun d σ => Asg.local rfl) ?_ ?_
  · simp [fathersW, zs]; rfl
  · rintro k d σ hk ⟨hmu, v1, v2, v3, v4⟩
    have hk2 : k < line.length - 1 := by
      have := (List.getElem?_eq_some_iff.mp hk).1
      simp [rints] at this; omega
    obtain rfl : d = .int ((k + 1 : Nat) : Int) := by
      have : (rints 1 line.length)[k]? = some (.int (1 + k : Int)) := by
        rw [rints, List.getElem?_map, List.getElem?_range (by omega)]; rfl
      rw [this] at hk
      cases hk
      congr 1; omega
    have hx := hl (line.getD (k + 1) 0) (by
      rw [List.getD_eq_getElem?_getD, List.getElem?_eq_getElem (by omega)]; exact List.getElem_mem _)
    have hm0 : 0 ≤ (start + drawn.getD k 0).fmod ((k + 1 : Nat) : Int) := Int.fmod_nonneg_of_pos _ (by omega)
    have hm1 : (start + drawn.getD k 0).fmod ((k + 1 : Nat) : Int) < ((k + 1 : Nat) : Int) := Int.fmod_lt_of_pos _ (by omega)
    have vp : ∀ x d, (x == ("place" : Str)) = false → σ.v x = some d → (σ.set "place" (.int ((k + 1 : Nat) : Int))).v x = some d := fun x d hx h => by
      show List.lookup x (_ :: _) = _
      rw [List.lookup_cons, hx]; exact h
    have w0 : (σ.set "place" (.int ((k + 1 : Nat) : Int))).v "place" = some (.int ((k + 1 : Nat) : Int)) := rfl
    have w1 := vp "line" _ (by decide) v1
    have w2 := vp "drawn" _ (by decide) v2
    have w3 := vp "start" _ (by decide) v3
    have w4 := vp "parents" _ (by decide) v4
    refine WP.setItem (a := pa) (k := line.getD (k + 1) 0) (d := .int (line.getD ((start + drawn.getD k 0).fmod ((k + 1 : Nat) : Int)).toNat 0)) (ds := zs (fathersW line drawn start k)) (mu' := [(pa, .list (zs (fathersW line drawn start (k + 1))))])
      (Ev.idx (d := .list (zs line)) (Ev.name w1) Items.list (Ev.bin (Ev.bin (Ev.name w3) (Ev.idx (d := .list (zs drawn)) (x := .int (drawn.getD k 0)) (Ev.name w2) Items.list (k := k) (Ev.cast (Ev.bin (Ev.name w0) Ev.int Op.sub) (by congr 1; omega)) (by omega) ?_) Op.add) (Ev.name w0) (Op.mod (by omega))) hm0 ?_) (Ev.name w4) (Ev.idx (d := .list (zs line)) (k := ((k + 1 : Nat) : Int)) (Ev.name w1) Items.list (Ev.name w0) (by omega) ?_) hx.1 (by rw [zs_length, fathersW_length]; exact hx.2) ?_ ?_
    · rw [Int.toNat_natCast]; exact zs_get _ (by omega)
    · exact zs_get _ (by omega)
    · rw [Int.toNat_natCast]; exact zs_get _ (by omega)
    · rw [zs_set]
      show MuSet σ.mu _ _ _ _
      rw [hmu]; exact MuSet.head
    · exact WP.nil ⟨rfl, w1, w2, w3, w4⟩
  · rintro σ ⟨hmu, v1, v2, v3, v4⟩
    have e : (rints 1 line.length).length = line.length - 1 := by simp [rints]
    rw [e] at hmu
    refine WP.nil (WP.frz [("parents", .list (zs (fathersW line drawn start (line.length - 1))))] (a := pa) (ds := zs (fathersW line drawn start (line.length - 1))) (mu := []) hmu ?_ ?_)
    · intro p hp
      obtain rfl := List.mem_singleton.mp hp
      exact .inr ⟨v4, rfl⟩
    · exact WP.ret (Ev.name rfl) rfl
theorem fathers_sem {n : Nat} {P : Pred} {line drawn : List Int} {start : Int} (hmon : P.Mon) (hF : FnF G.hb.get? f (fdN 10 name qual .none .none doc pm an cdv ct)) (B : Bt G) (hz : line.length ≤ 60) (h0 : 0 < line.length) (hl : ∀ x ∈ line, 0 ≤ x ∧ x.toNat < line.length) (hd : line.length ≤ drawn.length + 1) :
    CallSem G (n + 1) P f [] [.list (zs line), .list (zs drawn), .int start] (Pure (.list (zs (fathersW line drawn start (line.length - 1))))) := by
  refine CallSem.pure (call_fn (fd := fdN 10 name qual .none .none doc pm an cdv ct) (ns := ["line", "drawn", "start"]) (body := bo 10) hmon ⟨rfl, fun s vs hb h => ?_, by decide, rfl, rfl, rfl, rfl, rfl⟩ (fun K F hb _ => hF.mono hb) (show ∀ x ∈ (sc 10).names, _ by decide) (show ∀ x ∈ (["line", "drawn", "start"] : List Str), (sc 10).names.lookup x = _ by decide) [] (fun K F _ => ⟨fun x hx => (nomatch hx), fun x d h => (nomatch h)⟩) List.Pairwise.nil (by simp) fun A L hr => ?_)
  · match vs, h with
    | [a, b, c], _ => exact BindsTo.of_eq rfl
  · exact fathers_body B hz h0 hl hd
end
end Mine
end

section
set_option Elab.async false
set_option linter.unusedVariables false
set_option linter.unusedSimpArgs false
set_option maxRecDepth 100000
namespace Mine
open PySem PySem.W PyProof.Rows PySem.Calls
def leafOf (nm : List Int) : Nat := nm.findIdx (· == 0)
def treeAcc (code : List Int) : Nat → List Int × List Int
  | 0 => (List.replicate (code.length + 2) (code.length + 1 : Int), (nats (code.length + 2)).map fun x => (code.count x : Int))
  | k + 1 => (growF (treeAcc code k).1 (leafOf (treeAcc code k).2) (code.getD k 0), growN (treeAcc code k).2 (leafOf (treeAcc code k).2) (code.getD k 0))
def treeOf (code : List Int) : List Int := (treeAcc code code.length).1
structure TreeOk (code : List Int) : Prop where
  rng : ∀ a ∈ code, 0 ≤ a ∧ a.toNat < code.length + 2
  zero : ∀ k, k < code.length → (0 : Int) ∈ (treeAcc code k).2
theorem leafOf_at {nm : List Int} (h : (0 : Int) ∈ nm) : nm[leafOf nm]? = some 0 := by
  have hl : leafOf nm < nm.length := List.findIdx_lt_length_of_exists ⟨0, h, rfl⟩
  have := List.findIdx_getElem (w := hl)
  rw [List.getElem?_eq_getElem hl]
  congr 1
  simp at this
  exact this
theorem leafOf_lt {nm : List Int} {m : Nat} (h : m < leafOf nm) : nm[m]? ≠ some 0 := by
  intro e
  have hm : m < nm.length := (List.getElem?_eq_some_iff.mp e).1
  have := List.not_of_lt_findIdx h
  rw [List.getElem?_eq_getElem hm] at e
  simp at e
  simp [e] at this
theorem growF_length {fs : List Int} {l : Nat} {a : Int} (h : l < fs.length) : (growF fs l a).length = fs.length := by
  simp [growF]; omega
theorem treeAcc_length {code : List Int} (T : TreeOk code) : ∀ {k}, k ≤ code.length → (treeAcc code k).1.length = code.length + 2 ∧ (treeAcc code k).2.length = code.length + 2
  | 0, _ => by simp [treeAcc, nats]
  | k + 1, h => by
    obtain ⟨h1, h2⟩ := treeAcc_length T (k := k) (by omega)
    have hz := leafOf_at (T.zero k (by omega))
    have hl := (List.getElem?_eq_some_iff.mp hz).1
    refine ⟨?_, ?_⟩
    · show (growF _ _ _).length = _
      rw [growF_length (by omega), h1]
    · show (growN _ _ _).length = _
      simp [growN, h2]
section
variable {G : Gx} {ft fr fg : Addr} {name qual name2 qual2 name3 qual3 : Str} {doc pm cdv ct doc2 pm2 cdv2 ct2 doc3 pm3 cdv3 ct3 : Value} {an an2 an3 : Option Addr}
theorem tree_call {n : Nat} {P : Pred} {code : List Int} {mi T : Addr} {om oT : Obj} {mm : Value} {nT : Nat} (hmon : P.Mon) (hF : FnF G.hb.get? ft (fdN 7 name qual .none .none doc pm an cdv ct)) (hF2 : FnF G.hb.get? fr (fdN 3 name2 qual2 (.ref T) .none doc2 pm2 an2 cdv2 ct2)) (hF3 : FnF G.hb.get? fg (fdN 6 name3 qual3 .none .none doc3 pm3 an3 cdv3 ct3))
    (RG : RedG G mi om) (hT : G.hb.get? T = some oT) (hT2 : oT.data = .seq #[mm] nT) (B : Bt G) (h1 : G.mg "reduce" = some (.ref fr)) (h2 : G.mg "_law_grow" = some (.ref fg)) (hz : code.length ≤ 60) (OK : TreeOk code) :
    CallSem G (n + 3) P ft [] [.list (zs code)] (Pure (.list (zs (treeOf code)))) := by
  have mt : Pred.Mon (fun _ _ => True) := fun _ _ _ _ _ _ _ => trivial
  refine tree_sem (n := n + 2) (acc := treeAcc code) hmon hF B h1 h2 hz rfl ?_
  have := reduce_sem (G := G) (f := fr) (g := fg) (n := n + 1) (m := n + 1) (P := fun _ _ => True) (ds := zs code) (acc := fun k => .tup [.list (zs (treeAcc code k).1), .list (zs (treeAcc code k).2)]) RG hT hT2 hF2 (.inr ⟨_, rfl⟩) (Nat.le_refl _) mt fun k d hk => ?_
  · rw [zs_length] at this; exact this
  · have hk' : k < code.length := by
      have := (List.getElem?_eq_some_iff.mp hk).1
      rwa [zs_length] at this
    rw [zs_get code hk'] at hk
    cases hk
    obtain ⟨l1, l2⟩ := treeAcc_length OK (k := k) (by omega)
    have ha := OK.rng (code.getD k 0) (by rw [List.getD_eq_getElem?_getD, List.getElem?_eq_getElem hk']; exact List.getElem_mem _)
    exact grow_sem mt hF3 (leafOf_at (OK.zero k hk')) (fun m hm => leafOf_lt hm) ha.1 (by rw [l2]; exact ha.2) (by omega) (by omega)
end
end Mine
end

section
set_option Elab.async false
set_option linter.unusedVariables false
set_option linter.unusedSimpArgs false
set_option maxRecDepth 100000
namespace Mine
open PySem PySem.W PyProof.Rows PySem.Calls
abbrev PT : Pred := fun _ _ => True
def codeOf (fs told : List Int) (m : Nat) : List Int := (told.take m).map fun x => fs.getD x.toNat 0
def drawnOf (numbers : List Int) (total : Int) : List Int := numbers.map (fun x => (x.fdiv (numbers.length + 2)).fmod 7) ++ [total.fmod 7]
def lineOf (m : Nat) (p : Array Nat) : List Int := (m + 1 : Int) :: p.toList.map fun i : Nat => (i : Int)
structure FsOk (fs : List Int) (m : Nat) : Prop where
  len : fs.length = m + 2
  rng : ∀ x ∈ (mrg (toldRows fs)).1, 0 ≤ x ∧ x.toNat < fs.length
  empt : ∀ r ∈ (mrg (toldRows fs)).2, r = []
  plk : Plk (pairsF fs) (mrg (toldRows fs)).1 (codeOf fs (mrg (toldRows fs)).1 m)
  tlen : (mrg (toldRows fs)).1.length ≤ 60
structure LawOk (script : List Int) : Prop where
  tree : TreeOk ((script.take 6).map fun x => x.fmod ((script.take 6).length + 2))
  fs : FsOk (treeOf ((script.take 6).map fun x => x.fmod ((script.take 6).length + 2))) (script.take 6).length
  code : codeOf (treeOf ((script.take 6).map fun x => x.fmod ((script.take 6).length + 2))) (mrg (toldRows (treeOf ((script.take 6).map fun x => x.fmod ((script.take 6).length + 2))))).1 (script.take 6).length = (script.take 6).map fun x => x.fmod ((script.take 6).length + 2)
  par : ∀ p, Ok ((script.take 6).length + 1) p → FsOk (fathersW (lineOf (script.take 6).length p) (drawnOf (script.take 6) script.sum) (script.sum.fdiv 7) ((script.take 6).length + 1)) (script.take 6).length
  ptree : ∀ p fs again, Ok ((script.take 6).length + 1) p → fs = fathersW (lineOf (script.take 6).length p) (drawnOf (script.take 6) script.sum) (script.sum.fdiv 7) ((script.take 6).length + 1) → again = codeOf fs (mrg (toldRows fs)).1 (script.take 6).length → again.length = (script.take 6).length ∧ TreeOk again ∧ treeOf again = fs
structure Fns (G : Gx) (n : Nat) (ft fo fp fh : Addr) : Prop where
  t1 : G.mg "_law_tree" = some (.ref ft)
  o1 : G.mg "_law_told" = some (.ref fo)
  p1 : G.mg "_law_plucked" = some (.ref fp)
  h1 : G.mg "_law_fathers" = some (.ref fh)
  t : ∀ code, code.length ≤ 6 → TreeOk code → CallSem G n PT ft [] [.list (zs code)] (Pure (.list (zs (treeOf code))))
  o : ∀ fs m, m ≤ 6 → FsOk fs m → CallSem G n PT fo [] [.list (zs fs)] (Pure (.list (zs (mrg (toldRows fs)).1)))
  p : ∀ fs m, m ≤ 6 → FsOk fs m → CallSem G n PT fp [] [.list (zs fs)] (Pure (.tup [.list (zs (mrg (toldRows fs)).1), .list (zs (codeOf fs (mrg (toldRows fs)).1 m))]))
  h : ∀ line drawn start, line.length ≤ 8 → 0 < line.length → (∀ x ∈ line, 0 ≤ x ∧ x.toNat < line.length) → line.length ≤ drawn.length + 1 → CallSem G n PT fh [] [.list (zs line), .list (zs drawn), .int start] (Pure (.list (zs (fathersW line drawn start (line.length - 1)))))
def LamP (gl : Addr) (fd : FuncData) (c : Addr) (d : D) : Pred := fun K F => FnF F gl fd ∧ ∃ o v, K c = some o ∧ o.data = .cell (some v) ∧ Rep F v d
theorem LamP.mon {gl : Addr} {fd : FuncData} {c : Addr} {d : D} : (LamP gl fd c d).Mon := fun K K' F F' ⟨h1, o, v, h2, h3, h4⟩ gK gF => ⟨h1.mono gF, o, v, gK _ _ h2, h3, h4.mono gF⟩
theorem drawn_lam {G : Gx} {n : Nat} {gl c' cA : Addr} {pm ctv : Value} {qual : Str} {q1 q2 a1 a2 a3 b1 b2 b3 b4 : Pos} {drawn : List Int} {i j : Nat} (hi : i < drawn.length) (hj : j < drawn.length) :
    CallSem G (n + 1) (LamP gl (kla_fn "<lambda>" qual { posonlyargs := [], args := [⟨"p", none, q1⟩, ⟨"q", none, q2⟩], vararg := none, kwonlyargs := [], kw_defaults := [], kwarg := none, defaults := [] }
      (.BinOp (.Subscript (.Name "drawn" a1) (.Name "p" a2) a3) .Sub (.Subscript (.Name "drawn" b1) (.Name "q" b2) b3) b4) { kind := .function, names := [("p", .local), ("q", .local), ("drawn", .free)], isGenerator := false, isCoroutine := false } [("drawn", cA)] pm (.ref c') ctv) cA (.list (zs drawn)))
      gl [] [.int i, .int j] (Pure (.int (drawn.getD i 0 - drawn.getD j 0))) := by
  refine call_lam (ns := ["p", "q"]) LamP.mon ⟨rfl, fun vs h => ?_, by decide, rfl, rfl, rfl, rfl, rfl⟩ (fun K F _ h => h.1) (show ∀ x ∈ ([("p", .local), ("q", .local), ("drawn", .free)] : List (Str × NameKind)), x.2 ≠ .cell by decide) (show ∀ x ∈ (["p", "q"] : List Str), ([("p", .local), ("q", .local), ("drawn", .free)] : List (Str × NameKind)).lookup x = some .local by decide) [("drawn", .list (zs drawn))] (fun K F h => ?_) (List.pairwise_singleton _ _) fun A' L' hr => ?_
  · match vs, h with
    | [a, b], _ => rfl
  · obtain ⟨h1, o, v, h2, h3, h4⟩ := h
    refine ⟨fun x hx => ?_, fun x d hx => ?_⟩
    · obtain rfl := List.mem_singleton.mp hx
      exact ⟨o, _, h2, h3⟩
    · have := mem_of_lookup hx
      simp only [List.mem_singleton] at this
      cases this
      exact ⟨cA, o, v, rfl, rfl, h2, h3, h4⟩
  · refine EvX.mono (EvX.of (Ev.bin (Ev.idx (d := .list (zs drawn)) (Ev.name rfl) Items.list (Ev.name (d := .int i) rfl) (by omega) (zs_get _ (by rw [Int.toNat_natCast]; exact hi))) (Ev.idx (d := .list (zs drawn)) (Ev.name rfl) Items.list (Ev.name (d := .int j) rfl) (by omega) (zs_get _ (by rw [Int.toNat_natCast]; exact hj))) Op.sub)) ?_
    rintro d mu ⟨rfl, rfl⟩
    exact ⟨by rw [Int.toNat_natCast, Int.toNat_natCast], rfl⟩
theorem permL_nats {m : Nat} {p : Array Nat} (hp : Ok (m + 1) p) : permL (zs (nats (m + 1))) p = zs (p.toList.map fun i : Nat => (i : Int)) := by
  unfold permL
  show _ = List.map D.int (List.map _ _)
  rw [List.map_map]
  refine List.map_congr_left fun i hi => ?_
  have : i < m + 1 := by
    have := (hp.mem_iff (a := i)).mp (Array.mem_toList_iff.mp hi)
    simpa using this
  simp [zs, nats, this]
section
variable {G : Gx} {f : Addr} {name qual : Str} {dV kV doc pm cdv ct : Value} {an : Option Addr}
abbrev lwCx (G : Gx) (A : Around) (name qual : Str) (doc pm cdv ct : Value) (an : Option Addr) (f L : Addr) (n : Nat) (P : Pred) : Cx := fnCxC G A (fdN 11 name qual .none .none doc pm an cdv ct) f L n P
theorem law_body {A : Around} {L : Addr} {n n' : Nat} {ft fo fp fh fa c1 P1 cL PL : Addr} {script : List Int} {ms : Str → Option Value} {docK pmK ctK : Value} {anK : Option Addr} (B : Bt G) (FN : Fns G n ft fo fp fh) (OK : LawOk script) (hlen : script.length ≤ 63) (hn : n ≤ n') (hn4 : 4 ≤ n') (hgens : G.s0.gens = #[])
    (H : KPre G.hb G.mg G.mb ms fa c1 P1 docK pmK (.ref c1) ctK anK) (hk : G.mg "cmp_to_key" = some (.ref fa)) (hL : cdv = .ref cL) (hLd : CodeHd G.hb cL PL) (hA1 : A.depth ≤ 600) (hA2 : A.units ≤ 3000) :
    WP (lwCx G A name qual doc pm cdv ct an f L n' PT) { vars := [("script", .list (zs script))], mu := [(PL, T0), (P1, T0)] } (bo 11) (Fin (fun d mu => d = .bool true ∧ mu = [(P1, T1), (PL, T1)])) := by
  have hm6 : (script.take 6).length ≤ 6 := by simp; omega
  refine WP.set (d := .int script.sum) (.inl rfl) (Ev.of_just (EvX.call1 (.inl ⟨_, rfl⟩) ⟨rfl, B.sum.1, B.sum.2, rfl⟩ (Ev.name (d := .list (zs script)) rfl) (C1.sum Items.list))) ?_
  refine WP.set (d := .list (zs (script.take 6))) (.inl rfl) (Ev.of_new (EvN.cast (EvN.upto (n := 6) (Ev.name (d := .list (zs script)) rfl) Items.list Ev.int) (zs_take _ _))) ?_
  generalize hnum : script.take 6 = num at *
  refine WP.set (x := "size") (d := .int (num.length + 2 : Int)) (.inr ⟨rfl, L + 1, rfl, by show L + 1 ∈ [L, L + 4, L + 3, L + 2, L + 1]; simp⟩) (Ev.bin (Ev.len (x := "len") ⟨rfl, B.len.1, B.len.2, rfl⟩ (Ev.name (d := .list (zs num)) rfl) Items.list (k := num.length) (by rw [zs_length])) Ev.int Op.add) ?_
  refine WP.setC rfl (EvC.plain (scope := _) num D.int (fun _ => true) (fun x => .int (x.fmod (num.length + 2))) (compOkF rfl rfl (by decide) (fun x hx => by obtain rfl := List.mem_singleton.mp hx; rfl) (List.pairwise_singleton _ _) (by decide)) (.inl rfl) (Ev.name (d := .list (zs num)) rfl) ItD.list (by omega) fun L' x hx => ⟨rfl, fun _ => Ev.bin (Ev.name rfl) (Ev.name rfl) (Op.mod (by omega))⟩) ?_
  rintro d mu ⟨ca, rfl, rfl⟩
  rw [filter_tr]
  have ec : num.map (fun x => D.int (x.fmod (num.length + 2))) = zs (num.map fun x => x.fmod (num.length + 2)) := by simp [zs]
  rw [ec]
  obtain ⟨okt, okf, okc, okp, okq⟩ := OK
  rw [hnum] at okt okf okc okp okq
  have hcl : (num.map fun x => x.fmod (num.length + 2)).length ≤ 6 := by rw [List.length_map]; exact hm6
  generalize hcode : (num.map fun x => x.fmod (num.length + 2)) = code at *
  generalize hm : num.length = m at *
  refine WP.frz [("total", .int script.sum), ("numbers", .list (zs num)), ("size", .int (m + 2 : Int)), ("code", .list (zs code))] (a := ca) (ds := zs code) (mu := [(PL, T0), (P1, T0)]) rfl ?_ ?_
  · intro p hp
    simp only [List.mem_cons, List.not_mem_nil, or_false] at hp
    rcases hp with rfl | rfl | rfl | rfl
    · exact .inl rfl
    · exact .inl rfl
    · exact .inl rfl
    · exact .inr ⟨rfl, rfl⟩
  refine WP.set (x := "fathers") (d := .list (zs (treeOf code))) (.inr ⟨rfl, L + 2, rfl, by show L + 2 ∈ [L, L + 4, L + 3, L + 2, L + 1]; simp⟩) (Ev.call (Ev.glob rfl FN.t1) (EvL.cons (Ev.name rfl) EvL.nil) (FN.t code hcl okt) (by show n ≤ n'; omega) (fun _ _ _ _ => trivial)) ?_
  generalize treeOf code = F at *
  refine WP.set (x := "told") (d := .list (zs (mrg (toldRows F)).1)) (.inl rfl) (Ev.call (Ev.glob rfl FN.o1) (EvL.cons (Ev.name rfl) EvL.nil) (FN.o F m hm6 okf) (by show n ≤ n'; omega) (fun _ _ _ _ => trivial)) ?_
  have hidx : ∀ (fs : List Int), FsOk fs m → ∀ x ∈ (mrg (toldRows fs)).1.take m, 0 ≤ x ∧ x.toNat < fs.length := fun fs o x hx => o.rng x (List.mem_of_mem_take hx)
  refine WP.ifs (b := false) ?_ (fun h => nomatch h) fun _ => WP.nil ?_
  · refine EvT.cast (EvT.cmp (d1 := .list (zs (codeOf F (mrg (toldRows F)).1 m))) ?_ (Ev.name (d := .list (zs code)) rfl) (Cm.neD Vs.nums Vs.nums (by decide))) (by simp [okc])
    refine Ev.of_new (EvN.cast (EvC.ev (EvC.plain (scope := _) ((mrg (toldRows F)).1.take m) D.int (fun _ => true) (fun x => .int (F.getD x.toNat 0)) (compOkF rfl rfl (by decide) (fun x hx => by obtain rfl := List.mem_singleton.mp hx; rfl) (List.pairwise_singleton _ _) (by decide)) (.inl rfl)
      (Ev.of_new (EvN.cast (EvN.upto (n := m) (Ev.name (d := .list (zs (mrg (toldRows F)).1)) rfl) Items.list (Ev.cast (Ev.bin (Ev.name (d := .int (m + 2 : Int)) rfl) Ev.int Op.sub) (by congr 1; omega))) (zs_take _ _))) ItD.list (by have := okf.tlen; simp; omega) fun L' x hx => ⟨rfl, fun _ => Ev.idx (d := .list (zs F)) (Ev.name rfl) Items.list (Ev.name rfl) (hidx F okf x hx).1 (zs_get _ (hidx F okf x hx).2)⟩)) ?_)
    rw [filter_tr, codeOf, zs, List.map_map]; rfl
  refine WP.ifs (b := false) ?_ (fun h => nomatch h) fun _ => WP.nil ?_
  · exact EvT.cast (EvT.cmp (Ev.tuple (EvL.cons (Ev.name (d := .list (zs (mrg (toldRows F)).1)) rfl) (EvL.cons (Ev.name (d := .list (zs code)) rfl) EvL.nil)) (by simp)) (Ev.call (Ev.glob rfl FN.p1) (EvL.cons (Ev.name rfl) EvL.nil) (FN.p F m hm6 okf) (by show n ≤ n'; omega) (fun _ _ _ _ => trivial)) (Cm.neD (Vs.tup Vs.nums Vs.nums) (Vs.tup Vs.nums Vs.nums) (by decide))) (by simp [okc])
  refine WP.keep [("total", .int script.sum), ("numbers", .list (zs num)), ("size", .int (m + 2 : Int)), ("code", .list (zs code))] ?_ ?_
  · intro p hp
    simp only [List.mem_cons, List.not_mem_nil, or_false] at hp
    rcases hp with rfl | rfl | rfl | rfl <;> rfl
  refine WP.set (x := "drawn") (d := .list (zs (drawnOf num script.sum))) (.inr ⟨rfl, L + 4, rfl, by show L + 4 ∈ [L, L + 4, L + 3, L + 2, L + 1]; simp⟩) (Ev.of_new (EvN.cast (EvX.bin (Ev.of_new (EvC.ev (EvC.plain (scope := _) num D.int (fun _ => true) (fun x => .int ((x.fdiv (m + 2)).fmod 7)) (compOkF rfl rfl (by decide) (fun x hx => by obtain rfl := List.mem_singleton.mp hx; rfl) (List.pairwise_singleton _ _) (by decide)) (.inl rfl) (Ev.name (d := .list (zs num)) rfl) ItD.list (by omega) fun L' x hx => ⟨rfl, fun _ => ?_⟩)))
    (Ev.of_new (EvN.list (EvL.cons (Ev.bin (Ev.name (d := .int script.sum) rfl) Ev.int (Op.mod (by decide))) EvL.nil) (by simp))) (OpN.concat Items.list Items.list ?_)) ?_)) ?_
  · exact Ev.bin (Ev.bin (Ev.name rfl) (Ev.name (d := .int (m + 2 : Int)) rfl) (Op.div (by omega) (by omega))) Ev.int (Op.mod (by decide))
  · rw [filter_tr]; simp; omega
  · rw [filter_tr, drawnOf, ← zs_append, hm, zs, zs, List.map_map]; rfl
  generalize hdr : drawnOf num script.sum = drawn at *
  have hdl : drawn.length = m + 1 := by rw [← hdr]; simp [drawnOf, hm]
  refine WP.setX (.inl rfl) (EvX.binX (R1 := fun d mu => d = .list (zs [(m + 1 : Int)]) ∧ mu = [(PL, T0), (P1, T0)]) (R2 := fun d1 mu1 d2 mu2 => ∃ Da p, Ok (m + 1) p ∧ d2 = .ref Da ∧ mu2 = [(Da, MO.list (permL (zs (nats (m + 1))) p)), (P1, T1), (PL, T1)])
    (R := fun d mu => ∃ La Da p, Ok (m + 1) p ∧ d = .ref La ∧ mu = [(La, MO.list (zs (lineOf m p))), (Da, MO.list (permL (zs (nats (m + 1))) p)), (P1, T1), (PL, T1)]) ?_ ?_ ?_) ?_
  · exact EvX.mono (EvX.of (Ev.of_new (EvN.list (EvL.cons (Ev.cast (Ev.bin (Ev.name (d := .int (m + 2 : Int)) rfl) Ev.int Op.sub) (show D.int _ = .int (m + 1 : Int) by congr 1; omega)) EvL.nil) (by simp)))) fun d mu ⟨h1, h2⟩ => ⟨h1, h2⟩
  · rintro d1 mu1 ⟨rfl, rfl⟩
    have hzl : (zs (nats (m + 1))).length = m + 1 := by simp [zs, nats]
    refine EvX.mono (EvX.keyed (R := Ok (m + 1)) (ds := zs (nats (m + 1))) (ans := fun i j => drawn.getD i 0 - drawn.getD j 0) (n := 0 + 1) (rest := []) rfl B.sorted.1 B.sorted.2 rfl hk ?_ (by rw [hzl]; omega) hgens H hL hLd rfl rfl (List.Perm.refl _) (by show 0 + 1 + 3 ≤ n'; omega) (by show A.depth + 1 ≤ 700; omega) (by show A.units + 3 ≤ 4000; omega) ?_ (fun h => by rw [hzl]; exact sort_ok (by omega)) (fun h => by rw [hzl]; exact Array.Perm.refl _) (fun p h => by rw [hzl]; simpa using h.size_eq)) ?_
    · exact Ev.of_new (EvN.cast (EvX.call1 (.inr ⟨_, rfl⟩) ⟨rfl, B.list.1, B.list.2, rfl⟩ (Ev.range ⟨rfl, B.range.1, B.range.2, rfl⟩ (Ev.cast (Ev.bin (Ev.name (d := .int (m + 2 : Int)) rfl) Ev.int Op.sub) (show D.int _ = .int ((m + 1 : Nat) : Int) by congr 1; omega))) (C1.listRange (by omega) (by omega))) (rints_nats _))
    · intro gl c' ctv
      refine ⟨LamP gl _ (L + 4) (.list (zs drawn)), LamP.mon, fun K F s X hF => ⟨hF, ?_⟩, fun i j d1 d2 h1 h2 => ?_⟩
      · obtain ⟨m0, hn0, hm0⟩ := X.loc
        obtain ⟨v, hv, hr⟩ := hm0 "drawn" _ rfl
        have hv' : ∃ c, (lwCx G A name qual doc pm cdv ct an f L n' PT).env.cells.lookup ("drawn" : Str) = some c ∧ s.heap.IsCell c (some v) := hv
        obtain ⟨c, q1, o, q2, q3⟩ := hv'
        obtain rfl : L + 4 = c := Option.some.inj q1
        exact ⟨o, v, full_of (X.priv (L + 4) (by show L + 4 ∈ [L, L + 4, L + 3, L + 2, L + 1]; simp)).1 List.not_mem_nil q2, q3, hr⟩
      · have hd : ∀ {i : Nat} {d : D}, (zs (nats (m + 1)))[i]? = some d → i < m + 1 ∧ d = .int i := fun {i d} h => by
          have hi := (List.getElem?_eq_some_iff.mp h).1
          rw [hzl] at hi
          refine ⟨hi, ?_⟩
          simp [zs, nats, hi] at h
          exact h.symm
        obtain ⟨hi, rfl⟩ := hd h1
        obtain ⟨hj, rfl⟩ := hd h2
        exact drawn_lam (by omega) (by omega)
    · rintro d mu ⟨Da, p, h1, h2, h3⟩
      exact ⟨Da, p, h1, h2, h3⟩
  · rintro d1 mu1 d2 mu2 ⟨rfl, rfl⟩ ⟨Da, p, hp, rfl, rfl⟩
    have hpl := permL_nats hp
    refine OpX.mono (OpN.concat (ds1 := zs [(m + 1 : Int)]) (ds2 := permL (zs (nats (m + 1))) p) Items.list (Items.mu (.head _)) ?_) ?_
    · rw [hpl]; have := hp.size_eq; simp [zs] at this ⊢; omega
    · rintro d mu ⟨La, rfl, rfl⟩
      exact ⟨La, Da, p, hp, rfl, by rw [show zs [(m + 1 : Int)] ++ permL (zs (nats (m + 1))) p = zs (lineOf m p) by rw [hpl, zs_append]; rfl]; rfl⟩
  rintro d mu ⟨La, Da, p, hp, rfl, rfl⟩
  have hll : (lineOf m p).length = m + 2 := by have := hp.size_eq; simp [lineOf] at this ⊢; omega
  have hlr : ∀ x ∈ lineOf m p, 0 ≤ x ∧ x.toNat < (lineOf m p).length := by
    intro x hx
    rw [hll]
    rcases List.mem_cons.mp hx with rfl | hx
    · omega
    · obtain ⟨i, hi, rfl⟩ := List.mem_map.mp hx
      have : i < m + 1 := by
        have := (hp.mem_iff (a := i)).mp (Array.mem_toList_iff.mp hi)
        simpa using this
      omega
  have okp := okp p hp
  have okq := okq p _ _ hp rfl rfl
  refine WP.drop (mu' := [(La, MO.list (zs (lineOf m p))), (P1, T1), (PL, T1)]) (.cons_cons _ (.cons _ (List.Sublist.refl _))) ?_
  refine WP.frz [("total", .int script.sum), ("size", .int (m + 2 : Int)), ("drawn", .list (zs drawn)), ("line", .list (zs (lineOf m p)))] (a := La) (ds := zs (lineOf m p)) (mu := [(P1, T1), (PL, T1)]) rfl ?_ ?_
  · intro p hp
    simp only [List.mem_cons, List.not_mem_nil, or_false] at hp
    rcases hp with rfl | rfl | rfl | rfl
    · exact .inl rfl
    · exact .inl rfl
    · exact .inl rfl
    · exact .inr ⟨rfl, rfl⟩
  refine WP.set (x := "parents") (d := .list (zs (fathersW (lineOf m p) drawn (script.sum.fdiv 7) (m + 1)))) (.inr ⟨rfl, L + 3, rfl, by show L + 3 ∈ [L, L + 4, L + 3, L + 2, L + 1]; simp⟩) (Ev.cast (Ev.call (Ev.glob rfl FN.h1) (EvL.cons (Ev.name rfl) (EvL.cons (Ev.name rfl) (EvL.cons (Ev.bin (Ev.name (d := .int script.sum) rfl) Ev.int (Op.div (by decide) (by decide))) EvL.nil))) (FN.h (lineOf m p) drawn (script.sum.fdiv 7) (by omega) (by omega) hlr (by omega)) hn (fun _ _ _ _ => trivial)) (by rw [hll]; rfl)) ?_
  generalize fathersW (lineOf m p) drawn (script.sum.fdiv 7) (m + 1) = F2 at *
  refine WP.set (x := "after") (d := .list (zs (mrg (toldRows F2)).1)) (.inl rfl) (Ev.call (Ev.glob rfl FN.o1) (EvL.cons (Ev.name rfl) EvL.nil) (FN.o F2 m hm6 okp) hn (fun _ _ _ _ => trivial)) ?_
  refine WP.setC rfl (EvC.plain (scope := _) ((mrg (toldRows F2)).1.take m) D.int (fun _ => true) (fun x => .int (F2.getD x.toNat 0)) (compOkF rfl rfl (by decide) (fun x hx => by obtain rfl := List.mem_singleton.mp hx; rfl) (List.pairwise_singleton _ _) (by decide)) (.inl rfl)
      (Ev.of_new (EvN.cast (EvN.upto (n := m) (Ev.name (d := .list (zs (mrg (toldRows F2)).1)) rfl) Items.list (Ev.cast (Ev.bin (Ev.name (d := .int (m + 2 : Int)) rfl) Ev.int Op.sub) (by congr 1; omega))) (zs_take _ _))) ItD.list (by have := okp.tlen; simp; omega) fun L' x hx => ⟨rfl, fun _ => Ev.idx (d := .list (zs F2)) (Ev.name rfl) Items.list (Ev.name rfl) (hidx F2 okp x hx).1 (zs_get _ (hidx F2 okp x hx).2)⟩) ?_
  rintro d mu ⟨aa, rfl, rfl⟩
  have eag : (((mrg (toldRows F2)).1.take m).filter fun _ => true).map (fun x => D.int (F2.getD x.toNat 0)) = zs (codeOf F2 (mrg (toldRows F2)).1 m) := by
    rw [filter_tr, codeOf, zs, List.map_map]; rfl
  rw [eag]
  refine WP.frz [("parents", .list (zs F2)), ("after", .list (zs (mrg (toldRows F2)).1)), ("again", .list (zs (codeOf F2 (mrg (toldRows F2)).1 m)))] (a := aa) (ds := zs (codeOf F2 (mrg (toldRows F2)).1 m)) (mu := [(P1, T1), (PL, T1)]) rfl ?_ ?_
  · intro p hp
    simp only [List.mem_cons, List.not_mem_nil, or_false] at hp
    rcases hp with rfl | rfl | rfl
    · exact .inl rfl
    · exact .inl rfl
    · exact .inr ⟨rfl, rfl⟩
  refine WP.ifs (b := false) ?_ (fun h => nomatch h) fun _ => WP.nil ?_
  · exact EvT.cast (EvT.cmp (Ev.tuple (EvL.cons (Ev.name (d := .list (zs (mrg (toldRows F2)).1)) rfl) (EvL.cons (Ev.name (d := .list (zs (codeOf F2 (mrg (toldRows F2)).1 m))) rfl) EvL.nil)) (by simp)) (Ev.call (Ev.glob rfl FN.p1) (EvL.cons (Ev.name rfl) EvL.nil) (FN.p F2 m hm6 okp) hn (fun _ _ _ _ => trivial)) (Cm.neD (Vs.tup Vs.nums Vs.nums) (Vs.tup Vs.nums Vs.nums) (by decide))) (by simp)
  exact WP.ret (Ev.cast (Ev.cmp (Ev.call (Ev.glob rfl FN.t1) (EvL.cons (Ev.name rfl) EvL.nil) (FN.t (codeOf F2 (mrg (toldRows F2)).1 m) (by rw [okq.1]; exact hm6) okq.2.1) hn (fun _ _ _ _ => trivial)) (Ev.name (d := .list (zs F2)) rfl) (Cm.eqD Vs.nums Vs.nums (by decide))) (by rw [okq.2.2]; simp)) ⟨rfl, rfl⟩
end
end Mine
end

section
set_option Elab.async false
set_option linter.unusedVariables false
set_option linter.unusedSimpArgs false
set_option maxRecDepth 100000
namespace Mine
open PySem PySem.W PyProof.Rows PySem.Calls
section
variable {G : Gx}
structure Lay2 (G : Gx) (mi T : Addr) : Prop where
  rg : ∃ om, RedG G mi om
  t : ∃ oT mm nT, G.hb.get? T = some oT ∧ oT.data = .seq #[mm] nT
  f3 : ∃ f name qual doc pm an cdv ct, G.mg "reduce" = some (.ref f) ∧ FnF G.hb.get? f (fdN 3 name qual (.ref T) .none doc pm an cdv ct)
  f4 : ∃ f name qual doc pm an cdv ct, G.mg "_c3_merge" = some (.ref f) ∧ FnF G.hb.get? f (fdN 4 name qual .none .none doc pm an cdv ct)
  f6 : ∃ f name qual doc pm an cdv ct, G.mg "_law_grow" = some (.ref f) ∧ FnF G.hb.get? f (fdN 6 name qual .none .none doc pm an cdv ct)
  f7 : ∃ f name qual doc pm an cdv ct, G.mg "_law_tree" = some (.ref f) ∧ FnF G.hb.get? f (fdN 7 name qual .none .none doc pm an cdv ct)
  f8 : ∃ f name qual doc pm an cdv ct, G.mg "_law_told" = some (.ref f) ∧ FnF G.hb.get? f (fdN 8 name qual .none .none doc pm an cdv ct)
  f9 : ∃ f name qual doc pm an cdv ct, G.mg "_law_plucked" = some (.ref f) ∧ FnF G.hb.get? f (fdN 9 name qual .none .none doc pm an cdv ct)
  f10 : ∃ f name qual doc pm an cdv ct, G.mg "_law_fathers" = some (.ref f) ∧ FnF G.hb.get? f (fdN 10 name qual .none .none doc pm an cdv ct)
theorem PT.mon : Pred.Mon PT := fun _ _ _ _ _ _ _ => trivial
theorem Lay2.fns {mi T : Addr} (Y : Lay2 G mi T) (B : Bt G) : ∃ ft fo fp fh, Fns G 10 ft fo fp fh := by
  obtain ⟨om, RG⟩ := Y.rg
  obtain ⟨oT, mm, nT, hT, hT2⟩ := Y.t
  obtain ⟨f3, _, _, _, _, _, _, _, m3, F3⟩ := Y.f3
  obtain ⟨f4, _, _, _, _, _, _, _, m4, F4⟩ := Y.f4
  obtain ⟨f6, _, _, _, _, _, _, _, m6, F6⟩ := Y.f6
  obtain ⟨f7, _, _, _, _, _, _, _, m7, F7⟩ := Y.f7
  obtain ⟨f8, _, _, _, _, _, _, _, m8, F8⟩ := Y.f8
  obtain ⟨f9, _, _, _, _, _, _, _, m9, F9⟩ := Y.f9
  obtain ⟨f10, _, _, _, _, _, _, _, m10, F10⟩ := Y.f10
  refine ⟨f7, f8, f9, f10, m7, m8, m9, m10, fun code hl ok => ?_, fun fs m hm ok => ?_, fun fs m hm ok => ?_, fun line drawn start h1 h2 h3 h4 => ?_⟩
  · exact tree_call (n := 7) PT.mon F7 F3 F6 RG hT hT2 B m3 m6 (by omega) ok
  · refine told_sem (n := 9) PT.mon F8 B m4 (by have := ok.len; omega) (by have := ok.len; omega) fun prs hp => ?_
    have hlen : prs.length = (toldRows fs).length := by rw [← hp, rowsOf, List.length_map]
    have hmem : ∀ p ∈ prs, p.2 ∈ toldRows fs := fun p hp' => by rw [← hp]; exact List.mem_map_of_mem hp'
    rw [← hp]
    refine (mrg_sem (n := 8) PT.mon F4 ?_ ?_ ?_ ?_)
    · rw [hlen]; simp [toldRows, singles, pairsF, nats]; have := ok.len; omega
    · intro p hp'
      have := hmem p hp'
      simp only [toldRows, singles, pairsF, List.mem_append, List.mem_map] at this
      rcases this with ⟨x, _, h⟩ | ⟨x, _, h⟩ <;> (rw [← h]; simp)
    · rw [hp]; exact ok.empt
    · rw [hp]; have := ok.tlen; omega
  · exact plucked_sem (n := 9) PT.mon F9 B (by have := ok.len; omega) (by have := ok.len; omega) ok.plk
  · exact fathers_sem (n := 9) PT.mon F10 B (by omega) h2 h3 h4
theorem law_sem {f fa c1 P1 cL PL mi T : Addr} {name qual : Str} {doc pm ct : Value} {an : Option Addr} {script : List Int} {ms : Str → Option Value} {docK pmK ctK : Value} {anK : Option Addr} (Y : Lay2 G mi T) (B : Bt G) (OK : LawOk script) (hlen : script.length ≤ 63) (hgens : G.s0.gens = #[])
    (hF : FnF G.hb.get? f (fdN 11 name qual .none .none doc pm an (.ref cL) ct)) (H : KPre G.hb G.mg G.mb ms fa c1 P1 docK pmK (.ref c1) ctK anK) (hk : G.mg "cmp_to_key" = some (.ref fa)) (hLd : CodeHd G.hb cL PL) :
    CallSem G 171 PT f [(PL, T0), (P1, T0)] [.list (zs script)] (fun d mu => d = .bool true ∧ mu = [(P1, T1), (PL, T1)]) := by
  obtain ⟨ft, fo, fp, fh, FN⟩ := Y.fns B
  refine call_fnC (n := 170) (fd := fdN 11 name qual .none .none doc pm an (.ref cL) ct) (ns := ["script"]) (body := bo 11) PT.mon ⟨rfl, fun s vs hb h => ?_, by decide, rfl, rfl, rfl, rfl, rfl⟩ (fun vs h => ?_) (fun K F hb _ => hF.mono hb) rfl (show ((cellsFrom 0 (sc 11).names []).map (·.1)).Nodup by decide) (show ∀ x ∈ (["script"] : List Str), (sc 11).names.lookup x = _ ∨ (sc 11).names.lookup x = _ by decide) fun A L hr => ?_
  · match vs, h with
    | [a], _ => exact BindsTo.of_eq rfl
  · match vs, h with
    | [a], _ => rfl
  · have h1 : A.depth + 3 * 171 + 20 < 1000 := hr.dp
    have h2 : A.units + 40 * 171 + 200 < 9900 := hr.un
    exact law_body B FN OK hlen (by omega) (by omega) hgens H hk rfl hLd (by omega) (by omega)
end
end Mine
end

section
set_option Elab.async false
set_option linter.unusedVariables false
set_option linter.unusedSimpArgs false
namespace Mine
inductive Pr (n : Nat) (f : Nat → Nat) : (Nat → Bool) → List Nat → List Nat → Prop
  | base {p : Nat → Bool} {x : Nat} (hx : x + 1 < n) (hp : ∀ y, y < n → (p y = true ↔ y = x ∨ y = n - 1)) (hf : f x = n - 1) : Pr n f p [] [x, n - 1]
  | step {p : Nat → Bool} {a l : Nat} {code told : List Nat} (hl : l + 1 < n) (pl : p l = true) (nl : l ∉ a :: code) (mn : ∀ y, y < l → p y = true → y ∈ a :: code) (pa : p a = true) (ha : a < n) (hf : f l = a)
      (t : Pr n f (fun y => p y && y != l) code told) : Pr n f p (a :: code) (l :: told)
section
variable {n : Nat} {f g r : Nat → Nat} {p : Nat → Bool} {code told : List Nat}
theorem Pr.root (h : Pr n f p code told) : 1 < n ∧ p (n - 1) = true := by
  induction h with
  | base hx hp hf => exact ⟨by omega, (hp _ (by omega)).mpr (.inr rfl)⟩
  | step hl pl nl mn pa ha hf t ih =>
    have := ih.2
    simp at this
    exact ⟨ih.1, this.1⟩
theorem Pr.fwd (h : Pr n f p code told) : ∀ y, y + 1 < n → p y = true → f y = n - 1 ∨ f y ∈ code := by
  induction h with
  | base hx hp hf =>
    intro y hy py
    rcases (hp y (by omega)).mp py with rfl | rfl
    · exact .inl hf
    · omega
  | @step p a l code told hl pl nl mn pa ha hf t ih =>
    intro y hy py
    by_cases e : y = l
    · subst e; exact .inr (by rw [hf]; exact .head _)
    · rcases ih y hy (by simp [py, e]) with q | q
      · exact .inl q
      · exact .inr (.tail _ q)
theorem Pr.bwd (h : Pr n f p code told) : (∀ z ∈ code, z < n ∧ p z = true ∧ ∃ y, y + 1 < n ∧ p y = true ∧ f y = z) ∧ ∃ y, y + 1 < n ∧ p y = true ∧ f y = n - 1 := by
  induction h with
  | @base p x hx hp hf => exact ⟨nofun, x, hx, (hp x (by omega)).mpr (.inl rfl), hf⟩
  | @step p a l code told hl pl nl mn pa ha hf t ih =>
    obtain ⟨h1, y0, y1, y2, y3⟩ := ih
    refine ⟨fun z hz => ?_, y0, y1, by simp at y2; exact y2.1, y3⟩
    rcases List.mem_cons.mp hz with rfl | hz
    · exact ⟨ha, pa, l, hl, pl, hf⟩
    · obtain ⟨q1, q2, y, q3, q4, q5⟩ := h1 z hz
      simp at q2 q4
      exact ⟨q1, q2.1, y, q3, q4.1, q5⟩
theorem Pr.closed (h : Pr n f p code told) (y : Nat) (hy : y + 1 < n) (py : p y = true) : p (f y) = true ∧ f y < n := by
  have hr := h.root
  rcases h.fwd y hy py with q | q
  · rw [q]; exact ⟨hr.2, by omega⟩
  · exact ⟨(h.bwd.1 _ q).2.1, (h.bwd.1 _ q).1⟩
structure Leaf (n : Nat) (f : Nat → Nat) (p : Nat → Bool) (l : Nat) : Prop where
  lt : l + 1 < n
  has : p l = true
  none : ∀ c, c + 1 < n → p c = true → f c ≠ l
  min : ∀ y, y < l → p y = true → ∃ c, c + 1 < n ∧ p c = true ∧ f c = y
theorem Pr.leaf {l : Nat} (h : Pr n f p code (l :: told)) : Leaf n f p l := by
  cases h with
  | base hx hp hf =>
    refine ⟨hx, (hp l (by omega)).mpr (.inl rfl), fun c hc pc => ?_, fun y hy py => ?_⟩
    · rcases (hp c (by omega)).mp pc with rfl | rfl
      · omega
      · omega
    · rcases (hp y (by omega)).mp py with rfl | rfl <;> omega
  | @step _ a _ code _ hl pl nl mn pa ha hf t =>
    have H := Pr.step hl pl nl mn pa ha hf t
    refine ⟨hl, pl, fun c hc pc e => ?_, fun y hy py => (H.bwd.1 y (mn y hy py)).2.2⟩
    rcases H.fwd c hc pc with q | q
    · omega
    · exact nl (e ▸ q)
theorem Pr.congr (h : Pr n f p code told) (e : ∀ y, y + 1 < n → p y = true → f y = g y) : Pr n g p code told := by
  induction h with
  | base hx hp hf => exact .base hx hp (by rw [← e _ hx ((hp _ (by omega)).mpr (.inl rfl))]; exact hf)
  | step hl pl nl mn pa ha hf t ih => exact .step hl pl nl mn pa ha (by rw [← e _ hl pl]; exact hf) (ih fun y hy py => e y hy (by simp at py; exact py.1))
theorem Pr.length (h : Pr n f p code told) : told.length = code.length + 2 := by
  induction h with
  | base => rfl
  | step _ _ _ _ _ _ _ _ ih => simp [ih]
theorem Pr.told_lt (h : Pr n f p code told) : ∀ x ∈ told, x < n := by
  induction h with
  | base hx => intro x hx; simp at hx; omega
  | step hl _ _ _ _ _ _ _ ih =>
    intro x hx
    rcases List.mem_cons.mp hx with rfl | hx
    · omega
    · exact ih x hx
theorem Pr.code_eq (h : Pr n f p code told) : (told.take code.length).map f = code := by
  induction h with
  | base => rfl
  | step _ _ _ _ _ _ hf _ ih => simp [ih, hf]
theorem count_erase {p : Nat → Bool} {l m : Nat} (hl : l < m) (pl : p l = true) : ((List.range m).filter fun y => p y && y != l).length + 1 = ((List.range m).filter p).length := by
  have nd : ((List.range m).filter p).Nodup := List.nodup_range.filter _
  have e : (List.range m).filter (fun y => p y && y != l) = ((List.range m).filter p).erase l := by
    rw [nd.erase_eq_filter, List.filter_filter]
    exact List.filter_congr fun y _ => Bool.and_comm _ _
  have hm : l ∈ (List.range m).filter p := by simp [hl, pl]
  rw [e, List.length_erase_of_mem hm]
  have := List.length_pos_of_mem hm
  omega
theorem max_rank (r : Nat → Nat) : ∀ (L : List Nat), L ≠ [] → ∃ x ∈ L, ∀ y ∈ L, r y ≤ r x
  | [], h => absurd rfl h
  | [x], _ => ⟨x, .head _, fun y hy => by simp at hy; subst hy; exact Nat.le_refl _⟩
  | x :: z :: L, _ => by
    obtain ⟨w, hw, h⟩ := max_rank r (z :: L) (by simp)
    by_cases e : r w ≤ r x
    · refine ⟨x, .head _, fun y hy => ?_⟩
      rcases List.mem_cons.mp hy with rfl | hy
      · exact Nat.le_refl _
      · exact Nat.le_trans (h y hy) e
    · refine ⟨w, .tail _ hw, fun y hy => ?_⟩
      rcases List.mem_cons.mp hy with rfl | hy
      · omega
      · exact h y hy
theorem nodup_sub : ∀ {L M : List Nat}, L.Nodup → (∀ x ∈ L, x ∈ M) → L.length ≤ M.length
  | [], _, _, _ => Nat.zero_le _
  | x :: L, M, nd, h => by
    have hx := h x (.head _)
    have := nodup_sub (L := L) (M := M.erase x) (List.nodup_cons.mp nd).2 fun y hy => (List.mem_erase_of_ne (by rintro rfl; exact (List.nodup_cons.mp nd).1 hy)).mpr (h y (.tail _ hy))
    rw [List.length_erase_of_mem hx] at this
    have := List.length_pos_of_mem hx
    simp; omega
theorem one_left {p : Nat → Bool} (hn : 1 < n) (pr : p (n - 1) = true) (h : ((List.range (n - 1)).filter p).length = 1) : ∃ x, x + 1 < n ∧ ∀ y, y < n → (p y = true ↔ y = x ∨ y = n - 1) := by
  match hL : (List.range (n - 1)).filter p, h with
  | [x], _ =>
    have hx : x ∈ (List.range (n - 1)).filter p := by rw [hL]; exact .head _
    simp at hx
    refine ⟨x, by omega, fun y hy => ⟨fun py => ?_, ?_⟩⟩
    · by_cases e : y = n - 1
      · exact .inr e
      · have : y ∈ (List.range (n - 1)).filter p := by simp [py]; omega
        rw [hL] at this
        exact .inl (List.mem_singleton.mp this)
    · rintro (rfl | rfl)
      · exact hx.2
      · exact pr
theorem Pr.ofTree (hn : 1 < n) (hr : ∀ y, y + 1 < n → f y < n ∧ r (f y) < r y) : ∀ (k : Nat) (p : Nat → Bool), ((List.range (n - 1)).filter p).length = k + 1 → p (n - 1) = true → (∀ y, y + 1 < n → p y = true → p (f y) = true) →
    ∃ code told, Pr n f p code told ∧ code.length = k
  | 0, p, hk, pr, cl => by
    obtain ⟨x, hx, hp⟩ := one_left hn pr hk
    have px := (hp x (by omega)).mpr (.inl rfl)
    have h1 := hr x hx
    rcases (hp _ h1.1).mp (cl x hx px) with q | q
    · rw [q] at h1; omega
    · exact ⟨[], _, .base hx hp q, rfl⟩
  | k + 1, p, hk, pr, cl => by
    obtain ⟨x, hx, mx⟩ := max_rank r ((List.range (n - 1)).filter p) (by intro e; rw [e] at hk; simp at hk)
    simp only [List.mem_filter, List.mem_range] at hx mx
    let ch : Nat → Bool := fun x => p x && (List.range (n - 1)).all fun c => !(p c && f c == x)
    have hch : ∀ x, ch x = true ↔ p x = true ∧ ∀ c, c + 1 < n → p c = true → f c ≠ x := by
      intro x
      simp only [ch, Bool.and_eq_true, List.all_eq_true, List.mem_range, Bool.not_eq_true', Bool.and_eq_false_iff]
      refine ⟨fun ⟨h1, h2⟩ => ⟨h1, fun c hc pc e => ?_⟩, fun ⟨h1, h2⟩ => ⟨h1, fun c hc => ?_⟩⟩
      · rcases h2 c (by omega) with q | q
        · rw [pc] at q; cases q
        · simp [e] at q
      · cases q : p c
        · exact .inl rfl
        · exact .inr (by simp; exact h2 c (by omega) q)
    have cx : ch x = true := (hch x).mpr ⟨hx.2, fun c hc pc e => by
      have h1 := hr c hc
      have h2 := mx c ⟨by omega, pc⟩
      rw [e] at h1; omega⟩
    obtain ⟨l, hl⟩ : ∃ l, (List.range (n - 1)).find? ch = some l := by
      cases q : (List.range (n - 1)).find? ch with
      | some l => exact ⟨l, rfl⟩
      | none =>
        have := List.find?_eq_none.mp q x (List.mem_range.mpr hx.1)
        exact absurd cx this
    obtain ⟨l1, l2, l3⟩ := List.find?_range_eq_some.mp hl
    have l2 := List.mem_range.mp l2
    obtain ⟨pl, lc⟩ := (hch l).mp l1
    obtain ⟨code, told, h, hc⟩ := Pr.ofTree hn hr k (fun y => p y && y != l) (by have := count_erase (p := p) l2 pl; omega) (by simp [pr]; omega) (fun y hy py => by
      simp at py ⊢
      exact ⟨cl y hy py.1, lc y hy py.1⟩)
    have hfl := hr l (by omega)
    refine ⟨f l :: code, l :: told, .step (by omega) pl ?_ ?_ (cl l (by omega) pl) hfl.1 rfl h, by simp [hc]⟩
    · intro hm
      rcases List.mem_cons.mp hm with e | hm
      · rw [← e] at hfl; omega
      · have := (h.bwd.1 l hm).2.1
        simp at this
    · intro y hy py
      have := l3 y hy
      simp only [Bool.not_eq_true'] at this
      have hn : ¬ ∀ c, c + 1 < n → p c = true → f c ≠ y := fun q => by rw [(hch y).mpr ⟨py, q⟩] at this; cases this
      have : ∃ c, c + 1 < n ∧ p c = true ∧ f c = y := Classical.byContradiction fun q => hn fun c hc pc e => q ⟨c, hc, pc, e⟩
      obtain ⟨c, hc, pc, rfl⟩ := this
      by_cases e : c = l
      · subst e; exact .head _
      · rcases h.fwd c hc (by simp [pc, e]) with q | q
        · omega
        · exact .tail _ q
theorem Pr.ofCode (hn : 1 < n) : ∀ (code : List Nat) (p : Nat → Bool), (∀ a ∈ code, a < n ∧ p a = true) → p (n - 1) = true → ((List.range (n - 1)).filter p).length = code.length + 1 → ∃ f told, Pr n f p code told
  | [], p, hc, pr, hk => by
    obtain ⟨x, hx, hp⟩ := one_left hn pr hk
    exact ⟨fun _ => n - 1, _, .base hx hp rfl⟩
  | a :: code, p, hc, pr, hk => by
    let ch : Nat → Bool := fun x => p x && !decide (x ∈ a :: code)
    obtain ⟨l, hl⟩ : ∃ l, (List.range (n - 1)).find? ch = some l := by
      cases q : (List.range (n - 1)).find? ch with
      | some l => exact ⟨l, rfl⟩
      | none =>
        have h1 := List.find?_eq_none.mp q
        have := nodup_sub (L := (List.range (n - 1)).filter p) (M := a :: code) (List.nodup_range.filter _) fun x hx => by
          simp only [List.mem_filter] at hx
          have := h1 x hx.1
          simp only [ch, hx.2, Bool.true_and, Bool.not_eq_true', decide_eq_false_iff_not] at this
          exact Classical.byContradiction this
        rw [hk] at this
        simp at this
        omega
    obtain ⟨l1, l2, l3⟩ := List.find?_range_eq_some.mp hl
    have l2 := List.mem_range.mp l2
    simp only [ch, Bool.and_eq_true, Bool.not_eq_true', decide_eq_false_iff_not] at l1
    obtain ⟨pl, nl⟩ := l1
    obtain ⟨f, told, h⟩ := Pr.ofCode hn code (fun y => p y && y != l) (fun z hz => ⟨(hc z (.tail _ hz)).1, by
      have h1 := (hc z (.tail _ hz)).2
      simp only [h1, Bool.true_and, bne_iff_ne]
      rintro rfl
      exact nl (.tail _ hz)⟩) (by simp [pr]; omega) (by have := count_erase (p := p) l2 pl; simp at hk; omega)
    refine ⟨fun y => if y = l then a else f y, l :: told, .step (by omega) pl nl (fun y hy py => ?_) (hc a (.head _)).2 (hc a (.head _)).1 (by simp) (h.congr fun y _ py => ?_)⟩
    · have := l3 y hy
      simp only [ch, py, Bool.true_and, Bool.not_not, decide_eq_true_eq] at this
      exact this
    · simp at py
      simp [py.2]
end
end Mine
end

section
set_option Elab.async false
set_option linter.unusedVariables false
set_option linter.unusedSimpArgs false
namespace Mine
section
variable {n : Nat} {f : Nat → Nat} {p : Nat → Bool} {code told : List Nat}
def rowA (p : Nat → Bool) (x : Nat) : List Int := if p x then [(x : Int)] else []
def rowB (f : Nat → Nat) (p : Nat → Bool) (y : Nat) : List Int := if p y then [(y : Int), (f y : Int)] else if p (f y) then [(f y : Int)] else []
def rowsP (n : Nat) (f : Nat → Nat) (p : Nat → Bool) : List (List Int) := (List.range n).map (rowA p) ++ (List.range (n - 1)).map (rowB f p)
def less (p : Nat → Bool) (l : Nat) : Nat → Bool := fun y => p y && y != l
theorem free_row {x : Nat} : free (rowsP n f p) (x : Int) = true ↔ ∀ c, c + 1 < n → p c = true → f c ≠ x := by
  unfold free rowsP
  rw [List.all_eq_true]
  constructor
  · intro h c hc pc e
    have := h (rowB f p c) (List.mem_append_right _ (List.mem_map_of_mem (by simp; omega)))
    simp [rowB, pc, e] at this
  · intro h r hr
    rcases List.mem_append.mp hr with hr | hr
    · obtain ⟨y, hy, rfl⟩ := List.mem_map.mp hr
      unfold rowA; split <;> simp
    · obtain ⟨y, hy, rfl⟩ := List.mem_map.mp hr
      simp at hy
      unfold rowB
      split
      · rename_i q
        have := h y (by omega) q
        simp; omega
      · split <;> simp
theorem heads_A (m : Nat) : (((List.range m).map (rowA p)).filterMap List.head?) = ((List.range m).filter p).map fun x : Nat => (x : Int) := by
  generalize List.range m = L
  induction L with
  | nil => rfl
  | cons x L ih =>
    rw [List.map_cons, List.filterMap_cons, List.filter_cons]
    unfold rowA
    cases p x <;> simp [← ih] <;> rfl
theorem pick_rows {l : Nat} (hl : l < n) (pl : p l = true) (ch : ∀ c, c + 1 < n → p c = true → f c ≠ l) (mn : ∀ y, y < l → p y = true → ∃ c, c + 1 < n ∧ p c = true ∧ f c = y) : pick (rowsP n f p) = some (l : Int) := by
  unfold pick
  rw [List.find?_eq_some_iff_append]
  refine ⟨free_row.mpr ch, ((List.range l).filter p).map fun x : Nat => (x : Int), ((((List.range n).drop (l + 1)).filter p).map fun x : Nat => (x : Int)) ++ ((List.range (n - 1)).map (rowB f p)).filterMap List.head?, ?_, ?_⟩
  · unfold rowsP
    rw [List.filterMap_append, heads_A, ← List.cons_append, ← List.append_assoc]
    congr 1
    have e : List.range n = List.range l ++ l :: (List.range n).drop (l + 1) := by
      have h1 : (List.range n).take l = List.range l := by rw [List.take_range]; congr 1; omega
      have h2 : (List.range n).drop l = l :: (List.range n).drop (l + 1) := by
        rw [List.drop_eq_getElem_cons (by simpa using hl)]; simp
      rw [← h1, ← h2, List.take_append_drop]
    conv => lhs; rw [e]
    rw [List.filter_append, List.filter_cons, pl, List.map_append]
    simp
  · intro a ha
    obtain ⟨y, hy, rfl⟩ := List.mem_map.mp ha
    simp at hy
    obtain ⟨c, h1, h2, h3⟩ := mn y hy.1 hy.2
    cases q : free (rowsP n f p) (y : Int)
    · rfl
    · exact absurd h3 (free_row.mp q c h1 h2)
theorem strip_rows {l : Nat} (hl : l < n) (pl : p l = true) (ch : ∀ c, c + 1 < n → p c = true → f c ≠ l) (cl : l + 1 < n → p (f l) = true) : strip (l : Int) (rowsP n f p) = rowsP n f (less p l) := by
  unfold strip rowsP
  rw [List.map_append, List.map_map, List.map_map]
  congr 1
  · refine List.map_congr_left fun x hx => ?_
    simp only [Function.comp, rowA, strip1, less]
    by_cases e : x = l
    · subst e; simp [pl]
    · have : ¬ (x : Int) = (l : Int) := by omega
      by_cases q : p x = true <;> simp [e, this, q]
  · refine List.map_congr_left fun y hy => ?_
    have hy : y + 1 < n := by simp at hy; omega
    simp only [Function.comp, rowB, strip1, less]
    by_cases e : y = l
    · subst e
      have h1 := ch y hy pl
      simp [pl, cl hy, h1]
    · have h2 : ¬ (y : Int) = (l : Int) := by omega
      by_cases q : p y = true
      · simp [q, e, h2]
      · by_cases e2 : f y = l
        · simp [q, e2, pl]
        · have : ¬ (f y : Int) = (l : Int) := by omega
          by_cases q2 : p (f y) = true <;> simp [q, q2, e2, this]
theorem rows_empty (h : ∀ y, y < n → p y = false) (hf : ∀ y, y + 1 < n → f y < n) : ∀ r ∈ rowsP n f p, r = [] := by
  intro r hr
  rcases List.mem_append.mp hr with hr | hr
  · obtain ⟨y, hy, rfl⟩ := List.mem_map.mp hr
    simp [rowA, h y (by simpa using hy)]
  · obtain ⟨y, hy, rfl⟩ := List.mem_map.mp hr
    have hy : y + 1 < n := by simp at hy; omega
    simp [rowB, h y (by omega), h _ (hf y hy)]
theorem mrg_empty {rows : List (List Int)} (h : ∀ r ∈ rows, r = []) : mrg rows = ([], rows) := by
  refine mrg_none ?_
  have : rows.filterMap List.head? = [] := by
    rw [List.filterMap_eq_nil_iff]
    intro r hr
    rw [h r hr]; rfl
  simp [pick, this]
theorem Pr.merged (h : Pr n f p code told) (hf : ∀ y, y + 1 < n → f y < n) : (mrg (rowsP n f p)).1 = told.map (fun x : Nat => (x : Int)) ∧ ∀ r ∈ (mrg (rowsP n f p)).2, r = [] := by
  induction h with
  | @base p x hx hp hfx =>
    have H := Pr.base hx hp hfx
    have L := H.leaf
    rw [mrg_some (pick_rows (by omega) L.has L.none L.min), strip_rows (by omega) L.has L.none fun h => (H.closed _ h L.has).1]
    have pr : less p x (n - 1) = true := by
      simp [less, H.root.2]; omega
    have only : ∀ y, y < n → less p x y = true → y = n - 1 := fun y hy q => by
      simp [less] at q
      rcases (hp y hy).mp q.1 with e | e
      · exact absurd e q.2
      · exact e
    have hc : ∀ c, c + 1 < n → less p x c = true → f c ≠ n - 1 := fun c hc q => by
      have := only c (by omega) q
      omega
    rw [mrg_some (pick_rows (l := n - 1) (by omega) pr hc fun y hy q => by have := only y (by omega) q; omega), strip_rows (by omega) pr hc fun h => by omega]
    have hall : ∀ y, y < n → less (less p x) (n - 1) y = false := fun y hy => by
      cases q : less (less p x) (n - 1) y
      · rfl
      · have q1 : less p x y = true ∧ y ≠ n - 1 := by rw [less] at q; simpa using q
        exact absurd (only y hy q1.1) q1.2
    rw [mrg_empty (rows_empty hall hf)]
    exact ⟨rfl, rows_empty hall hf⟩
  | @step p a l code told hl pl nl mn pa ha hfl t ih =>
    have H := Pr.step hl pl nl mn pa ha hfl t
    have L := H.leaf
    rw [mrg_some (pick_rows (by omega) L.has L.none L.min), strip_rows (by omega) L.has L.none fun h => (H.closed _ h L.has).1]
    refine ⟨?_, ih.2⟩
    show _ :: _ = _ :: _
    congr 1
    exact ih.1
/-! plucking by the edges -/
def esP (f : Nat → Nat) (L : List Nat) : List (List Int) := L.map fun y : Nat => [(y : Int), (f y : Int)]
theorem count_es (x : Nat) : ∀ (L : List Nat), (esP f L).flatten.count (x : Int) = L.count x + (L.map f).count x
  | [] => rfl
  | y :: L => by
    have ih := count_es x L
    have cn : ∀ (a : Nat), ((a : Int) == (x : Int)) = (a == x) := fun a => by
      by_cases e : a = x
      · subst e; rw [beq_self_eq_true, beq_self_eq_true]
      · have : ¬ (a : Int) = (x : Int) := by omega
        rw [beq_eq_false_iff_ne.mpr this, beq_eq_false_iff_ne.mpr e]
    show List.count (x : Int) ((y : Int) :: (f y : Int) :: (esP f L).flatten) = _
    rw [List.map_cons, List.count_cons, List.count_cons, List.count_cons, List.count_cons, ih, cn, cn]
    omega
theorem mem_ones {es : List (List Int)} {x : Int} : x ∈ ones es ↔ es.flatten.count x = 1 := by
  unfold ones
  rw [List.mem_filter]
  refine ⟨fun ⟨h1, h2⟩ => by have := eq_of_beq h2; omega, fun h => ⟨List.count_pos_iff.mp (by omega), by simp [h]⟩⟩
theorem count_one {L : List Nat} (nd : L.Nodup) {x : Nat} (h : x ∈ L) : L.count x = 1 := by
  have h1 := List.nodup_iff_count.mp nd x
  have := List.count_pos_iff.mpr h
  omega
theorem two_long {L : List Nat} {x y : Nat} (h : x ∈ L) (h2 : y ∈ L) (e : x ≠ y) : 1 < L.length := by
  match L, h, h2 with
  | [a], h, h2 => simp at h h2; omega
  | a :: b :: L, _, _ => simp
theorem Pr.plk (h : Pr n f p code told) : Plk (esP f ((List.range (n - 1)).filter p)) (told.map (fun x : Nat => (x : Int))) (code.map (fun x : Nat => (x : Int))) := by
  induction h with
  | @base p x hx hp hfx =>
    have e : (List.range (n - 1)).filter p = [x] := by
      have nd : ((List.range (n - 1)).filter p).Nodup := List.nodup_range.filter _
      have hm : ∀ y, y ∈ (List.range (n - 1)).filter p ↔ y = x := fun y => by
        simp only [List.mem_filter, List.mem_range]
        refine ⟨fun ⟨h1, h2⟩ => ?_, ?_⟩
        · rcases (hp y (by omega)).mp h2 with q | q
          · exact q
          · omega
        · rintro rfl
          exact ⟨by omega, (hp y (by omega)).mpr (.inl rfl)⟩
      match hL : (List.range (n - 1)).filter p with
      | [] => have := (hm x).mpr rfl; rw [hL] at this; cases this
      | [y] => rw [(hm y).mp (by rw [hL]; exact .head _)]
      | y :: z :: L =>
        rw [hL] at nd hm
        have h1 := (hm y).mp (.head _)
        have h2 := (hm z).mp (.tail _ (.head _))
        simp [h1, h2] at nd
    rw [e]
    show Plk [[(x : Int), (f x : Int)]] [(x : Int), ((n - 1 : Nat) : Int)] []
    rw [hfx]
    exact .last (.inl ⟨rfl, rfl, by omega⟩)
  | @step p a l code told hl pl nl mn pa ha hfl t ih =>
    have H := Pr.step hl pl nl mn pa ha hfl t
    have Lf := H.leaf
    have nd : ((List.range (n - 1)).filter p).Nodup := List.nodup_range.filter _
    have hm : ∀ y, y ∈ (List.range (n - 1)).filter p ↔ y + 1 < n ∧ p y = true := fun y => by
      simp only [List.mem_filter, List.mem_range]
      refine ⟨fun h => ⟨by omega, h.2⟩, fun h => ⟨by omega, h.2⟩⟩
    have hlm := (hm l).mpr ⟨hl, pl⟩
    have hin : ∀ y, y ∈ (List.range (n - 1)).filter p → (decide ((l : Int) ∈ [(y : Int), (f y : Int)]) = true ↔ y = l) := fun y hy => by
      obtain ⟨h1, h2⟩ := (hm y).mp hy
      have := Lf.none y h1 h2
      simp
      omega
    obtain ⟨_, z, z1, z2, z3⟩ := t.bwd
    simp at z2
    have hc : (((a : Nat) : Int)) = (l : Int) + (f l : Int) - l := by rw [hfl]; omega
    have step := Plk.step (es := esP f ((List.range (n - 1)).filter p)) (l := (l : Int)) (a := (l : Int)) (b := (f l : Int)) (ps := told.map (fun x : Nat => (x : Int))) (cs := code.map (fun x : Nat => (x : Int)))
      (by rw [esP, List.length_map]; exact two_long hlm ((hm z).mpr ⟨z1, z2.1⟩) (fun q => z2.2 q.symm))
      (fun e he => by obtain ⟨y, _, rfl⟩ := List.mem_map.mp he; rfl)
      (by
        rw [mem_ones, count_es, count_one nd hlm, List.count_eq_zero.mpr]
        intro q
        obtain ⟨y, hy, e⟩ := List.mem_map.mp q
        obtain ⟨h1, h2⟩ := (hm y).mp hy
        exact Lf.none y h1 h2 e)
      (by
        intro x hx
        rw [mem_ones] at hx
        have hx' : x ∈ (esP f ((List.range (n - 1)).filter p)).flatten := List.count_pos_iff.mp (by omega)
        obtain ⟨e, he, hxe⟩ := List.mem_flatten.mp hx'
        obtain ⟨y, hy, rfl⟩ := List.mem_map.mp he
        obtain ⟨h1, h2⟩ := (hm y).mp hy
        obtain ⟨k, rfl, pk⟩ : ∃ k : Nat, x = (k : Int) ∧ p k = true := by
          simp at hxe
          rcases hxe with e | e
          · exact ⟨y, e, h2⟩
          · exact ⟨f y, e, (H.closed y h1 h2).1⟩
        refine Classical.byContradiction fun hlt => ?_
        have hkl : k < l := by omega
        obtain ⟨c, c1, c2, c3⟩ := Lf.min k hkl pk
        rw [count_es, count_one nd ((hm k).mpr ⟨by omega, pk⟩)] at hx
        have : k ∈ ((List.range (n - 1)).filter p).map f := List.mem_map.mpr ⟨c, (hm c).mpr ⟨c1, c2⟩, c3⟩
        have := List.count_pos_iff.mpr this
        omega)
      (by
        have : ((List.range (n - 1)).filter p).find? (fun y : Nat => decide ((l : Int) ∈ [(y : Int), (f y : Int)])) = some l := by
          cases q : ((List.range (n - 1)).filter p).find? (fun y : Nat => decide ((l : Int) ∈ [(y : Int), (f y : Int)])) with
          | none => exact absurd ((hin l hlm).mpr rfl) (List.find?_eq_none.mp q l hlm)
          | some y =>
            have h1 := List.find?_some (p := fun y : Nat => decide ((l : Int) ∈ [(y : Int), (f y : Int)])) q
            rw [(hin y (List.mem_of_find?_eq_some q)).mp h1]
        unfold esP
        rw [List.find?_map]
        show Option.map _ (List.find? (fun y : Nat => decide ((l : Int) ∈ [(y : Int), (f y : Int)])) _) = _
        rw [this]; rfl)
      (by
        have e : (esP f ((List.range (n - 1)).filter p)).filter (fun e => !decide ((l : Int) ∈ e)) = esP f ((List.range (n - 1)).filter fun y => p y && y != l) := by
          unfold esP
          rw [List.filter_map]
          congr 1
          show (List.filter p (List.range (n - 1))).filter (fun y : Nat => !decide ((l : Int) ∈ [(y : Int), (f y : Int)])) = _
          rw [List.filter_filter]
          refine List.filter_congr fun y hy => ?_
          have hy : y + 1 < n := by simp at hy; omega
          by_cases py : p y = true
          · have h1 := hin y ((hm y).mpr ⟨hy, py⟩)
            by_cases e : y = l
            · rw [h1.mpr e]; simp [e]
            · have : decide ((l : Int) ∈ [(y : Int), (f y : Int)]) = false := by
                cases q : decide ((l : Int) ∈ [(y : Int), (f y : Int)])
                · rfl
                · exact absurd (h1.mp q) e
              rw [this]; simp [py, e]
          · simp [py]
        rw [e]; exact ih)
    rw [← hc] at step
    exact step
end
end Mine
end

section
set_option Elab.async false
set_option linter.unusedVariables false
set_option linter.unusedSimpArgs false
namespace Mine
section
variable {n : Nat} {f : Nat → Nat} {p : Nat → Bool} {code told : List Nat}
abbrev ups (l : List Nat) : List Int := l.map fun x : Nat => (x : Int)
def accF (n : Nat) (f : Nat → Nat) (p : Nat → Bool) : List Int := (List.range n).map fun x => if p x then ((n - 1 : Nat) : Int) else (f x : Int)
def accN (n : Nat) (p : Nat → Bool) (code : List Nat) : List Int := (List.range n).map fun x => if p x then ((code.count x : Nat) : Int) else -1
def fsP (n : Nat) (f : Nat → Nat) : List Int := (List.range n).map fun x => (f x : Int)
theorem accN_at {x : Nat} (h : x < n) : (accN n p code)[x]? = some (if p x then ((code.count x : Nat) : Int) else -1) := by simp [accN, h]
theorem leaf_acc {l a : Nat} (hl : l + 1 < n) (pl : p l = true) (nl : l ∉ a :: code) (mn : ∀ y, y < l → p y = true → y ∈ a :: code) : leafOf (accN n p (a :: code)) = l := by
  unfold leafOf
  rw [List.findIdx_eq (by simp [accN]; omega)]
  refine ⟨?_, fun j hj => ?_⟩
  · have : List.count l (a :: code) = 0 := List.count_eq_zero.mpr nl
    simp only [accN, List.getElem_map, List.getElem_range, pl, if_true, this]
    rfl
  · simp only [accN, List.getElem_map, List.getElem_range]
    by_cases q : p j = true
    · have := List.count_pos_iff.mpr (mn j hj q)
      simp only [q, if_true]
      rw [beq_eq_false_iff_ne]; omega
    · simp [q]
theorem zero_acc {l a : Nat} (hl : l + 1 < n) (pl : p l = true) (nl : l ∉ a :: code) : (0 : Int) ∈ accN n p (a :: code) := by
  refine List.mem_map.mpr ⟨l, by simp; omega, ?_⟩
  rw [if_pos pl, List.count_eq_zero.mpr nl]; rfl
theorem growF_acc {l a : Nat} (hl : l + 1 < n) (pl : p l = true) (hf : f l = a) : growF (accF n f p) l (a : Int) = accF n f (fun y => p y && y != l) := by
  have hln : l < (accF n f p).length := by simp [accF]; omega
  have e : growF (accF n f p) l (a : Int) = (accF n f p).set l (a : Int) := by
    unfold growF
    rw [List.set_eq_take_append_cons_drop, if_pos hln]
    simp
  rw [e]
  refine List.ext_getElem (by simp [accF]) fun i h1 h2 => ?_
  rw [List.getElem_set]
  simp only [accF, List.getElem_map, List.getElem_range]
  by_cases q : l = i
  · subst q; simp [hf]
  · simp [q, Ne.symm q]
theorem growN_acc {l a : Nat} (hl : l + 1 < n) (pl : p l = true) (nl : l ∉ a :: code) (pa : p a = true) (ha : a < n) : growN (accN n p (a :: code)) l (a : Int) = accN n (fun y => p y && y != l) code := by
  have hal : a ≠ l := fun e => nl (e ▸ .head _)
  have g : ((accN n p (a :: code)).set l (-1)).getD ((a : Int)).toNat 0 = ((code.count a + 1 : Nat) : Int) := by
    rw [Int.toNat_natCast, List.getD_eq_getElem?_getD, List.getElem?_set_ne hal.symm, accN_at ha]
    simp [pa]
  unfold growN
  rw [g]
  simp only [Int.toNat_natCast]
  refine List.ext_getElem (by simp [accN]) fun i h1 h2 => ?_
  rw [List.getElem_set]
  have hi : i < n := by simpa [accN] using h2
  by_cases q : a = i
  · subst q
    simp [accN, pa, hal]
  · rw [if_neg q, List.getElem_set]
    by_cases q2 : l = i
    · subst q2; simp [accN]
    · rw [if_neg q2]
      simp only [accN, List.getElem_map, List.getElem_range]
      by_cases q3 : p i = true
      · simp [q3, Ne.symm q2, List.count_cons, q]
      · simp [q3]
theorem Pr.acc {full : List Int} (hn : full.length + 2 = n) (h : Pr n f p code told) : ∀ pre : List Int, full = pre ++ ups code → treeAcc full pre.length = (accF n f p, accN n p code) →
    (∀ k, pre.length ≤ k → k < full.length → (0 : Int) ∈ (treeAcc full k).2) ∧ (f (n - 1) = n - 1 → (treeAcc full full.length).1 = fsP n f) := by
  induction h with
  | @base p x hx hp hf =>
    intro pre e q
    simp at e
    subst e
    refine ⟨fun k h1 h2 => by omega, fun hr => ?_⟩
    rw [q]
    refine List.map_congr_left fun y hy => ?_
    have hy : y < n := by simpa using hy
    by_cases py : p y = true
    · rw [if_pos py]
      rcases (hp y hy).mp py with e | e
      · rw [e, hf]
      · rw [e, hr]
    · rw [if_neg py]
  | @step p a l code told hl pl nl mn pa ha hf t ih =>
    intro pre e q
    have e2 : full = (pre ++ [(a : Int)]) ++ ups code := by rw [e]; simp
    have hk : full.getD pre.length 0 = (a : Int) := by rw [e]; simp [List.getD_eq_getElem?_getD]
    have st : treeAcc full (pre ++ [(a : Int)]).length = (accF n f (fun y => p y && y != l), accN n (fun y => p y && y != l) code) := by
      rw [List.length_append]
      show (growF (treeAcc full pre.length).1 (leafOf (treeAcc full pre.length).2) (full.getD pre.length 0), growN (treeAcc full pre.length).2 (leafOf (treeAcc full pre.length).2) (full.getD pre.length 0)) = _
      rw [q, hk, leaf_acc hl pl nl mn, growF_acc hl pl hf, growN_acc hl pl nl pa ha]
    obtain ⟨h1, h2⟩ := ih (pre ++ [(a : Int)]) e2 st
    refine ⟨fun k k1 k2 => ?_, h2⟩
    by_cases ek : k = pre.length
    · subst ek; rw [q]; exact zero_acc hl pl nl
    · exact h1 k (by simp; omega) k2
theorem count_ups (x : Nat) : ∀ code : List Nat, (ups code).count (x : Int) = code.count x
  | [] => rfl
  | y :: L => by
    have cn : ((y : Int) == (x : Int)) = (y == x) := by
      by_cases e : y = x
      · subst e; rw [beq_self_eq_true, beq_self_eq_true]
      · have : ¬ (y : Int) = (x : Int) := by omega
        rw [beq_eq_false_iff_ne.mpr this, beq_eq_false_iff_ne.mpr e]
    show List.count (x : Int) ((y : Int) :: ups L) = _
    rw [List.count_cons, List.count_cons, count_ups x L, cn]
theorem Pr.tree (h : Pr n f (fun _ => true) code told) (hn : code.length + 2 = n) (hr : f (n - 1) = n - 1) : TreeOk (ups code) ∧ treeOf (ups code) = fsP n f := by
  have hl : (ups code).length = code.length := List.length_map ..
  have st : treeAcc (ups code) 0 = (accF n f (fun _ => true), accN n (fun _ => true) code) := by
    unfold treeAcc accF accN nats
    rw [hl, hn, List.map_map]
    refine Prod.ext ?_ ?_
    · show List.replicate n ((code.length : Int) + 1) = List.map (fun _ => ((n - 1 : Nat) : Int)) _
      rw [List.map_const', List.length_range]
      congr 1
      omega
    · exact List.map_congr_left fun x _ => by simp [count_ups]
  obtain ⟨h1, h2⟩ := h.acc (full := ups code) (by omega) [] rfl st
  refine ⟨⟨fun a ha => ?_, fun k hk => h1 k (Nat.zero_le _) hk⟩, h2 hr⟩
  obtain ⟨x, hx, rfl⟩ := List.mem_map.mp ha
  have := (h.bwd.1 x hx).1
  refine ⟨Int.natCast_nonneg _, ?_⟩
  rw [Int.toNat_natCast, hl]; omega
theorem told_rows : toldRows (fsP n f) = rowsP n f (fun _ => true) := by
  have hl : (fsP n f).length = n := by simp [fsP]
  unfold toldRows singles pairsF rowsP
  rw [hl]
  simp only [nats, List.map_map]
  congr 1
  refine List.map_congr_left fun y hy => ?_
  have hy : y < n := by simp at hy; omega
  simp [rowB, Function.comp, fsP, hy]
theorem pairs_es : pairsF (fsP n f) = esP f ((List.range (n - 1)).filter fun _ => true) := by
  have hl : (fsP n f).length = n := by simp [fsP]
  unfold pairsF esP
  rw [hl]
  simp only [nats, List.map_map]
  have ht : (List.range (n - 1)).filter (fun _ => true) = List.range (n - 1) := List.filter_eq_self.mpr fun _ _ => rfl
  rw [ht]
  refine List.map_congr_left fun y hy => ?_
  have hy : y < n := by simp at hy; omega
  simp [Function.comp, fsP, hy]
theorem Pr.law (h : Pr n f (fun _ => true) code told) (hf : ∀ y, y + 1 < n → f y < n) (hn : code.length + 2 = n) (hz : n ≤ 60) :
    FsOk (fsP n f) code.length ∧ codeOf (fsP n f) (mrg (toldRows (fsP n f))).1 code.length = ups code := by
  have hl : (fsP n f).length = n := by simp [fsP]
  have hm := h.merged hf
  rw [← told_rows] at hm
  have hc : codeOf (fsP n f) (mrg (toldRows (fsP n f))).1 code.length = ups code := by
    rw [hm.1]
    conv => rhs; rw [← h.code_eq]
    unfold codeOf ups
    rw [← List.map_take, List.map_map, List.map_map]
    refine List.map_congr_left fun x hx => ?_
    have := h.told_lt x (List.mem_of_mem_take hx)
    simp [Function.comp, fsP, this]
  refine ⟨⟨by rw [hl, hn], fun x hx => ?_, hm.2, ?_, ?_⟩, hc⟩
  · rw [hm.1] at hx
    obtain ⟨y, hy, rfl⟩ := List.mem_map.mp hx
    rw [hl]
    exact ⟨Int.natCast_nonneg _, by rw [Int.toNat_natCast]; exact h.told_lt y hy⟩
  · rw [hc, hm.1, pairs_es]; exact h.plk
  · rw [hm.1, List.length_map, h.length]; omega
end
end Mine
end

section
set_option Elab.async false
set_option linter.unusedVariables false
set_option linter.unusedSimpArgs false
namespace Mine
section
variable {n : Nat} {f : Nat → Nat}
theorem all_count {m : Nat} : ((List.range m).filter fun _ => true).length = m := by
  rw [List.filter_eq_self.mpr fun _ _ => rfl, List.length_range]
structure TreeLaw (fs : List Int) (m : Nat) (code : List Nat) : Prop where
  len : code.length = m
  good : FsOk fs m
  eq : codeOf fs (mrg (toldRows fs)).1 m = ups code
  ok : TreeOk (ups code)
  tr : treeOf (ups code) = fs
theorem of_tree {r : Nat → Nat} {m : Nat} (hn : m + 2 = n) (hm : m ≤ 50) (hr : ∀ y, y + 1 < n → f y < n ∧ r (f y) < r y) (hroot : f (n - 1) = n - 1) : ∃ code, TreeLaw (fsP n f) m code := by
  obtain ⟨code, told, h, hc⟩ := Pr.ofTree (n := n) (by omega) hr m (fun _ => true) (by rw [all_count]; omega) rfl fun _ _ _ => rfl
  obtain ⟨h1, h2⟩ := h.law (fun y hy => (hr y hy).1) (by omega) (by omega)
  obtain ⟨h3, h4⟩ := h.tree (by omega) hroot
  rw [hc] at h1 h2
  exact ⟨code, hc, h1, h2, h3, h4⟩
theorem of_code {code : List Nat} (hn : code.length + 2 = n) (hm : n ≤ 50) (hc : ∀ a ∈ code, a < n) : TreeOk (ups code) ∧ FsOk (treeOf (ups code)) code.length ∧ codeOf (treeOf (ups code)) (mrg (toldRows (treeOf (ups code)))).1 code.length = ups code := by
  obtain ⟨f, told, h⟩ := Pr.ofCode (n := n) (by omega) code (fun _ => true) (fun a ha => ⟨hc a ha, rfl⟩) rfl (by rw [all_count]; omega)
  have h' : Pr n (fun y => if y = n - 1 then n - 1 else f y) (fun _ => true) code told := h.congr fun y hy _ => by
    rw [if_neg (by omega)]
  obtain ⟨h3, h4⟩ := h'.tree hn (by simp)
  obtain ⟨h1, h2⟩ := h'.law (fun y hy => (h'.closed y hy rfl).2) hn (by omega)
  rw [h4]
  exact ⟨h3, h1, h2⟩
theorem getD_ups {L : List Nat} {i : Nat} (h : i < L.length) : (ups L).getD i 0 = (L[i] : Int) := by simp [h]
theorem fsP_set {x a : Nat} (hx : x < n) : (fsP n f).set x (a : Int) = fsP n fun y => if y = x then a else f y := by
  refine List.ext_getElem (by simp [fsP]) fun i h1 h2 => ?_
  rw [List.getElem_set]
  simp only [fsP, List.getElem_map, List.getElem_range]
  by_cases e : x = i
  · subst e; simp
  · simp [e, Ne.symm e]
theorem nd_inj {L : List Nat} (nd : L.Nodup) {i j : Nat} {hi : i < L.length} {hj : j < L.length} (e : L[i] = L[j]) : i = j := by
  rw [← nd.idxOf_getElem i hi, e, nd.idxOf_getElem j hj]
theorem fathers_tree {L : List Nat} {drawn : List Int} {start : Int} (hL : L.length = n) (nd : L.Nodup) (hl : ∀ x ∈ L, x < n) (h0 : L[0]? = some (n - 1)) : ∀ k, k < n → ∃ f : Nat → Nat, fathersW (ups L) drawn start k = fsP n f ∧ f (n - 1) = n - 1 ∧ ∀ i x, 1 ≤ i → L[i]? = some x → ∃ j y, j < i ∧ L[j]? = some y ∧ f x = y
  | 0, hk => by
    refine ⟨fun _ => n - 1, ?_, rfl, fun i x hi hx => ⟨0, n - 1, hi, h0, rfl⟩⟩
    have e : (ups L).length = n := by rw [List.length_map, hL]
    unfold fathersW fsP
    rw [e]
    rw [List.map_const', List.length_range]
    congr 1
    omega
  | k + 1, hk => by
    obtain ⟨f, h1, h2, h3⟩ := fathers_tree hL nd hl h0 k (by omega)
    have hj := Int.fmod_nonneg_of_pos (start + drawn.getD k 0) (show (0 : Int) < ((k + 1 : Nat) : Int) by omega)
    have hj2 := Int.fmod_lt_of_pos (start + drawn.getD k 0) (show (0 : Int) < ((k + 1 : Nat) : Int) by omega)
    generalize hJ : (start + drawn.getD k 0).fmod ((k + 1 : Nat) : Int) = J at hj hj2
    have hJk : J.toNat < k + 1 := by omega
    have hx := hl L[k + 1] (List.getElem_mem _)
    refine ⟨fun y => if y = L[k + 1] then L[J.toNat] else f y, ?_, ?_, fun i x hi hx => ?_⟩
    · show (fathersW (ups L) drawn start k).set _ _ = _
      rw [h1, hJ, getD_ups (by omega), getD_ups (by omega), Int.toNat_natCast, fsP_set hx]
    · have : n - 1 ≠ L[k + 1] := by
        intro e
        have q : L[0] = L[k + 1] := by
          have := List.getElem?_eq_some_iff.mp h0
          rw [this.2, e]
        have := nd_inj nd q
        omega
      simp [this, h2]
    · by_cases e : x = L[k + 1]
      · have hi' := (List.getElem?_eq_some_iff.mp hx).1
        have q : L[i] = L[k + 1] := by rw [← e]; exact (List.getElem?_eq_some_iff.mp hx).2
        have : i = k + 1 := nd_inj nd q
        subst this
        exact ⟨J.toNat, L[J.toNat], hJk, List.getElem?_eq_getElem _, by simp [e]⟩
      · obtain ⟨j, y, j1, j2, j3⟩ := h3 i x hi hx
        exact ⟨j, y, j1, j2, by simp [e, j3]⟩
theorem rank_at {L : List Nat} (nd : L.Nodup) {i x : Nat} (h : L[i]? = some x) : L.idxOf x = i := by
  obtain ⟨hi, rfl⟩ := List.getElem?_eq_some_iff.mp h
  exact nd.idxOf_getElem i hi
theorem of_fathers {L : List Nat} {drawn : List Int} {start : Int} {m : Nat} (hn : m + 2 = n) (hm : m ≤ 50) (hL : L.length = n) (nd : L.Nodup) (hl : ∀ x, x ∈ L ↔ x < n) (h0 : L[0]? = some (n - 1)) : ∃ code, TreeLaw (fathersW (ups L) drawn start (m + 1)) m code := by
  obtain ⟨f, h1, h2, h3⟩ := fathers_tree (drawn := drawn) (start := start) hL nd (fun x => (hl x).mp) h0 (m + 1) (by omega)
  rw [h1]
  refine of_tree (r := fun x => L.idxOf x) hn hm (fun y hy => ?_) h2
  obtain ⟨i, hi, rfl⟩ := List.getElem_of_mem ((hl y).mpr (by omega))
  have hx : L[i]? = some L[i] := List.getElem?_eq_getElem hi
  have h1i : 1 ≤ i := by
    rcases Nat.eq_zero_or_pos i with rfl | h
    · rw [hx] at h0
      have := Option.some.inj h0
      omega
    · exact h
  obtain ⟨j, z, j1, j2, j3⟩ := h3 i _ h1i hx
  rw [j3]
  refine ⟨(hl z).mp (List.mem_of_getElem? j2), ?_⟩
  show L.idxOf z < L.idxOf L[i]
  rw [rank_at nd j2, rank_at nd hx]
  exact j1
theorem law_plain (script : List Int) (hs : script.length ≤ 63) : LawOk script := by
  have hm6 : (script.take 6).length ≤ 6 := by simp; omega
  generalize hnum : script.take 6 = num at hm6
  generalize hmm : num.length = m at hm6
  have hcode : (num.map fun x => x.fmod (num.length + 2)) = ups ((num.map fun x => x.fmod (num.length + 2)).map Int.toNat) := by
    unfold ups
    rw [List.map_map, List.map_map]
    refine List.map_congr_left fun x hx => ?_
    have := Int.fmod_nonneg_of_pos x (show (0 : Int) < (num.length : Int) + 2 by omega)
    simp only [Function.comp]
    omega
  have hc : ∀ a ∈ ((num.map fun x => x.fmod (num.length + 2)).map Int.toNat), a < m + 2 := by
    intro a ha
    rw [List.map_map] at ha
    obtain ⟨x, _, rfl⟩ := List.mem_map.mp ha
    have := Int.fmod_nonneg_of_pos x (show (0 : Int) < (num.length : Int) + 2 by omega)
    have := Int.fmod_lt_of_pos x (show (0 : Int) < (num.length : Int) + 2 by omega)
    simp only [Function.comp]
    omega
  have hcl : ((num.map fun x => x.fmod (num.length + 2)).map Int.toNat).length = m := by rw [List.length_map, List.length_map, hmm]
  generalize ((num.map fun x => x.fmod (num.length + 2)).map Int.toNat) = cn at *
  obtain ⟨h1, h2, h3⟩ := of_code (n := m + 2) (by omega) (by omega) hc
  rw [hcl] at h2 h3
  have ln : ∀ p, Mine.Ok (m + 1) p → ∃ L : List Nat, lineOf m p = ups L ∧ L.length = m + 2 ∧ L.Nodup ∧ (∀ x, x ∈ L ↔ x < m + 2) ∧ L[0]? = some (m + 1) := fun p hp => by
    have pm : p.toList.Perm (List.range (m + 1)) := by
      have := Array.perm_iff_toList_perm.mp hp
      simpa using this
    refine ⟨(m + 1) :: p.toList, by simp [lineOf], by have := pm.length_eq; simp at this ⊢; omega, ?_, fun x => ?_, rfl⟩
    · rw [List.nodup_cons]
      refine ⟨fun q => ?_, pm.nodup_iff.mpr List.nodup_range⟩
      have := pm.mem_iff.mp q
      simp at this
    · rw [List.mem_cons, pm.mem_iff, List.mem_range]; omega
  refine ⟨?_, ?_, ?_, fun p hp => ?_, fun p fs again hp e1 e2 => ?_⟩
  · rw [hnum, hcode]; exact h1
  · rw [hnum, hcode, hmm]; exact h2
  · rw [hnum, hcode, hmm]; exact h3
  · rw [hnum, hmm] at hp ⊢
    obtain ⟨L, e, l1, l2, l3, l4⟩ := ln p hp
    rw [e]
    obtain ⟨code, T⟩ := of_fathers (drawn := drawnOf num script.sum) (start := script.sum.fdiv 7) (m := m) rfl (by omega) l1 l2 l3 l4
    exact T.good
  · rw [hnum, hmm] at hp e1 e2
    rw [hnum, hmm]
    obtain ⟨L, e, l1, l2, l3, l4⟩ := ln p hp
    rw [e] at e1
    obtain ⟨code, T⟩ := of_fathers (drawn := drawnOf num script.sum) (start := script.sum.fdiv 7) (m := m) rfl (by omega) l1 l2 l3 l4
    rw [← e1] at T
    rw [T.eq] at e2
    subst e2
    exact ⟨by rw [List.length_map, T.len], T.ok, T.tr⟩
end
end Mine
end

section
set_option Elab.async false
set_option linter.unusedVariables false
set_option maxRecDepth 100000
namespace Mine
open PySem PySem.W PySem.W.X PyProof.Rows PySem.Calls

open_top hd2 for PySem.Challenge.rw_sn0003_02
end Mine
end

section
set_option Elab.async false
set_option linter.unusedVariables false
set_option maxRecDepth 100000
namespace Mine
open PySem PySem.W PySem.W.X PyProof.Rows PySem.Calls
def kO (K : Frag) (a : Addr) : Obj := (K.lookup a).getD default
def kFn (K : Frag) (a : Addr) : FuncData := match (kO K a).data with | .func fd => fd | _ => default
def kVs (K : Frag) (a : Addr) : Array Value := match (kO K a).data with | .fields vs => vs | _ => #[]
def kTok : Option Value → Tok | some (.str _ t) => t | _ => default
def kStr : Option Value → Str | some (.str s _) => s | _ => Str.empty
def kLen (K : Frag) (a : Addr) : Nat := match (kO K a).data with | .seq _ n => n | _ => 0
def kEp (K : Frag) (a : Addr) : Nat := match (kO K a).data with | .dict _ n => n | _ => 0
structure KFun (K : Frag) (a c n : Nat) (dV : Value) : Prop where
  l1 : K.lookup a = some (kO K a)
  l2 : (kO K a).data = .func (kFn K a)
  l3 : kFn K a = fdN n (kFn K a).name (kFn K a).qualname dV .none (kFn K a).doc (kFn K a).pyModule (kFn K a).annotations (.ref c) (kFn K a).closureTuple
  l4 : K.lookup c = some (kO K c)
  l5 : (kO K c).data = .fields (kVs K c)
  l6 : (kVs K c)[1]? = some (.str (kFn K a).qualname (kTok (kVs K c)[1]?))
theorem kf30 (P : Params) : KFun (hd2.heap_39 P) 30 29 3 (.ref 23) := ⟨by kernel_rfl, by kernel_rfl, by kernel_rfl, by kernel_rfl, by kernel_rfl, by kernel_rfl⟩
theorem kf35 (P : Params) : KFun (hd2.heap_39 P) 35 34 4 .none := ⟨by kernel_rfl, by kernel_rfl, by kernel_rfl, by kernel_rfl, by kernel_rfl, by kernel_rfl⟩
theorem kf42 (P : Params) : KFun (hd2.heap_39 P) 42 41 6 .none := ⟨by kernel_rfl, by kernel_rfl, by kernel_rfl, by kernel_rfl, by kernel_rfl, by kernel_rfl⟩
theorem kf47 (P : Params) : KFun (hd2.heap_39 P) 47 46 7 .none := ⟨by kernel_rfl, by kernel_rfl, by kernel_rfl, by kernel_rfl, by kernel_rfl, by kernel_rfl⟩
theorem kf52 (P : Params) : KFun (hd2.heap_39 P) 52 51 8 .none := ⟨by kernel_rfl, by kernel_rfl, by kernel_rfl, by kernel_rfl, by kernel_rfl, by kernel_rfl⟩
theorem kf57 (P : Params) : KFun (hd2.heap_39 P) 57 56 9 .none := ⟨by kernel_rfl, by kernel_rfl, by kernel_rfl, by kernel_rfl, by kernel_rfl, by kernel_rfl⟩
theorem kf64 (P : Params) : KFun (hd2.heap_39 P) 64 63 10 .none := ⟨by kernel_rfl, by kernel_rfl, by kernel_rfl, by kernel_rfl, by kernel_rfl, by kernel_rfl⟩
theorem kf69 (P : Params) : KFun (hd2.heap_39 P) 69 68 11 .none := ⟨by kernel_rfl, by kernel_rfl, by kernel_rfl, by kernel_rfl, by kernel_rfl, by kernel_rfl⟩
theorem kf21 (P : Params) : KFun (hd2.heap_39 P) 21 20 1 .none := ⟨by kernel_rfl, by kernel_rfl, by kernel_rfl, by kernel_rfl, by kernel_rfl, by kernel_rfl⟩
theorem kn21 (P : Params) : (kFn (hd2.heap_39 P) 21).name = "cmp_to_key" ∧ (kFn (hd2.heap_39 P) 21).qualname = "cmp_to_key" := ⟨by kernel_rfl, by kernel_rfl⟩
theorem kc20 (P : Params) : codeHdIn (hd2.heap_39 P) 20 16 = true := by kernel_rfl
theorem kc68 (P : Params) : codeHdIn (hd2.heap_39 P) 68 66 = true := by kernel_rfl
def kGlob : List (Str × Addr) := [("cmp_to_key", 21), ("reduce", 30), ("_c3_merge", 35), ("_law_grow", 42), ("_law_tree", 47), ("_law_told", 52), ("_law_plucked", 57), ("_law_fathers", 64), ("law", 69), ("_initial_missing", 22)]
theorem kglob (P : Params) : ∀ p ∈ kGlob, nsIn (hd2.heap_39 P) mainGlobals p.1 = some (some (.ref p.2)) := by
  intro p hp
  simp only [kGlob, List.mem_cons, List.not_mem_nil, or_false] at hp
  rcases hp with rfl | rfl | rfl | rfl | rfl | rfl | rfl | rfl | rfl | rfl <;> kernel_rfl
theorem knone (P : Params) : ∀ x ∈ (["iter", "len", "sum", "min", "sorted", "range", "list", "object"] : List Str), nsIn (hd2.heap_39 P) mainGlobals x = some none := by
  intro p hp
  simp only [List.mem_cons, List.not_mem_nil, or_false] at hp
  rcases hp with rfl | rfl | rfl | rfl | rfl | rfl | rfl | rfl <;> kernel_rfl
theorem kbuil : ∀ p ∈ ([("iter", .builtin "iter"), ("len", .builtin "len"), ("sum", .builtin "sum"), ("min", .builtin "min"), ("sorted", .builtin "sorted"), ("range", .type "range"), ("list", .type "list"), ("object", .type "object"), ("__build_class__", .builtin "__build_class__")] : List (Str × Value)), bootBuiltins p.1 = some p.2 := by
  intro p hp
  simp only [List.mem_cons, List.not_mem_nil, or_false] at hp
  rcases hp with rfl | rfl | rfl | rfl | rfl | rfl | rfl | rfl | rfl <;> kernel_rfl
theorem kname (P : Params) : nsIn (hd2.heap_39 P) mainGlobals "__name__" = some (some (.str (kStr ((nsIn (hd2.heap_39 P) mainGlobals "__name__").getD none)) (kTok ((nsIn (hd2.heap_39 P) mainGlobals "__name__").getD none)))) := by kernel_rfl
theorem kmiss (P : Params) : (hd2.heap_39 P).lookup 22 = some (kO (hd2.heap_39 P) 22) ∧ (kO (hd2.heap_39 P) 22).cls = .type "object" := ⟨by kernel_rfl, by kernel_rfl⟩
theorem ktup (P : Params) : (hd2.heap_39 P).lookup 23 = some (kO (hd2.heap_39 P) 23) ∧ (kO (hd2.heap_39 P) 23).data = .seq #[.ref 22] (kLen (hd2.heap_39 P) 23) := ⟨by kernel_rfl, by kernel_rfl⟩
theorem kst (P : Params) : (hd2.heap_39 P).lookup cStatics = some (kO (hd2.heap_39 P) cStatics) ∧ (kO (hd2.heap_39 P) cStatics).data = .dict #[] (kEp (hd2.heap_39 P) cStatics) := ⟨by kernel_rfl, by kernel_rfl⟩
end Mine
end

section
set_option Elab.async false
set_option linter.unusedVariables false
set_option maxRecDepth 100000
namespace Mine
open PySem PySem.W PySem.W.X PyProof.Rows PySem.Calls
theorem ns_of {K : Frag} {h : Heap} {m : Str → Option Value} {a : Addr} {n : Str} {v : Option Value} (X : K.In h) (G : h.Ns a m) (e : nsIn K a n = some v) : m n = v := by
  obtain ⟨o, es, ep, ho, hd, _, hf⟩ := G
  rw [← hf]
  unfold nsIn at e
  split at e
  · rename_i q
    have q1 := X _ _ q
    rw [ho] at q1
    cases q1
    cases hd
    unfold nsFind findBy
    rw [← Array.find?_toList]
    split at e
    · rename_i he
      rw [he]; cases e; rfl
    · rename_i he
      split at e
      · cases e
      · rw [he]; cases e; rfl
  · cases e
theorem IntsAre.repL {F : Fz} : ∀ {vs : List Value} {ns : List Int}, IntsAre vs ns → RepL F vs (zs ns)
  | _, _, .nil => .nil
  | _, _, .cons n t r => .cons (.int n t) (IntsAre.repL r)
theorem KFun.fn {K : Frag} {h : Heap} {a c n : Nat} {dV : Value} (k : KFun K a c n dV) (X : ∀ b o, K.lookup b = some o → b ≠ 16 → b ≠ 66 → h.get? b = some o) (h1 : a ≠ 16) (h2 : a ≠ 66) (h3 : c ≠ 16) (h4 : c ≠ 66) :
    FnF h.get? a (fdN n (kFn K a).name (kFn K a).qualname dV .none (kFn K a).doc (kFn K a).pyModule (kFn K a).annotations (.ref c) (kFn K a).closureTuple) :=
  ⟨⟨_, X _ _ k.l1 h1 h2, k.l2.trans (congrArg _ k.l3)⟩, c, _, _, _, rfl, X _ _ k.l4 h3 h4, k.l5, k.l6⟩
theorem law2_of (hp : ∀ script : List Int, script.length ≤ 63 → LawOk script) : PySem.Challenge.rw_sn0003_02.Holds := by
  refine hd2 ?_
  k_fill
  intro w s₀ s₁ mg mb G Y fa o pm cd doc dV kV ho hd hcd hD hmg hg args vals as hpre hlay hrd hwl hlo
  have X := (Ground.X G).1
  refine Ground.open G ?_
  intro T B D TE TW
  clear hcd hD hd
  have KX := km_in_of Y
  have KT := km_tabs_of Y
  clear Y
  wrow_args hpre hlay hrd hwl hlo
  rename_i scr _ _ _ _ _ _ _ l vs _ hL _ hW _ hI _ hcond _
  have hlen : scr.length ≤ 63 := by omega
  have OK := hp scr hlen
  clear hp
  generalize hK : hd2.heap_39 w.params = K at KX
  have t16 := KT 16 (by decide)
  have t66 := KT 66 (by decide)
  have hb0 : ∀ b o, (hideAll s₁.heap [16, 66]).get? b = some o → s₁.heap.get? b = some o := fun b o e => of_hideAll _ e
  have hb1 : ∀ b o, s₁.heap.get? b = some o → b ≠ 16 → b ≠ 66 → (hideAll s₁.heap [16, 66]).get? b = some o := fun b o e n1 n2 => hideAll_get _ e (by simp [n1, n2])
  have kb : ∀ b o, K.lookup b = some o → b ≠ 16 → b ≠ 66 → (hideAll s₁.heap [16, 66]).get? b = some o := fun b o e => hb1 b o (KX _ _ e)
  have hn : ∀ b m, s₁.heap.Ns b m → b ≠ 16 → b ≠ 66 → (hideAll s₁.heap [16, 66]).Ns b m := fun b m ⟨o, es, ep, e, r⟩ n1 n2 => ⟨o, es, ep, hb1 _ _ e n1 n2, r⟩
  have h16 : (hideAll s₁.heap [16, 66]).get? 16 = none := hideAll_none _ (.head _)
  have h66 : (hideAll s₁.heap [16, 66]).get? 66 = none := hideAll_none _ (.tail _ (.head _))
  generalize hhb : hideAll s₁.heap [16, 66] = hb at *
  have glb : ∀ p ∈ kGlob, mg p.1 = some (.ref p.2) := fun p hp => ns_of KX T.g (hK ▸ kglob w.params p hp)
  have non : ∀ x ∈ (["iter", "len", "sum", "min", "sorted", "range", "list", "object"] : List Str), mg x = none := fun x hx => ns_of KX T.g (hK ▸ knone w.params x hx)
  have bui : ∀ p ∈ ([("iter", .builtin "iter"), ("len", .builtin "len"), ("sum", .builtin "sum"), ("min", .builtin "min"), ("sorted", .builtin "sorted"), ("range", .type "range"), ("list", .type "list"), ("object", .type "object"), ("__build_class__", .builtin "__build_class__")] : List (Str × Value)), mb p.1 = some p.2 := fun p hp => by
    refine (T.builtins p.1 ?_).trans (kbuil p hp)
    simp only [List.mem_cons, List.not_mem_nil, or_false] at hp
    rcases hp with rfl | rfl | rfl | rfl | rfl | rfl | rfl | rfl | rfl <;> decide
  have hfa : fa = 69 := by
    have q1 : mg "law" = some (.ref fa) := hmg
    have q2 : mg "law" = some (.ref 69) := glb ("law", 69) (by simp [kGlob])
    rw [q1] at q2; cases q2; rfl
  subst hfa
  have g0 : ∀ (x : Str) (a : Addr), (x, a) ∈ kGlob → mg x = some (.ref a) := fun x a h => glb (x, a) h
  have f30 := (hK ▸ kf30 w.params : KFun K 30 29 3 (.ref 23)).fn kb (by decide) (by decide) (by decide) (by decide)
  have f35 := (hK ▸ kf35 w.params : KFun K 35 34 4 .none).fn kb (by decide) (by decide) (by decide) (by decide)
  have f42 := (hK ▸ kf42 w.params : KFun K 42 41 6 .none).fn kb (by decide) (by decide) (by decide) (by decide)
  have f47 := (hK ▸ kf47 w.params : KFun K 47 46 7 .none).fn kb (by decide) (by decide) (by decide) (by decide)
  have f52 := (hK ▸ kf52 w.params : KFun K 52 51 8 .none).fn kb (by decide) (by decide) (by decide) (by decide)
  have f57 := (hK ▸ kf57 w.params : KFun K 57 56 9 .none).fn kb (by decide) (by decide) (by decide) (by decide)
  have f64 := (hK ▸ kf64 w.params : KFun K 64 63 10 .none).fn kb (by decide) (by decide) (by decide) (by decide)
  have f69 := (hK ▸ kf69 w.params : KFun K 69 68 11 .none).fn kb (by decide) (by decide) (by decide) (by decide)
  have f21 := (hK ▸ kf21 w.params : KFun K 21 20 1 .none).fn kb (by decide) (by decide) (by decide) (by decide)
  obtain ⟨n21, q21⟩ := (hK ▸ kn21 w.params : (kFn K 21).name = "cmp_to_key" ∧ (kFn K 21).qualname = "cmp_to_key")
  rw [n21, q21] at f21
  have cd20 := codeHd_of_K KX (hK ▸ kc20 w.params)
  have cd68 := codeHd_of_K KX (hK ▸ kc68 w.params)
  have tb16 := cd20.tab t16
  have tb66 := cd68.tab t66
  have hdk : ∀ c P, CodeHd s₁.heap c P → c ≠ 16 → c ≠ 66 → CodeHd hb c P := fun c P ⟨o, vs, file, tf, flags, tg, inF, text, tt, e, r⟩ n1 n2 => ⟨o, vs, file, tf, flags, tg, inF, text, tt, hb1 _ _ e n1 n2, r⟩
  have cd20' := hdk _ _ cd20 (by decide) (by decide)
  have cd68' := hdk _ _ cd68 (by decide) (by decide)
  have miss := (hK ▸ kmiss w.params : K.lookup 22 = some (kO K 22) ∧ (kO K 22).cls = .type "object")
  have tup := (hK ▸ ktup w.params : K.lookup 23 = some (kO K 23) ∧ (kO K 23).data = .seq #[.ref 22] (kLen K 23))
  have st := (hK ▸ kst w.params : K.lookup cStatics = some (kO K cStatics) ∧ (kO K cStatics).data = .dict #[] (kEp K cStatics))
  have sy : ∃ o, s₁.heap.get? sysModules = some o := by
    obtain ⟨ms, ⟨o, es, ep, e, _⟩, _⟩ := (T.seer (by decide +kernel)).mods
    exact ⟨o, e⟩
  have nsS : hb.Ns cStatics (fun _ => none) := ⟨_, _, _, kb _ _ st.1 (by decide) (by decide), st.2, (fun e he => by simp at he), fun _ => rfl⟩
  let G0 : Gx := ⟨PySem.Challenge.rw_sn0003_02.row.prog, w, hb, mg, mb, s₁⟩
  have B0 : Bt G0 := ⟨⟨non _ (by decide), bui ("len", _) (by decide)⟩, ⟨non _ (by decide), bui ("sum", _) (by decide)⟩, ⟨non _ (by decide), bui ("min", _) (by decide)⟩, ⟨non _ (by decide), bui ("sorted", _) (by decide)⟩, ⟨non _ (by decide), bui ("range", _) (by decide)⟩, ⟨non _ (by decide), bui ("list", _) (by decide)⟩⟩
  have Y0 : Lay2 G0 22 23 := ⟨⟨_, ⟨non _ (by decide), bui ("iter", _) (by decide), g0 _ _ (by decide), kb _ _ miss.1 (by decide) (by decide), by rw [miss.2]; nofun, by rw [miss.2]; nofun⟩⟩, ⟨_, _, _, kb _ _ tup.1 (by decide) (by decide), tup.2⟩,
    ⟨30, _, _, _, _, _, _, _, g0 _ _ (by decide), f30⟩, ⟨35, _, _, _, _, _, _, _, g0 _ _ (by decide), f35⟩, ⟨42, _, _, _, _, _, _, _, g0 _ _ (by decide), f42⟩, ⟨47, _, _, _, _, _, _, _, g0 _ _ (by decide), f47⟩,
    ⟨52, _, _, _, _, _, _, _, g0 _ _ (by decide), f52⟩, ⟨57, _, _, _, _, _, _, _, g0 _ _ (by decide), f57⟩, ⟨64, _, _, _, _, _, _, _, g0 _ _ (by decide), f64⟩⟩
  have H0 : KPre G0.hb G0.mg G0.mb (fun _ => none) 21 20 16 (kFn K 21).doc (kFn K 21).pyModule (.ref 20) (kFn K 21).closureTuple (kFn K 21).annotations := by
    refine ⟨hn _ _ T.g (by decide) (by decide), ?_, ⟨_, _, ns_of KX T.g (hK ▸ kname w.params)⟩, non _ (by decide), hn _ _ T.b (by decide) (by decide), bui ("object", _) (by decide), bui ("__build_class__", _) (by decide), nsS, rfl, rfl, (let ⟨o, e⟩ := sy; ⟨o, hb1 _ _ e (by decide) (by decide)⟩), cd20', ?_, ?_⟩
    · obtain ⟨bm, ob, b1, b2, b3, b4, b5, b6⟩ := T.bmain
      refine ⟨bm, ob, b1, b2, ?_, hb1 _ _ b3 ?_ ?_, b4, b5, b6⟩
      · rintro rfl
        obtain ⟨o, es, ep, e, d, _⟩ := T.g
        rw [b3] at e; cases e; rw [b6] at d; cases d
      · rintro rfl; rw [t16] at b3; cases b3; cases b4
      · rintro rfl; rw [t66] at b3; cases b3; cases b4
    · obtain ⟨_, c, oc, cvs, t, e1, e2, e3, e4⟩ := f21
      cases e1
      exact ⟨20, oc, cvs, t, rfl, e2, e3, e4⟩
    · exact f21.1
  have SEM := law_sem (G := G0) (f := 69) Y0 B0 OK hlen hg f69 H0 (g0 _ _ (by decide)) cd68'
  have hlist : ∃ ln, s₁.heap.get? l = some { cls := .type "list", data := .seq vs.toArray ln } := by
    obtain ⟨o, e1, e2, n, e3⟩ := hL
    have hW : Well w.params s₁.heap (.ref l) (.list _) := hW
    cases hW with
    | list q1 _ =>
      rw [e1] at q1
      cases q1
      cases e3
      exact ⟨_, e1⟩
  obtain ⟨ln, hl⟩ := hlist
  have Am0 : Am G0 (fun _ => none) [(66, T0), (16, T0)] hb.get? s₁ := by
    refine ⟨⟨hn _ _ T.g (by decide) (by decide), hn _ _ T.b (by decide) (by decide), ⟨_, nsS, rfl⟩⟩, fun _ _ e => e, hb0, (fun _ _ e => nomatch e), (fun _ _ e => nomatch e), fun p hp => ?_, by decide, rfl, rfl, rfl⟩
    simp only [List.mem_cons, List.not_mem_nil, or_false] at hp
    rcases hp with rfl | rfl
    · exact ⟨⟨_, t66, rfl⟩, h66, rfl⟩
    · exact ⟨⟨_, t16, rfl⟩, h16, rfl⟩
  have nl : ∀ {P : Addr}, s₁.heap.get? P = some (tabObj #[]) → l ≠ P := fun h q => by rw [← q, hl] at h; cases h
  have rl : Rep hb.get? (.ref l) (.list (zs scr)) := .list (hb1 _ _ hl (nl t16) (nl t66)) ⟨by rw [hI.length]; omega, _, rfl⟩ (IntsAre.repL hI)
  refine SEM.sem callerA (fun _ => none) hb.get? s₁ [.ref l] _ _ ⟨rfl, by decide, by decide⟩ trivial Am0 (.cons rl .nil) fun F' v s' d mu hR AM gF r => ?_
  obtain ⟨rfl, rfl⟩ := hR
  cases r
  have m16 := (AM.mus (16, T1) (.head _)).1
  have m66 := (AM.mus (66, T1) (.tail _ (.head _))).1
  refine ⟨.inl ⟨_, _, [], rfl, fun _ => rfl, ReadsW.bool true, ?_, fun _ => ⟨List.nodup_nil, nofun⟩⟩, ⟨fun b o e => ?_, fun b o e => ?_⟩, AM.os, ?_⟩
  · wrow_post
  · by_cases n1 : b = 16
    · subst n1
      rw [t16] at e; cases e
      obtain ⟨o', q1, more, rfl⟩ := m16
      exact .inr (.inl ⟨tb16.isCodeTable, rfl, #[], more, rfl, by rw [q1]; simp⟩)
    · by_cases n2 : b = 66
      · subst n2
        rw [t66] at e; cases e
        obtain ⟨o', q1, more, rfl⟩ := m66
        exact .inr (.inl ⟨tb66.isCodeTable, rfl, #[], more, rfl, by rw [q1]; simp⟩)
      · exact .inl (AM.frz _ _ (AM.base _ _ (hb1 _ _ e n1 n2)))
  · by_cases n1 : b = 16
    · subst n1
      obtain ⟨o', q1, _⟩ := m16
      exact ⟨o', q1⟩
    · by_cases n2 : b = 66
      · subst n2
        obtain ⟨o', q1, _⟩ := m66
        exact ⟨o', q1⟩
      · exact ⟨o, AM.frz _ _ (AM.base _ _ (hb1 _ _ e n1 n2))⟩
  · have q : s'.gens = #[] := AM.gens.trans hg
    intro y hy
    rw [q] at hy
    simp at hy
end Mine
end

theorem PySem.Challenge.cw_sn0003_02_holds : PySem.Challenge.rw_sn0003_02.Holds :=
  Mine.law2_of Mine.law_plain
