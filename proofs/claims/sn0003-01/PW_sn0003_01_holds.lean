import PyProof.Rows.All
import Wide.All
import OpenK.AllK
import Wide.FinOn
import PyProof.ExcFactsAll.RuntimeError
import PyProof.ExcAttrAll.RuntimeError
import PyProof.Rows.CallKwBuiltin
import KE.KLam
import PyProof.Walk
import PyProof.WalkLemmas
import KE.KSortAsk
import KE.KSortKey
import Lean
import PySem.Challenge.RW_sn0003_01
set_option Elab.async false
section
set_option Elab.async false
set_option linter.unusedVariables false
namespace Mine
open PySem PySem.W PyProof.Rows PySem.Calls

noncomputable abbrev Fz := Addr → Option Obj

inductive D where
  | none
  | bool (b : Bool)
  | int (i : Int)
  | ref (a : Addr)
  | list (l : List D)
  | tup (l : List D)
  | rng (lo hi : Int)

noncomputable def LstO (o : Obj) (vs : List Value) : Prop := vs.length ≤ 100000 ∧ ∃ n, o = { cls := .type "list", data := .seq vs.toArray n }
noncomputable def TupO (o : Obj) (vs : List Value) : Prop := vs.length ≤ 100000 ∧ ∃ n, o = { cls := .type "tuple", data := .seq vs.toArray n }

noncomputable def RngO (o : Obj) (lo hi : Int) : Prop := ∃ t u v, o = { cls := .type "range", dict := none, data := .fields #[.int lo t, .int hi u, .int 1 v], slots := #[] }

mutual
inductive Rep (F : Fz) : Value → D → Prop
  | none : Rep F .none .none
  | bool (b : Bool) : Rep F (.bool b) (.bool b)
  | int (i : Int) (t : Tok) : Rep F (.int i t) (.int i)
  | ref (a : Addr) : Rep F (.ref a) (.ref a)
  | list {a : Addr} {o : Obj} {vs : List Value} {ds : List D} : F a = some o → LstO o vs → RepL F vs ds → Rep F (.ref a) (.list ds)
  | tup {a : Addr} {o : Obj} {vs : List Value} {ds : List D} : F a = some o → TupO o vs → RepL F vs ds → Rep F (.ref a) (.tup ds)
  | rng {a : Addr} {o : Obj} {lo hi : Int} : F a = some o → RngO o lo hi → Rep F (.ref a) (.rng lo hi)
inductive RepL (F : Fz) : List Value → List D → Prop
  | nil : RepL F [] []
  | cons {v : Value} {vs : List Value} {d : D} {ds : List D} : Rep F v d → RepL F vs ds → RepL F (v :: vs) (d :: ds)
end

noncomputable def Fle (F F' : Fz) : Prop := ∀ a o, F a = some o → F' a = some o
theorem Fle.refl (F : Fz) : Fle F F := fun _ _ e => e
theorem Fle.trans {F G H : Fz} (x : Fle F G) (y : Fle G H) : Fle F H := fun a o e => y a o (x a o e)

mutual
theorem Rep.mono {F F' : Fz} (hF : Fle F F') : ∀ {v : Value} {d : D}, Rep F v d → Rep F' v d
  | _, _, .none => .none
  | _, _, .bool b => .bool b
  | _, _, .int i t => .int i t
  | _, _, .ref a => .ref a
  | _, _, .list h1 h2 h3 => .list (hF _ _ h1) h2 (RepL.mono hF h3)
  | _, _, .tup h1 h2 h3 => .tup (hF _ _ h1) h2 (RepL.mono hF h3)
  | _, _, .rng h1 h2 => .rng (hF _ _ h1) h2
theorem RepL.mono {F F' : Fz} (hF : Fle F F') : ∀ {vs : List Value} {ds : List D}, RepL F vs ds → RepL F' vs ds
  | _, _, .nil => .nil
  | _, _, .cons h t => .cons (Rep.mono hF h) (RepL.mono hF t)
end

section
variable {F : Fz}
theorem RepL.length : ∀ {vs : List Value} {ds : List D}, RepL F vs ds → vs.length = ds.length
  | _, _, .nil => rfl
  | _, _, .cons _ t => congrArg (· + 1) t.length
theorem RepL.get : ∀ {vs : List Value} {ds : List D}, RepL F vs ds → ∀ {i : Nat} {d : D}, ds[i]? = some d → ∃ v, vs[i]? = some v ∧ Rep F v d
  | _, _, .cons h t, 0, d, e => by
    simp only [List.getElem?_cons_zero, Option.some.injEq] at e
    subst e
    exact ⟨_, rfl, h⟩
  | _, _, .cons _ t, i + 1, d, e => by
    simp only [List.getElem?_cons_succ] at e ⊢
    exact t.get e
theorem RepL.get' : ∀ {vs : List Value} {ds : List D}, RepL F vs ds → ∀ {i : Nat} {v : Value}, vs[i]? = some v → ∃ d, ds[i]? = some d ∧ Rep F v d
  | _, _, .cons h t, 0, d, e => by
    simp only [List.getElem?_cons_zero, Option.some.injEq] at e
    subst e
    exact ⟨_, rfl, h⟩
  | _, _, .cons _ t, i + 1, d, e => by
    simp only [List.getElem?_cons_succ] at e ⊢
    exact t.get' e
theorem RepL.append : ∀ {vs : List Value} {ds : List D} {vs' : List Value} {ds' : List D}, RepL F vs ds → RepL F vs' ds' → RepL F (vs ++ vs') (ds ++ ds')
  | _, _, _, _, .nil, h => h
  | _, _, _, _, .cons x t, h => .cons x (t.append h)
theorem RepL.drop : ∀ {vs : List Value} {ds : List D}, RepL F vs ds → ∀ n : Nat, RepL F (vs.drop n) (ds.drop n)
  | _, _, h, 0 => h
  | _, _, .nil, n + 1 => .nil
  | _, _, .cons _ t, n + 1 => t.drop n
theorem RepL.take : ∀ {vs : List Value} {ds : List D}, RepL F vs ds → ∀ n : Nat, RepL F (vs.take n) (ds.take n)
  | _, _, h, 0 => .nil
  | _, _, .nil, n + 1 => .nil
  | _, _, .cons x t, n + 1 => .cons x (t.take n)
theorem RepL.set : ∀ {vs : List Value} {ds : List D}, RepL F vs ds → ∀ (n : Nat) {v : Value} {d : D}, Rep F v d → RepL F (vs.set n v) (ds.set n d)
  | _, _, .nil, n, _, _, _ => .nil
  | _, _, .cons _ t, 0, _, _, h => .cons h t
  | _, _, .cons x t, n + 1, _, _, h => .cons x (t.set n h)
theorem RepL.eraseIdx : ∀ {vs : List Value} {ds : List D}, RepL F vs ds → ∀ (n : Nat), RepL F (vs.eraseIdx n) (ds.eraseIdx n)
  | _, _, .nil, n => .nil
  | _, _, .cons _ t, 0 => t
  | _, _, .cons x t, n + 1 => .cons x (t.eraseIdx n)
theorem Rep.int_inv {v : Value} {i : Int} (h : Rep F v (.int i)) : ∃ t, v = .int i t := by
  cases h; exact ⟨_, rfl⟩
theorem Rep.bool_inv {v : Value} {i : Bool} (h : Rep F v (.bool i)) : v = .bool i := by
  cases h; rfl
theorem Rep.none_inv {v : Value} (h : Rep F v .none) : v = .none := by
  cases h; rfl
theorem Rep.ref_inv {v : Value} {a : Addr} (h : Rep F v (.ref a)) : v = .ref a := by
  cases h; rfl
theorem Rep.list_inv {v : Value} {ds : List D} (h : Rep F v (.list ds)) : ∃ a o vs, v = .ref a ∧ F a = some o ∧ LstO o vs ∧ RepL F vs ds := by
  cases h with | list h1 h2 h3 => exact ⟨_, _, _, rfl, h1, h2, h3⟩
theorem Rep.tup_inv {v : Value} {ds : List D} (h : Rep F v (.tup ds)) : ∃ a o vs, v = .ref a ∧ F a = some o ∧ TupO o vs ∧ RepL F vs ds := by
  cases h with | tup h1 h2 h3 => exact ⟨_, _, _, rfl, h1, h2, h3⟩
theorem Rep.rng_inv {v : Value} {lo hi : Int} (h : Rep F v (.rng lo hi)) : ∃ a o, v = .ref a ∧ F a = some o ∧ RngO o lo hi := by
  cases h with | rng h1 h2 => exact ⟨_, _, rfl, h1, h2⟩
end

inductive MO where
  | list (ds : List D)
  | obj (P : Obj → Prop)
  | fobj (P : Fz → Obj → Prop)
noncomputable def MO.At (F : Fz) (h : Heap) (a : Addr) : MO → Prop
  | .list ds => ∃ o vs, h.get? a = some o ∧ LstO o vs ∧ RepL F vs ds
  | .obj P => ∃ o, h.get? a = some o ∧ P o
  | .fobj P => ∃ o F0, Fle F0 F ∧ h.get? a = some o ∧ P F0 o
theorem MO.At.mono {F F' : Fz} {h h' : Heap} {a : Addr} {m : MO} (x : m.At F h a) (hF : Fle F F') (hh : ∀ o, h.get? a = some o → h'.get? a = some o) : m.At F' h' a := by
  cases m with
  | list ds =>
    obtain ⟨o, vs, h1, h2, h3⟩ := x
    exact ⟨o, vs, hh _ h1, h2, h3.mono hF⟩
  | obj P => exact x.imp fun o e => ⟨hh _ e.1, e.2⟩
  | fobj P =>
    obtain ⟨o, F0, g, h1, h2⟩ := x
    exact ⟨o, F0, g.trans hF, hh _ h1, h2⟩
theorem MO.At.some {F : Fz} {h : Heap} {a : Addr} {m : MO} (x : m.At F h a) : ∃ o, h.get? a = some o := by
  cases m with
  | list ds =>
    obtain ⟨o, vs, h1, h2, h3⟩ := x
    exact ⟨o, h1⟩
  | obj P => exact x.imp fun o e => e.1
  | fobj P =>
    obtain ⟨o, F0, g, h1, h2⟩ := x
    exact ⟨o, h1⟩

noncomputable abbrev Mu := List (Addr × MO)

structure Gx where
  prog : Program
  w : World
  hb : Heap
  mg : Str → Option Value
  mb : Str → Option Value
  s0 : Shared
noncomputable abbrev Gx.M (G : Gx) : Model := model G.prog G.w
structure Gx.Ok (G : Gx) : Prop where
  ns : G.hb.Ns mainGlobals G.mg
  bs : G.hb.Ns builtinsNs G.mb
  nl : G.hb.NoLimit

structure Am (G : Gx) (K : Fz) (mu : Mu) (F : Fz) (s : Shared) : Prop where
  ok : G.Ok
  base : ∀ a o, G.hb.get? a = some o → F a = some o
  frz : ∀ a o, F a = some o → s.heap.get? a = some o
  dis : ∀ a o, K a = some o → F a = none
  keep : ∀ a o, K a = some o → s.heap.get? a = some o
  mus : ∀ p ∈ mu, p.2.At F s.heap p.1 ∧ F p.1 = none ∧ K p.1 = none
  nd : (mu.map (·.1)).Nodup
  gens : s.gens = G.s0.gens
  drawn : s.drawn = G.s0.drawn
  os : s.os = G.s0.os

noncomputable abbrev Pred := Fz → Fz → Prop
noncomputable def Pred.Mon (P : Pred) : Prop := ∀ K K' F F', P K F → Fle K K' → Fle F F' → P K' F'

structure Cx where
  G : Gx
  A : Around
  env : Env
  priv : List Addr
  rm : Nat
  ro : Mu
  pre : Pred

structure Room (A : Around) (n : Nat) : Prop where
  hh : A.handled = none
  dp : A.depth + 3 * n + 20 < recursionLimit
  un : A.units + 40 * n + 200 < cLine

structure Cx.Ok (C : Cx) : Prop where
  fn : C.env.scope.kind = .function
  gl : C.env.globals = mainGlobals
  bu : C.env.builtins = builtinsNs
  rm : Room C.A C.rm
  loc : C.env.locals ∈ C.priv
  apart : C.env.cells.Pairwise fun x y => x.2 ≠ y.2
  cne : ∀ x ∈ C.env.cells, x.2 ≠ C.env.locals
  mon : C.pre.Mon

structure St where
  vars : List (Str × D)
  mu : Mu

noncomputable abbrev St.v (σ : St) (x : Str) : Option D := σ.vars.lookup x
noncomputable def VarAt (env : Env) (h : Heap) (m : Str → Option Value) (x : Str) (v : Value) : Prop :=
  match env.kindOf x with
  | some .local => m x = some v
  | some .cell => ∃ c, env.cells.lookup x = some c ∧ h.IsCell c (some v)
  | some .free => ∃ c, env.cells.lookup x = some c ∧ h.IsCell c (some v)
  | _ => False

structure Mo (C : Cx) (K : Fz) (σ : St) (F : Fz) (s : Shared) : Prop where
  ok : C.Ok
  am : Am C.G K σ.mu F s
  priv : ∀ a ∈ C.priv, F a = none ∧ K a = none ∧ ∃ o, s.heap.get? a = some o
  live : ∀ x ∈ C.env.cells, (∃ v, s.heap.IsCell x.2 v) ∧ (x.2 ∈ C.priv ∨ ∃ o, K x.2 = some o)
  loc : ∃ m, s.heap.Ns C.env.locals m ∧ ∀ x d, σ.vars.lookup x = some d → ∃ v, VarAt C.env s.heap m x v ∧ Rep F v d
  pmu : ∀ p ∈ σ.mu, p.1 ∉ C.priv
  ro : ∀ p ∈ C.ro, p.2.At F s.heap p.1 ∧ ∃ o, K p.1 = some o
  pre : C.pre K F

noncomputable def Fz.put (F : Fz) (a : Addr) (o : Obj) : Fz := fun b => if b = a then some o else F b
theorem Fz.put_self (F : Fz) (a : Addr) (o : Obj) : F.put a o a = some o := if_pos rfl
theorem Fz.put_ne (F : Fz) {a b : Addr} (o : Obj) (h : b ≠ a) : F.put a o b = F b := if_neg h
theorem Fle.put {F : Fz} {a : Addr} (hf : F a = none) (o : Obj) : Fle F (F.put a o) :=
  fun b ob e => by rw [Fz.put_ne]; exact e; rintro rfl; rw [hf] at e; cases e
noncomputable def Fz.del (F : Fz) (a : Addr) : Fz := fun b => if b = a then none else F b
theorem MO.At.sameBut {F : Fz} {h h' : Heap} {a b : Addr} {m : MO} (x : m.At F h b) (hs : Heap.SameBut a h h') (hb : b ≠ a) : m.At F h' b :=
  x.mono (Fle.refl _) fun o e => (hs.2 b hb).trans e

section
variable {G : Gx} {K : Fz} {mu : Mu} {F : Fz} {s : Shared}

theorem Am.toks (X : Am G K mu F s) (t : Nat) : Am G K mu F { s with toks := t } :=
  ⟨X.ok, X.base, X.frz, X.dis, X.keep, X.mus, X.nd, X.gens, X.drawn, X.os⟩
theorem Am.ns (X : Am G K mu F s) : s.heap.Ns mainGlobals G.mg := X.ok.ns.keeps fun b o e => X.frz _ _ (X.base _ _ e)
theorem Am.nsb (X : Am G K mu F s) : s.heap.Ns builtinsNs G.mb := X.ok.bs.keeps fun b o e => X.frz _ _ (X.base _ _ e)
theorem Am.nl (X : Am G K mu F s) : s.heap.NoLimit := by
  obtain ⟨mc, h1, h2⟩ := X.ok.nl
  exact ⟨mc, h1.keeps fun b o e => X.frz _ _ (X.base _ _ e), h2⟩
theorem Am.fresh (X : Am G K mu F s) : F s.heap.objs.size = none := by
  cases e : F s.heap.objs.size with
  | none => rfl
  | some o => exact absurd (Heap.lt_size (X.frz _ _ e)) (Nat.lt_irrefl _)
theorem Am.freshK (X : Am G K mu F s) : K s.heap.objs.size = none := by
  cases e : K s.heap.objs.size with
  | none => rfl
  | some o => exact absurd (Heap.lt_size (X.keep _ _ e)) (Nat.lt_irrefl _)
theorem Am.freshMu (X : Am G K mu F s) : ∀ p ∈ mu, p.1 ≠ s.heap.objs.size := fun p hp e => by
  obtain ⟨o, ho⟩ := (X.mus p hp).1.some
  have := Heap.lt_size ho
  rw [e] at this
  exact Nat.lt_irrefl _ this

theorem Am.grow {F' : Fz} {h' : Heap} {t : Nat} (X : Am G K mu F s) (hk : ∀ a o, s.heap.get? a = some o → h'.get? a = some o)
    (hF : Fle F F') (hn : ∀ a o, F' a = some o → F a = some o ∨ s.heap.get? a = none) (hf : ∀ a o, F' a = some o → h'.get? a = some o) : Am G K mu F' { s with heap := h', toks := t } := by
  have out : ∀ a o, s.heap.get? a = some o → F a = none → F' a = none := fun a o e f => by
    cases q : F' a with
    | none => rfl
    | some o' =>
      rcases hn a o' q with h | h
      · rw [f] at h; cases h
      · rw [e] at h; cases h
  refine ⟨X.ok, fun a o e => hF _ _ (X.base a o e), hf, fun a o e => out a o (X.keep a o e) (X.dis a o e), fun a o e => hk _ _ (X.keep a o e), fun p hp => ?_, X.nd, X.gens, X.drawn, X.os⟩
  obtain ⟨h1, h2, h3⟩ := X.mus p hp
  obtain ⟨o, ho⟩ := h1.some
  exact ⟨h1.mono hF fun o e => hk _ _ e, out _ _ ho h2, h3⟩
theorem Am.put_new (X : Am G K mu F s) (o : Obj) : ∀ a o', F.put s.heap.objs.size o a = some o' → F a = some o' ∨ s.heap.get? a = none := fun a o' e => by
  by_cases h : a = s.heap.objs.size
  · subst h
    refine Or.inr ?_
    cases q : s.heap.get? s.heap.objs.size with
    | none => rfl
    | some o => exact absurd (Heap.lt_size q) (Nat.lt_irrefl _)
  · rw [Fz.put_ne _ _ h] at e; exact Or.inl e
theorem Am.put_heap (X : Am G K mu F s) (o : Obj) (ho : o.isFreed = false) : ∀ a o', F.put s.heap.objs.size o a = some o' → (s.heap.push o).get? a = some o' := fun a o' e => by
  by_cases h : a = s.heap.objs.size
  · subst h
    rw [Fz.put_self] at e
    cases e
    exact Heap.get?_push_size _ ho
  · rw [Fz.put_ne _ _ h] at e
    exact Heap.get?_push_of_some _ (X.frz _ _ e)
theorem Am.junk (X : Am G K mu F s) (o : Obj) (t : Nat) : Am G K mu F { s with heap := s.heap.push o, toks := t } :=
  X.grow (fun a o' e => Heap.get?_push_of_some _ e) (Fle.refl _) (fun a o e => .inl e) fun a o' e => Heap.get?_push_of_some _ (X.frz _ _ e)
theorem Am.allocMu (X : Am G K mu F s) (o : Obj) (mo : MO) (t : Nat) (hm : mo.At F (s.heap.push o) s.heap.objs.size) :
    Am G K ((s.heap.objs.size, mo) :: mu) F { s with heap := s.heap.push o, toks := t } := by
  have X' := X.junk o t
  refine ⟨X'.ok, X'.base, X'.frz, X'.dis, X'.keep, fun p hp => ?_, ?_, X'.gens, X'.drawn, X'.os⟩
  · rcases List.mem_cons.mp hp with rfl | hp
    · exact ⟨hm, X.fresh, X.freshK⟩
    · exact X'.mus p hp
  · rw [List.map_cons, List.nodup_cons]
    refine ⟨fun hq => ?_, X.nd⟩
    obtain ⟨p, hp, e⟩ := List.mem_map.mp hq
    exact X.freshMu p hp e
theorem Am.other {h' : Heap} {a : Addr} {t : Nat} (X : Am G K mu F s) (hs : Heap.SameBut a s.heap h') (hF : F a = none) (hK : K a = none) (hm : ∀ p ∈ mu, p.1 ≠ a) : Am G K mu F { s with heap := h', toks := t } :=
  ⟨X.ok, X.base, fun b o e => (hs.2 b (fun q => by subst q; rw [hF] at e; cases e)).trans (X.frz b o e), X.dis, fun b o e => (hs.2 b (fun q => by subst q; rw [hK] at e; cases e)).trans (X.keep b o e),
    fun p hp => ⟨(X.mus p hp).1.sameBut hs (hm p hp), (X.mus p hp).2⟩, X.nd, X.gens, X.drawn, X.os⟩
theorem nodup_mid {pre post : Mu} {a : Addr} {mo : MO} (nd : ((pre ++ (a, mo) :: post).map (·.1)).Nodup) : (∀ p ∈ pre ++ post, p.1 ≠ a) ∧ ((pre ++ post).map (·.1)).Nodup := by
  rw [List.map_append, List.map_cons] at nd
  have nd' : (a :: (pre.map (·.1) ++ post.map (·.1))).Nodup := (List.perm_middle).nodup_iff.mp nd
  rw [← List.map_append, List.nodup_cons] at nd'
  exact ⟨fun p hp e => nd'.1 (e ▸ List.mem_map_of_mem hp), nd'.2⟩
theorem Am.turn {h' : Heap} {a : Addr} {pre post : Mu} {mo mo' : MO} {t : Nat} (X : Am G K (pre ++ (a, mo) :: post) F s) (hs : Heap.SameBut a s.heap h') (hm : mo'.At F h' a) :
    Am G K (pre ++ (a, mo') :: post) F { s with heap := h', toks := t } := by
  obtain ⟨h1, h2, h3⟩ := X.mus (a, mo) (by simp)
  obtain ⟨ne, _⟩ := nodup_mid X.nd
  refine ⟨X.ok, X.base, fun b o e => (hs.2 b (fun q => by subst q; rw [h2] at e; cases e)).trans (X.frz b o e), X.dis, fun b o e => (hs.2 b (fun q => by subst q; rw [h3] at e; cases e)).trans (X.keep b o e), fun p hp => ?_, ?_, X.gens, X.drawn, X.os⟩
  · rcases List.mem_append.mp hp with hp | hp
    · obtain ⟨q1, q2⟩ := X.mus p (List.mem_append_left _ hp)
      exact ⟨q1.sameBut hs (ne p (List.mem_append_left _ hp)), q2⟩
    · rcases List.mem_cons.mp hp with rfl | hp
      · exact ⟨hm, h2, h3⟩
      · obtain ⟨q1, q2⟩ := X.mus p (List.mem_append_right _ (.tail _ hp))
        exact ⟨q1.sameBut hs (ne p (List.mem_append_right _ hp)), q2⟩
  · have := X.nd
    rw [List.map_append, List.map_cons] at this ⊢
    exact this
theorem Am.sub {mu' : Mu} (X : Am G K mu F s) (h : ∀ p ∈ mu', p ∈ mu) (nd : (mu'.map (·.1)).Nodup) : Am G K mu' F s :=
  ⟨X.ok, X.base, X.frz, X.dis, X.keep, fun p hp => X.mus p (h p hp), nd, X.gens, X.drawn, X.os⟩
theorem Am.perm {mu' : Mu} (X : Am G K mu F s) (h : mu'.Perm mu) : Am G K mu' F s :=
  X.sub (fun p hp => h.mem_iff.mp hp) ((h.map _).nodup_iff.mpr X.nd)
theorem Am.freeze {a : Addr} {mo : MO} (X : Am G K ((a, mo) :: mu) F s) : ∃ o, s.heap.get? a = some o ∧ mo.At F s.heap a ∧ F a = none ∧ Am G K mu (F.put a o) s := by
  obtain ⟨h1, h2, h3⟩ := X.mus (a, mo) (.head _)
  obtain ⟨o, ho⟩ := h1.some
  have nd := X.nd
  rw [List.map_cons, List.nodup_cons] at nd
  have hF : Fle F (F.put a o) := Fle.put h2 o
  refine ⟨o, ho, h1, h2, X.ok, fun b ob e => hF _ _ (X.base b ob e), fun b ob e => ?_, fun b ob e => ?_, X.keep, fun p hp => ?_, nd.2, X.gens, X.drawn, X.os⟩
  · by_cases hb : b = a
    · subst hb; rw [Fz.put_self] at e; cases e; exact ho
    · rw [Fz.put_ne _ _ hb] at e; exact X.frz _ _ e
  · rw [Fz.put_ne]; exact X.dis b ob e; rintro rfl; rw [h3] at e; cases e
  · have hpa : p.1 ≠ a := fun e => nd.1 (List.mem_map.mpr ⟨p, hp, e⟩)
    obtain ⟨e1, e2, e3⟩ := X.mus p (.tail _ hp)
    exact ⟨e1.mono hF fun o e => e, by rw [Fz.put_ne _ _ hpa]; exact e2, e3⟩
theorem Am.hide {a : Addr} {mo : MO} (X : Am G K ((a, mo) :: mu) F s) : ∃ o, s.heap.get? a = some o ∧ mo.At F s.heap a ∧ K a = none ∧ Am G (K.put a o) mu F s := by
  obtain ⟨h1, h2, h3⟩ := X.mus (a, mo) (.head _)
  obtain ⟨o, ho⟩ := h1.some
  have nd := X.nd
  rw [List.map_cons, List.nodup_cons] at nd
  refine ⟨o, ho, h1, h3, X.ok, X.base, X.frz, fun b ob e => ?_, fun b ob e => ?_, fun p hp => ?_, nd.2, X.gens, X.drawn, X.os⟩
  · by_cases hb : b = a
    · subst hb; exact h2
    · rw [Fz.put_ne _ _ hb] at e; exact X.dis _ _ e
  · by_cases hb : b = a
    · subst hb; rw [Fz.put_self] at e; cases e; exact ho
    · rw [Fz.put_ne _ _ hb] at e; exact X.keep _ _ e
  · have hpa : p.1 ≠ a := fun e => nd.1 (List.mem_map.mpr ⟨p, hp, e⟩)
    obtain ⟨e1, e2, e3⟩ := X.mus p (.tail _ hp)
    exact ⟨e1, e2, by rw [Fz.put_ne _ _ hpa]; exact e3⟩
theorem Am.show {a : Addr} {o : Obj} {mo : MO} (X : Am G (K.put a o) mu F s) (hK : K a = none) (hm : mo.At F s.heap a) : Am G K ((a, mo) :: mu) F s := by
  have kp : ∀ b ob, K b = some ob → K.put a o b = some ob := fun b ob e => (Fle.put hK o) b ob e
  refine ⟨X.ok, X.base, X.frz, fun b ob e => X.dis _ _ (kp _ _ e), fun b ob e => X.keep _ _ (kp _ _ e), fun p hp => ?_, ?_, X.gens, X.drawn, X.os⟩
  · rcases List.mem_cons.mp hp with rfl | hp
    · exact ⟨hm, X.dis _ _ (Fz.put_self _ _ _), hK⟩
    · obtain ⟨e1, e2, e3⟩ := X.mus p hp
      have ne : p.1 ≠ a := fun e => by rw [e, Fz.put_self] at e3; cases e3
      rw [Fz.put_ne _ _ ne] at e3
      exact ⟨e1, e2, e3⟩
  · rw [List.map_cons, List.nodup_cons]
    refine ⟨fun hq => ?_, X.nd⟩
    obtain ⟨p, hp, e⟩ := List.mem_map.mp hq
    have := (X.mus p hp).2.2
    rw [e] at this
    dsimp only at this
    rw [Fz.put_self] at this
    cases this
end

section
variable {C : Cx} {K : Fz} {σ : St} {F : Fz} {s : Shared}

theorem VarAt.imp {env : Env} {h h' : Heap} {m m' : Str → Option Value} {x : Str} {v : Value} (X : VarAt env h m x v) (h1 : env.kindOf x = some .local → m x = some v → m' x = some v)
    (h2 : ∀ c, env.cells.lookup x = some c → h.IsCell c (some v) → h'.IsCell c (some v)) : VarAt env h' m' x v := by
  unfold VarAt at X ⊢
  revert X h1
  cases env.kindOf x with
  | none => intro X _; exact X
  | some k =>
    cases k <;> intro X h1
    case «local» => exact h1 rfl X
    case cell => obtain ⟨c, e1, e2⟩ := X; exact ⟨c, e1, h2 c e1 e2⟩
    case free => obtain ⟨c, e1, e2⟩ := X; exact ⟨c, e1, h2 c e1 e2⟩
    all_goals exact X
theorem VarAt.mono {env : Env} {h h' : Heap} {m : Str → Option Value} {x : Str} {v : Value} (hh : ∀ c ∈ env.cells, ∀ o, h.get? c.2 = some o → h'.get? c.2 = some o) (X : VarAt env h m x v) : VarAt env h' m x v :=
  X.imp (fun _ e => e) fun c e ⟨o, e1, e2⟩ => ⟨o, hh _ (mem_of_lookup e) _ e1, e2⟩

noncomputable def St.set (σ : St) (x : Str) (d : D) : St := { σ with vars := (x, d) :: σ.vars }
noncomputable def St.setMu (σ : St) (m : Mu) : St := { σ with mu := m }

theorem Mo.toks (X : Mo C K σ F s) (t : Nat) : Mo C K σ F { s with toks := t } :=
  ⟨X.ok, X.am.toks t, X.priv, X.live, X.loc, X.pmu, X.ro, X.pre⟩

theorem Mo.frame {K' : Fz} {mu' : Mu} {F' : Fz} {s' : Shared} (X : Mo C K σ F s) (A : Am C.G K' mu' F' s') (hk : ∀ a ∈ C.priv, F' a = none ∧ K' a = none ∧ s'.heap.get? a = s.heap.get? a)
    (hc : ∀ x ∈ C.env.cells, x.2 ∉ C.priv → (∃ o, K' x.2 = some o) ∧ s'.heap.get? x.2 = s.heap.get? x.2) (hF : Fle F F')
    (hp : ∀ p ∈ mu', p.1 ∉ C.priv) (hro : ∀ p ∈ C.ro, s'.heap.get? p.1 = s.heap.get? p.1 ∧ ∃ o, K' p.1 = some o) (hpre : C.pre K' F') : Mo C K' (σ.setMu mu') F' s' := by
  obtain ⟨m, hm, hv⟩ := X.loc
  have cel : ∀ x ∈ C.env.cells, s'.heap.get? x.2 = s.heap.get? x.2 := fun x hx => by
    by_cases h : x.2 ∈ C.priv
    · exact (hk _ h).2.2
    · exact (hc x hx h).2
  refine ⟨X.ok, A, fun a ha => ?_, fun x hx => ?_, ⟨m, ?_, fun x d e => ?_⟩, hp, fun p hq => ?_, hpre⟩
  · obtain ⟨h1, h2, h3⟩ := hk a ha
    exact ⟨h1, h2, by rw [h3]; exact (X.priv a ha).2.2⟩
  · obtain ⟨⟨v, o, h1, h2⟩, _⟩ := X.live x hx
    refine ⟨⟨v, o, (cel x hx).trans h1, h2⟩, ?_⟩
    by_cases h : x.2 ∈ C.priv
    · exact Or.inl h
    · exact Or.inr (hc x hx h).1
  · obtain ⟨o, es, ep, e, r⟩ := hm
    exact ⟨o, es, ep, (hk _ X.ok.loc).2.2.trans e, r⟩
  · obtain ⟨v, h1, h2⟩ := hv x d e
    exact ⟨v, h1.mono fun c hc o e => (cel c hc).trans e, h2.mono hF⟩
  · obtain ⟨h1, h2⟩ := X.ro p hq
    exact ⟨h1.mono hF fun o e => (hro p hq).1.trans e, (hro p hq).2⟩

theorem Mo.with {mu' : Mu} {F' : Fz} {s' : Shared} (X : Mo C K σ F s) (A : Am C.G K mu' F' s') (hk : ∀ a ∈ C.priv, F' a = none ∧ s'.heap.get? a = s.heap.get? a) (hF : Fle F F') (hp : ∀ p ∈ mu', p.1 ∉ C.priv) : Mo C K (σ.setMu mu') F' s' := by
  have kk : ∀ a o, K a = some o → s'.heap.get? a = s.heap.get? a := fun a o e => (A.keep _ _ e).trans (X.am.keep _ _ e).symm
  refine X.frame A (fun a ha => ⟨(hk a ha).1, (X.priv a ha).2.1, (hk a ha).2⟩) (fun x hx hn => ?_) hF hp (fun p hq => ?_) (X.ok.mon _ _ _ _ X.pre (Fle.refl _) hF)
  · rcases (X.live x hx).2 with h | ⟨o, h⟩
    · exact absurd h hn
    · exact ⟨⟨o, h⟩, kk _ _ h⟩
  · obtain ⟨o, h⟩ := (X.ro p hq).2
    exact ⟨kk _ _ h, o, h⟩

theorem Mo.grow {F' : Fz} {h' : Heap} {t : Nat} (X : Mo C K σ F s) (hk : ∀ a o, s.heap.get? a = some o → h'.get? a = some o)
    (hF : Fle F F') (hn : ∀ a o, F' a = some o → F a = some o ∨ s.heap.get? a = none) (hf : ∀ a o, F' a = some o → h'.get? a = some o) : Mo C K σ F' { s with heap := h', toks := t } := by
  refine X.with (X.am.grow hk hF hn hf) (fun a ha => ?_) hF X.pmu
  obtain ⟨h1, h2, o, ho⟩ := X.priv a ha
  refine ⟨?_, (hk _ _ ho).trans ho.symm⟩
  cases q : F' a with
  | none => rfl
  | some o' =>
    rcases hn a o' q with h | h
    · rw [h1] at h; cases h
    · rw [ho] at h; cases h
theorem Mo.alloc (X : Mo C K σ F s) (o : Obj) (ho : o.isFreed = false) (t : Nat) : Mo C K σ (F.put s.heap.objs.size o) { s with heap := s.heap.push o, toks := t } :=
  X.grow (fun a o' e => Heap.get?_push_of_some _ e) (Fle.put X.am.fresh _) (X.am.put_new o) (X.am.put_heap o ho)
theorem Mo.junk (X : Mo C K σ F s) (o : Obj) (t : Nat) : Mo C K σ F { s with heap := s.heap.push o, toks := t } :=
  X.grow (fun a o' e => Heap.get?_push_of_some _ e) (Fle.refl _) (fun a o e => .inl e) fun a o' e => Heap.get?_push_of_some _ (X.am.frz _ _ e)
theorem Mo.allocMu (X : Mo C K σ F s) (o : Obj) (mo : MO) (t : Nat) (hm : mo.At F (s.heap.push o) s.heap.objs.size) :
    Mo C K (σ.setMu ((s.heap.objs.size, mo) :: σ.mu)) F { s with heap := s.heap.push o, toks := t } := by
  have X' := X.junk o t
  refine X'.with (mu' := (s.heap.objs.size, mo) :: σ.mu) (X.am.allocMu o mo t hm) (fun a ha => ⟨(X.priv a ha).1, rfl⟩) (Fle.refl _) fun p hp => ?_
  rcases List.mem_cons.mp hp with rfl | hp
  · intro hq
    obtain ⟨o', ho'⟩ := (X.priv _ hq).2.2
    exact Nat.lt_irrefl _ (Heap.lt_size ho')
  · exact X.pmu p hp
theorem Mo.turn {h' : Heap} {a : Addr} {pre post : Mu} {mo mo' : MO} {t : Nat} (X : Mo C K σ F s) (hσ : σ.mu = pre ++ (a, mo) :: post) (hs : Heap.SameBut a s.heap h') (hm : mo'.At F h' a) :
    Mo C K (σ.setMu (pre ++ (a, mo') :: post)) F { s with heap := h', toks := t } := by
  have A := X.am
  rw [hσ] at A
  have ha : a ∉ C.priv := X.pmu (a, mo) (by rw [hσ]; simp)
  refine X.with (A.turn hs hm) (fun b hb => ⟨(X.priv b hb).1, hs.2 b fun e => ha (e ▸ hb)⟩) (Fle.refl _) fun p hp => ?_
  rcases List.mem_append.mp hp with hp | hp
  · exact X.pmu p (by rw [hσ]; exact List.mem_append_left _ hp)
  · rcases List.mem_cons.mp hp with rfl | hp
    · exact ha
    · exact X.pmu p (by rw [hσ]; exact List.mem_append_right _ (.tail _ hp))
theorem Mo.sub {mu' : Mu} (X : Mo C K σ F s) (h : ∀ p ∈ mu', p ∈ σ.mu) (nd : (mu'.map (·.1)).Nodup) : Mo C K (σ.setMu mu') F s :=
  X.with (X.am.sub h nd) (fun a ha => ⟨(X.priv a ha).1, rfl⟩) (Fle.refl _) fun p hp => X.pmu p (h p hp)
theorem Mo.perm {mu' : Mu} (X : Mo C K σ F s) (h : mu'.Perm σ.mu) : Mo C K (σ.setMu mu') F s :=
  X.sub (fun p hp => h.mem_iff.mp hp) ((h.map _).nodup_iff.mpr X.am.nd)
theorem Mo.freeze {a : Addr} {mo : MO} {mu : Mu} (X : Mo C K σ F s) (hσ : σ.mu = (a, mo) :: mu) : ∃ o, s.heap.get? a = some o ∧ mo.At F s.heap a ∧ F a = none ∧ Mo C K (σ.setMu mu) (F.put a o) s := by
  have A := X.am
  rw [hσ] at A
  obtain ⟨o, h1, h2, h3, A'⟩ := A.freeze
  have ha : a ∉ C.priv := X.pmu (a, mo) (by rw [hσ]; exact .head _)
  exact ⟨o, h1, h2, h3, X.with A' (fun b hb => ⟨by rw [Fz.put_ne _ _ (show b ≠ a from fun e => ha (e ▸ hb))]; exact (X.priv b hb).1, rfl⟩) (Fle.put h3 o) fun p hp => X.pmu p (by rw [hσ]; exact .tail _ hp)⟩
theorem Mo.hide {a : Addr} {mo : MO} {mu : Mu} (X : Mo C K σ F s) (hσ : σ.mu = (a, mo) :: mu) : ∃ o, s.heap.get? a = some o ∧ mo.At F s.heap a ∧ K a = none ∧ Mo C (K.put a o) (σ.setMu mu) F s := by
  have A := X.am
  rw [hσ] at A
  obtain ⟨o, h1, h2, h3, A'⟩ := A.hide
  have ha : a ∉ C.priv := X.pmu (a, mo) (by rw [hσ]; exact .head _)
  refine ⟨o, h1, h2, h3, X.frame A' (fun b hb => ⟨(X.priv b hb).1, by rw [Fz.put_ne _ _ (show b ≠ a from fun e => ha (e ▸ hb))]; exact (X.priv b hb).2.1, rfl⟩) (fun x hx hn => ⟨?_, rfl⟩) (Fle.refl _) (fun p hp => X.pmu p (by rw [hσ]; exact .tail _ hp)) (fun p hp => ⟨rfl, ?_⟩) (X.ok.mon _ _ _ _ X.pre (Fle.put h3 o) (Fle.refl _))⟩
  · rcases (X.live x hx).2 with h | ⟨o', h⟩
    · exact absurd h hn
    · exact ⟨o', Fle.put h3 o _ _ h⟩
  · obtain ⟨o', h⟩ := (X.ro p hp).2
    exact ⟨o', Fle.put h3 o _ _ h⟩
theorem Mo.show {a : Addr} {o : Obj} {mo : MO} (X : Mo C (K.put a o) σ F s) (hK : K a = none) (hm : mo.At F s.heap a) (hc : ∀ x ∈ C.env.cells, x.2 ≠ a) (hr : ∀ p ∈ C.ro, p.1 ≠ a) (hpre : C.pre K F) : Mo C K (σ.setMu ((a, mo) :: σ.mu)) F s := by
  have hp : ∀ b ∈ C.priv, b ≠ a := fun b hb e => by have := (X.priv b hb).2.1; rw [e, Fz.put_self] at this; cases this
  refine X.frame (X.am.show hK hm) (fun b hb => ⟨(X.priv b hb).1, ?_, rfl⟩) (fun x hx hn => ⟨?_, rfl⟩) (Fle.refl _) (fun p hq => ?_) (fun p hq => ⟨rfl, ?_⟩) hpre
  · have := (X.priv b hb).2.1
    rwa [Fz.put_ne _ _ (hp b hb)] at this
  · rcases (X.live x hx).2 with h | ⟨o', h⟩
    · exact absurd h hn
    · exact ⟨o', by rwa [Fz.put_ne _ _ (hc x hx)] at h⟩
  · rcases List.mem_cons.mp hq with rfl | hq
    · exact fun e => hp _ e rfl
    · exact X.pmu p hq
  · obtain ⟨o', h⟩ := (X.ro p hq).2
    exact ⟨o', by rwa [Fz.put_ne _ _ (hr p hq)] at h⟩

theorem Mo.storeL {h' : Heap} {x : Str} {v : Value} {d : D} {t : Nat} (X : Mo C K σ F s) {m : Str → Option Value} (hm : ∀ y d, σ.vars.lookup y = some d → ∃ v, VarAt C.env s.heap m y v ∧ Rep F v d)
    (hx : C.env.kindOf x = some .local) (hs : Heap.SameBut C.env.locals s.heap h') (hn : h'.Ns C.env.locals (fun y => if y = x then some v else m y)) (hr : Rep F v d) :
    Mo C K (σ.set x d) F { s with heap := h', toks := t } := by
  have hp := X.priv _ X.ok.loc
  have hL : ∀ c ∈ C.env.cells, ∀ o, s.heap.get? c.2 = some o → h'.get? c.2 = some o := fun c hc o e => (hs.2 _ (X.ok.cne c hc)).trans e
  have ex : ∀ b o, s.heap.get? b = some o → ∃ o, h'.get? b = some o := fun b o e => by
    by_cases h : b = C.env.locals
    · subst h; obtain ⟨o, es, ep, e, r⟩ := hn; exact ⟨o, e⟩
    · exact ⟨o, (hs.2 b h).trans e⟩
  refine ⟨X.ok, X.am.other hs hp.1 hp.2.1 (fun p hq e => X.pmu p hq (e ▸ X.ok.loc)), fun b hb => ?_, fun c hc => ?_, ⟨_, hn, fun y dy e => ?_⟩, X.pmu, fun p hq => ?_, X.pre⟩
  · obtain ⟨h1, h2, o, h3⟩ := X.priv b hb
    exact ⟨h1, h2, ex b o h3⟩
  · obtain ⟨⟨v, o, e1, e2⟩, e3⟩ := X.live c hc
    exact ⟨⟨v, o, hL c hc _ e1, e2⟩, e3⟩
  · simp only [St.set, List.lookup_cons] at e
    by_cases hyx : y = x
    · subst hyx
      simp only [beq_self_eq_true, Option.some.injEq] at e
      subst e
      refine ⟨v, ?_, hr⟩
      unfold VarAt
      rw [hx]
      simp
    · have hb : (y == x) = false := beq_eq_false_iff_ne.mpr hyx
      simp only [hb] at e
      obtain ⟨v', e1, e2⟩ := hm y dy e
      refine ⟨v', ?_, e2⟩
      exact (e1.mono hL).imp (fun _ e => by rw [if_neg hyx]; exact e) fun _ _ e => e
  · obtain ⟨q1, o, q2⟩ := X.ro p hq
    exact ⟨q1.sameBut hs (fun e => by { have := (X.priv _ X.ok.loc).2.1; rw [e, this] at q2; cases q2 }), o, q2⟩

theorem Mo.storeC {h' : Heap} {x : Str} {c : Addr} {v : Value} {d : D} {t : Nat} (X : Mo C K σ F s)
    (hx : C.env.kindOf x = some .cell) (hc : C.env.cells.lookup x = some c) (hcp : c ∈ C.priv) (hs : Heap.SameBut c s.heap h') (hn : h'.IsCell c (some v)) (hr : Rep F v d) :
    Mo C K (σ.set x d) F { s with heap := h', toks := t } := by
  have hp := X.priv _ hcp
  have hcm := mem_of_lookup hc
  obtain ⟨m, hns, hm⟩ := X.loc
  have hLc : C.env.locals ≠ c := fun e => X.ok.cne _ hcm e.symm
  have ex : ∀ b o, s.heap.get? b = some o → ∃ o, h'.get? b = some o := fun b o e => by
    by_cases h : b = c
    · subst h; obtain ⟨o, e, r⟩ := hn; exact ⟨o, e⟩
    · exact ⟨o, (hs.2 b h).trans e⟩
  refine ⟨X.ok, X.am.other hs hp.1 hp.2.1 (fun p hq e => X.pmu p hq (e ▸ hcp)), fun b hb => ?_, fun y hy => ?_, ⟨m, hns.sameBut hs hLc, fun y dy e => ?_⟩, X.pmu, fun p hq => ?_, X.pre⟩
  · obtain ⟨h1, h2, o, h3⟩ := X.priv b hb
    exact ⟨h1, h2, ex b o h3⟩
  · by_cases e : y.2 = c
    · refine ⟨?_, ?_⟩
      · rw [e]; exact ⟨_, hn⟩
      · exact Or.inl (e ▸ hcp)
    · obtain ⟨⟨v, o, e1, e2⟩, e3⟩ := X.live y hy
      exact ⟨⟨v, o, (hs.2 _ e).trans e1, e2⟩, e3⟩
  · simp only [St.set, List.lookup_cons] at e
    by_cases hyx : y = x
    · subst hyx
      simp only [beq_self_eq_true, Option.some.injEq] at e
      subst e
      refine ⟨v, ?_, hr⟩
      unfold VarAt
      rw [hx]
      exact ⟨c, hc, hn⟩
    · have hb : (y == x) = false := beq_eq_false_iff_ne.mpr hyx
      simp only [hb] at e
      obtain ⟨v', e1, e2⟩ := hm y dy e
      refine ⟨v', ?_, e2⟩
      exact e1.imp (fun _ e => e) fun c' f1 ⟨o, f2, f3⟩ => ⟨o, (hs.2 c' (fun q => hyx (name_of_addr X.ok.apart (mem_of_lookup f1) (by rw [q]; exact hcm)))).trans f2, f3⟩
  · obtain ⟨q1, o, q2⟩ := X.ro p hq
    exact ⟨q1.sameBut hs (fun e => by { have := (X.priv _ hcp).2.1; rw [e, this] at q2; cases q2 }), o, q2⟩

theorem Am.dropExt {G : Gx} {K F : Fz} {mu : Mu} {s : Shared} {h' : Heap} {a : Addr} {mo : MO} {t : Nat} (X : Am G K ((a, mo) :: mu) F s) (hs : Heap.ExtBut a s.heap h') : Am G K mu F { s with heap := h', toks := t } := by
  obtain ⟨h1, h2, h3⟩ := X.mus (a, mo) (.head _)
  have nd := X.nd
  rw [List.map_cons, List.nodup_cons] at nd
  refine ⟨X.ok, X.base, fun b o e => hs b o (fun q => by subst q; rw [h2] at e; cases e) (X.frz b o e), X.dis, fun b o e => hs b o (fun q => by subst q; rw [h3] at e; cases e) (X.keep b o e), fun p hp => ?_, nd.2, X.gens, X.drawn, X.os⟩
  have hpa : p.1 ≠ a := fun e => nd.1 (List.mem_map.mpr ⟨p, hp, e⟩)
  obtain ⟨e1, e2⟩ := X.mus p (.tail _ hp)
  exact ⟨e1.mono (Fle.refl _) fun o e => hs _ _ hpa e, e2⟩
theorem get_of_ext {h h' : Heap} {a b : Addr} {o : Obj} (hs : Heap.ExtBut a h h') (hb : b ≠ a) (e : h.get? b = some o) : h'.get? b = h.get? b := (hs b o hb e).trans e.symm
theorem Mo.dropExt {h' : Heap} {a : Addr} {mo : MO} {mu : Mu} {t : Nat} (X : Mo C K σ F s) (hσ : σ.mu = (a, mo) :: mu) (hs : Heap.ExtBut a s.heap h') : Mo C K (σ.setMu mu) F { s with heap := h', toks := t } := by
  have A := X.am
  rw [hσ] at A
  have ha : a ∉ C.priv := X.pmu (a, mo) (by rw [hσ]; exact .head _)
  refine X.with (A.dropExt hs) (fun b hb => ⟨(X.priv b hb).1, ?_⟩) (Fle.refl _) fun p hp => X.pmu p (by rw [hσ]; exact .tail _ hp)
  obtain ⟨o, ho⟩ := (X.priv b hb).2.2
  exact get_of_ext hs (fun e => ha (e ▸ hb)) ho

theorem Mo.weak {σ' : St} (X : Mo C K σ F s) (hv : ∀ y d, σ'.vars.lookup y = some d → σ.vars.lookup y = some d) (hm : σ'.mu = σ.mu) : Mo C K σ' F s := by
  obtain ⟨m, hn, hv'⟩ := X.loc
  exact ⟨X.ok, hm ▸ X.am, X.priv, X.live, ⟨m, hn, fun x d e => hv' x d (hv _ _ e)⟩, hm ▸ X.pmu, X.ro, X.pre⟩

noncomputable def full (F : Fz) (h : Heap) (ex : List Addr) : Fz := fun a => if F a = none ∧ a ∉ ex then h.get? a else none
theorem full_some {F : Fz} {h : Heap} {ex : List Addr} {a : Addr} {o : Obj} (e : full F h ex a = some o) : F a = none ∧ a ∉ ex ∧ h.get? a = some o := by
  unfold full at e
  split at e
  · rename_i q; exact ⟨q.1, q.2, e⟩
  · cases e
theorem full_of {F : Fz} {h : Heap} {ex : List Addr} {a : Addr} {o : Obj} (h1 : F a = none) (h2 : a ∉ ex) (h3 : h.get? a = some o) : full F h ex a = some o := by
  unfold full; rw [if_pos ⟨h1, h2⟩]; exact h3
theorem full_none {F : Fz} {h : Heap} {ex : List Addr} {a : Addr} (h1 : a ∈ ex ∨ h.get? a = none) : full F h ex a = none := by
  unfold full
  split
  · rename_i q
    rcases h1 with h1 | h1
    · exact absurd h1 q.2
    · exact h1
  · rfl
theorem Am.leave {G : Gx} {K F : Fz} {mu : Mu} {s : Shared} {pas oth : Mu} (X : Am G K mu F s) (hm : mu = pas ++ oth) : Am G (full F s.heap (pas.map (·.1))) pas F s := by
  subst hm
  have nd := X.nd
  rw [List.map_append] at nd
  refine ⟨X.ok, X.base, X.frz, fun a o e => (full_some e).1, fun a o e => (full_some e).2.2, fun p hp => ?_, (List.nodup_append.mp nd).1, X.gens, X.drawn, X.os⟩
  obtain ⟨h1, h2, h3⟩ := X.mus p (List.mem_append_left _ hp)
  exact ⟨h1, h2, full_none (.inl (List.mem_map_of_mem hp))⟩
theorem Mo.back {F' : Fz} {s' : Shared} {pas oth mu' : Mu} (X : Mo C K σ F s) (hσ : σ.mu = pas ++ oth) (A : Am C.G (full F s.heap (pas.map (·.1))) mu' F' s') (hF : Fle F F') : Mo C K (σ.setMu (mu' ++ oth)) F' s' := by
  have key : ∀ a o, F a = none → a ∉ pas.map (·.1) → s.heap.get? a = some o → s'.heap.get? a = s.heap.get? a ∧ F' a = none := fun a o h1 h2 h3 => by
    have := full_of h1 h2 h3
    exact ⟨(A.keep _ _ this).trans h3.symm, A.dis _ _ this⟩
  have X0 := X.am
  rw [hσ] at X0
  have nd := X0.nd
  rw [List.map_append] at nd
  have nd' := List.nodup_append.mp nd
  have kout : ∀ a o, K a = some o → a ∉ pas.map (·.1) := fun a o e hm => by
    obtain ⟨p, hp, e'⟩ := List.mem_map.mp hm
    have := (X0.mus p (List.mem_append_left _ hp)).2.2
    rw [e', e] at this; cases this
  have kk : ∀ a o, K a = some o → s'.heap.get? a = s.heap.get? a ∧ F' a = none := fun a o e => key a o (X.am.dis _ _ e) (kout a o e) (X.am.keep _ _ e)
  have pk : ∀ a ∈ C.priv, s'.heap.get? a = s.heap.get? a ∧ F' a = none := fun a ha => by
    obtain ⟨h1, h2, o, h3⟩ := X.priv a ha
    refine key a o h1 (fun hm => ?_) h3
    obtain ⟨p, hp, e'⟩ := List.mem_map.mp hm
    exact X.pmu p (by rw [hσ]; exact List.mem_append_left _ hp) (e' ▸ ha)
  have ok : ∀ p ∈ oth, s'.heap.get? p.1 = s.heap.get? p.1 ∧ F' p.1 = none := fun p hp => by
    obtain ⟨h1, h2, h3⟩ := X0.mus p (List.mem_append_right _ hp)
    obtain ⟨o, ho⟩ := h1.some
    exact key p.1 o h2 (fun hm => nd'.2.2 _ hm _ (List.mem_map_of_mem hp) rfl) ho
  have mk : ∀ p ∈ mu', ∀ a o, F a = none → a ∉ pas.map (·.1) → s.heap.get? a = some o → p.1 ≠ a := fun p hp a o h1 h2 h3 e => by
    have := (A.mus p hp).2.2
    rw [e, full_of h1 h2 h3] at this; cases this
  have AA : Am C.G K (mu' ++ oth) F' s' := by
    refine ⟨A.ok, A.base, A.frz, fun a o e => (kk a o e).2, fun a o e => (kk a o e).1.trans (X.am.keep _ _ e), fun p hp => ?_, ?_, A.gens, A.drawn, A.os⟩
    · rcases List.mem_append.mp hp with hp | hp
      · obtain ⟨h1, h2, h3⟩ := A.mus p hp
        refine ⟨h1, h2, ?_⟩
        cases e : K p.1 with
        | none => rfl
        | some o => exact absurd rfl (mk p hp p.1 o (X.am.dis _ _ e) (kout _ _ e) (X.am.keep _ _ e))
      · obtain ⟨h1, h2, h3⟩ := X0.mus p (List.mem_append_right _ hp)
        exact ⟨h1.mono hF fun o e => (ok p hp).1.trans e, (ok p hp).2, h3⟩
    · rw [List.map_append, List.nodup_append]
      refine ⟨A.nd, nd'.2.1, fun a ha b hb e => ?_⟩
      subst e
      obtain ⟨p, hp, e1⟩ := List.mem_map.mp ha
      obtain ⟨q, hq, e2⟩ := List.mem_map.mp hb
      obtain ⟨h1, h2, h3⟩ := X0.mus q (List.mem_append_right _ hq)
      obtain ⟨o, ho⟩ := h1.some
      exact mk p hp q.1 o h2 (fun hm => nd'.2.2 _ hm _ (List.mem_map_of_mem hq) rfl) ho (e1.trans e2.symm)
  refine X.frame AA (fun a ha => ⟨(pk a ha).2, (X.priv a ha).2.1, (pk a ha).1⟩) (fun x hx hn => ?_) hF (fun p hp => ?_) (fun p hp => ?_) (X.ok.mon _ _ _ _ X.pre (Fle.refl _) hF)
  · rcases (X.live x hx).2 with h | ⟨o, h⟩
    · exact absurd h hn
    · exact ⟨⟨o, h⟩, (kk _ _ h).1⟩
  · rcases List.mem_append.mp hp with hp | hp
    · intro ha
      obtain ⟨h1, h2, o, h3⟩ := X.priv _ ha
      refine mk p hp p.1 o h1 (fun hm => ?_) h3 rfl
      obtain ⟨q, hq, e'⟩ := List.mem_map.mp hm
      exact X.pmu q (by rw [hσ]; exact List.mem_append_left _ hq) (e' ▸ ha)
    · exact X.pmu p (by rw [hσ]; exact List.mem_append_right _ hp)
  · obtain ⟨o, h⟩ := (X.ro p hp).2
    exact ⟨(kk _ _ h).1, o, h⟩
theorem Mo.preFull {ex : List Addr} (X : Mo C K σ F s) (h : ∀ a ∈ ex, K a = none) : C.pre (full F s.heap ex) F :=
  X.ok.mon _ _ _ _ X.pre (fun a o e => full_of (X.am.dis _ _ e) (fun hm => by rw [h a hm] at e; cases e) (X.am.keep _ _ e)) (Fle.refl _)
theorem Mo.apartMu {p : Addr × MO} (X : Mo C K σ F s) (hp : p ∈ σ.mu) : (∀ x ∈ C.env.cells, x.2 ≠ p.1) ∧ (∀ q ∈ C.ro, q.1 ≠ p.1) := by
  refine ⟨fun x hx e => ?_, fun q hq e => ?_⟩
  · rcases (X.live x hx).2 with h | ⟨o, h⟩
    · exact X.pmu p hp (e ▸ h)
    · have := (X.am.mus p hp).2.2
      rw [← e, h] at this; cases this
  · obtain ⟨o, h⟩ := (X.ro q hq).2
    have := (X.am.mus p hp).2.2
    rw [← e, h] at this; cases this
end
end Mine
end

section
set_option Elab.async false
set_option linter.unusedVariables false
namespace Mine
open PySem PySem.W PyProof.Rows PySem.Calls

noncomputable def Ev (C : Cx) (σ : St) (e : Expr) (d : D) : Prop :=
  ∀ (K F : Fz) (s : Shared) (Q : Value → Shared → Prop) (E : Value → Shared → Prop), Mo C K σ F s →
    (∀ F' v s', Mo C K σ F' s' → Fle F F' → Rep F' v d → Q v s') → wpAny C.G.M C.A (eval e C.env) Q E s

noncomputable def EvT (C : Cx) (σ : St) (e : Expr) (b : Bool) : Prop :=
  ∀ (K F : Fz) (s : Shared) (Q : Bool → Shared → Prop) (E : Value → Shared → Prop), Mo C K σ F s →
    (∀ F' s', Mo C K σ F' s' → Fle F F' → Q b s') → wpAny C.G.M C.A (isTrue e C.env (eval e C.env)) Q E s

noncomputable def EvX (C : Cx) (σ : St) (e : Expr) (R : D → Mu → Prop) : Prop :=
  ∀ (K F : Fz) (s : Shared) (Q : Value → Shared → Prop) (E : Value → Shared → Prop), Mo C K σ F s →
    (∀ F' v s' d mu, R d mu → Mo C K (σ.setMu mu) F' s' → Fle F F' → Rep F' v d → Q v s') → wpAny C.G.M C.A (eval e C.env) Q E s

noncomputable def NewL (σ : St) (ds : List D) (d : D) (mu : Mu) : Prop := ∃ a, d = .ref a ∧ mu = (a, .list ds) :: σ.mu
noncomputable abbrev EvN (C : Cx) (σ : St) (e : Expr) (ds : List D) : Prop := EvX C σ e (NewL σ ds)

theorem Ev.of_new {C : Cx} {σ : St} {e : Expr} {ds : List D} (h : EvN C σ e ds) : Ev C σ e (.list ds) := fun K F s Q E X hQ =>
  h K F s Q E X fun F' v s' d mu ⟨a, e1, e2⟩ X' g r => by
    subst e1 e2
    obtain ⟨o, ho, ⟨o', vs, h1, h2, h3⟩, hF, X''⟩ := X'.freeze rfl
    have g' : Fle F' (F'.put a o) := Fle.put hF o
    refine hQ _ _ _ X'' (g.trans g') ?_
    rw [ho] at h1
    cases h1
    cases r.ref_inv
    exact .list (Fz.put_self _ _ _) h2 (h3.mono g')
theorem EvX.of {C : Cx} {σ : St} {e : Expr} {d : D} (h : Ev C σ e d) : EvX C σ e (fun d' mu => d' = d ∧ mu = σ.mu) := fun K F s Q E X hQ =>
  h K F s Q E X fun F' v s' X' g r => hQ F' v s' d σ.mu ⟨rfl, rfl⟩ X' g r
theorem EvX.mono {C : Cx} {σ : St} {e : Expr} {R R' : D → Mu → Prop} (h : EvX C σ e R) (hR : ∀ d mu, R d mu → R' d mu) : EvX C σ e R' := fun K F s Q E X hQ =>
  h K F s Q E X fun F' v s' d mu r => hQ F' v s' d mu (hR d mu r)
theorem Ev.cast {C : Cx} {σ : St} {e : Expr} {d d' : D} (h : Ev C σ e d) (hd : d = d') : Ev C σ e d' := hd ▸ h
theorem EvT.cast {C : Cx} {σ : St} {e : Expr} {d d' : Bool} (h : EvT C σ e d) (hd : d = d') : EvT C σ e d' := hd ▸ h
theorem EvN.cast {C : Cx} {σ : St} {e : Expr} {d d' : List D} (h : EvN C σ e d) (hd : d = d') : EvN C σ e d' := hd ▸ h

section
variable {C : Cx} {σ : St}

theorem Ev.int {i : Int} {k : Nat} {p : Pos} : Ev C σ (.Constant (.int i) k p) (.int i) := fun K F s Q E X hQ =>
  wpAny_Constant_int (hQ F _ _ (X.toks _) (Fle.refl _) (.int _ _))
theorem Ev.bool {i : Bool} {k : Nat} {p : Pos} : Ev C σ (.Constant (.bool i) k p) (.bool i) := fun K F s Q E X hQ =>
  wpAny_Constant_bool (hQ F _ _ X (Fle.refl _) (.bool _))
theorem Ev.none {k : Nat} {p : Pos} : Ev C σ (.Constant .none k p) .none := fun K F s Q E X hQ =>
  wpAny_Constant_none (hQ F _ _ X (Fle.refl _) .none)

theorem Ev.name {x : Str} {p : Pos} {d : D} (hx : σ.vars.lookup x = some d) (h1 : (x == ("__debug__" : Str)) = false := by decide) (h2 : (x == ("__classdict__" : Str)) = false := by decide) : Ev C σ (.Name x p) d := fun K F s Q E X hQ => by
  obtain ⟨m, hn, hm⟩ := X.loc
  obtain ⟨v, hv, hr⟩ := hm x d hx
  refine wpAny_Name ?_ h1
  have fin := hQ F v s X (Fle.refl _) hr
  unfold VarAt at hv
  split at hv
  · rename_i e; exact wpAny_loadName_local X.ok.fn e hn hv fin
  · rename_i e; obtain ⟨c, e1, e2⟩ := hv; exact wpAny_loadName_cell X.ok.fn e e1 e2 fin
  · rename_i e; obtain ⟨c, e1, e2⟩ := hv; exact wpAny_loadName_free X.ok.fn e e1 e2 fin h2
  · exact hv.elim

theorem Mo.nsg {K F : Fz} {s : Shared} (X : Mo C K σ F s) : s.heap.Ns C.env.globals C.G.mg := by
  rw [X.ok.gl]; exact X.am.ns
theorem Mo.nsb {K F : Fz} {s : Shared} (X : Mo C K σ F s) : s.heap.Ns C.env.builtins C.G.mb := by
  rw [X.ok.bu]; exact X.am.nsb

theorem gName {K F : Fz} {s : Shared} {Q : Value → Shared → Prop} {E : Value → Shared → Prop} {x : Str} {p : Pos} {v : Value} (X : Mo C K σ F s) (hk : C.env.kindOf x = some .globalImplicit) (hv : C.G.mg x = some v) (h : Q v s)
    (h1 : (x == ("__debug__" : Str)) = false := by decide) : wpAny C.G.M C.A (eval (.Name x p) C.env) Q E s :=
  Name_function_global X.ok.fn hk (loadGlobal_global X.nsg hv h) h1
theorem bName {K F : Fz} {s : Shared} {Q : Value → Shared → Prop} {E : Value → Shared → Prop} {x : Str} {p : Pos} {v : Value} (X : Mo C K σ F s) (hk : C.env.kindOf x = some .globalImplicit) (hn : C.G.mg x = none) (hv : C.G.mb x = some v) (h : Q v s)
    (h1 : (x == ("__debug__" : Str)) = false := by decide) : wpAny C.G.M C.A (eval (.Name x p) C.env) Q E s :=
  Name_function_global X.ok.fn hk (loadGlobal_builtin X.nsg hn X.nsb hv h) h1
theorem Ev.glob {x : Str} {p : Pos} {a : Addr} (hk : C.env.kindOf x = some .globalImplicit) (hv : C.G.mg x = some (.ref a)) (h1 : (x == ("__debug__" : Str)) = false := by decide) : Ev C σ (.Name x p) (.ref a) :=
  fun K F s Q E X hQ => gName X hk hv (hQ F _ s X (Fle.refl _) (.ref a)) h1

noncomputable def OpX (C : Cx) (σ : St) (t : Value → Value → Sem Value) (d1 d2 : D) (R : D → Mu → Prop) : Prop :=
  ∀ (K F : Fz) (s : Shared) (v1 v2 : Value) (Q : Value → Shared → Prop) (E : Value → Shared → Prop), Mo C K σ F s → Rep F v1 d1 → Rep F v2 d2 →
    (∀ F' v s' d mu, R d mu → Mo C K (σ.setMu mu) F' s' → Fle F F' → Rep F' v d → Q v s') → wpAny C.G.M C.A (t v1 v2) Q E s
noncomputable def OpSem (C : Cx) (σ : St) (t : Value → Value → Sem Value) (d1 d2 d : D) : Prop :=
  ∀ (K F : Fz) (s : Shared) (v1 v2 : Value) (Q : Value → Shared → Prop) (E : Value → Shared → Prop), Mo C K σ F s → Rep F v1 d1 → Rep F v2 d2 →
    (∀ F' v s', Mo C K σ F' s' → Fle F F' → Rep F' v d → Q v s') → wpAny C.G.M C.A (t v1 v2) Q E s

theorem Ev.bin {l r : Expr} {op : Operator} {p : Pos} {d1 d2 d : D} (hl : Ev C σ l d1) (hr : Ev C σ r d2) (ho : OpSem C σ (binaryOp op) d1 d2 d) : Ev C σ (.BinOp l op r p) d := fun K F s Q E X hQ =>
  wpAny_BinOp (hl K F s _ E X fun F1 v1 s1 X1 g1 r1 => hr K F1 s1 _ E X1 fun F2 v2 s2 X2 g2 r2 =>
    ho K F2 s2 v1 v2 Q E X2 (r1.mono g2) r2 fun F3 v s3 X3 g3 r3 => hQ F3 v s3 X3 ((g1.trans g2).trans g3) r3)
theorem EvX.bin {l r : Expr} {op : Operator} {p : Pos} {d1 d2 : D} {R : D → Mu → Prop} (hl : Ev C σ l d1) (hr : Ev C σ r d2) (ho : OpX C σ (binaryOp op) d1 d2 R) : EvX C σ (.BinOp l op r p) R := fun K F s Q E X hQ =>
  wpAny_BinOp (hl K F s _ E X fun F1 v1 s1 X1 g1 r1 => hr K F1 s1 _ E X1 fun F2 v2 s2 X2 g2 r2 =>
    ho K F2 s2 v1 v2 Q E X2 (r1.mono g2) r2 fun F3 v s3 d mu hR X3 g3 r3 => hQ F3 v s3 d mu hR X3 ((g1.trans g2).trans g3) r3)
theorem Op.add {a b : Int} : OpSem C σ (binaryOp .Add) (.int a) (.int b) (.int (a + b)) := fun K F s v1 v2 Q E X r1 r2 hQ => by
  obtain ⟨t, rfl⟩ := r1.int_inv; obtain ⟨u, rfl⟩ := r2.int_inv
  exact add_int (hQ F _ _ (X.toks _) (Fle.refl _) (.int _ _))
theorem Op.sub {a b : Int} : OpSem C σ (binaryOp .Sub) (.int a) (.int b) (.int (a - b)) := fun K F s v1 v2 Q E X r1 r2 hQ => by
  obtain ⟨t, rfl⟩ := r1.int_inv; obtain ⟨u, rfl⟩ := r2.int_inv
  exact sub_int (hQ F _ _ (X.toks _) (Fle.refl _) (.int _ _))
theorem Op.mul {a b : Int} (hm : IntMulOk a b) : OpSem C σ (binaryOp .Mult) (.int a) (.int b) (.int (a * b)) := fun K F s v1 v2 Q E X r1 r2 hQ => by
  obtain ⟨t, rfl⟩ := r1.int_inv; obtain ⟨u, rfl⟩ := r2.int_inv
  exact mul_int (hQ F _ _ (X.toks _) (Fle.refl _) (.int _ _)) hm
theorem Op.mod {a b : Int} (hb : b ≠ 0) : OpSem C σ (binaryOp .Mod) (.int a) (.int b) (.int (a.fmod b)) := fun K F s v1 v2 Q E X r1 r2 hQ => by
  obtain ⟨t, rfl⟩ := r1.int_inv; obtain ⟨u, rfl⟩ := r2.int_inv
  exact mod_int' hb (hQ F _ _ (X.toks _) (Fle.refl _) (.int _ _))
theorem Op.div {a b : Int} (hb : b ≠ 0) (hs : b.natAbs < 1073741824) : OpSem C σ (binaryOp .FloorDiv) (.int a) (.int b) (.int (a.fdiv b)) := fun K F s v1 v2 Q E X r1 r2 hQ => by
  obtain ⟨t, rfl⟩ := r1.int_inv; obtain ⟨u, rfl⟩ := r2.int_inv
  exact floordiv_int hb (hQ F _ _ (X.toks _) (Fle.refl _) (.int _ _)) (Or.inl (PyProof.noPylong_small hs))

noncomputable def Items (C : Cx) (σ : St) (d : D) (ds : List D) : Prop := d = .list ds ∨ ∃ a, d = .ref a ∧ ((a, MO.list ds) ∈ σ.mu ∨ (a, MO.list ds) ∈ C.ro)
theorem Items.list {ds : List D} : Items C σ (.list ds) ds := .inl rfl
theorem Items.mu {a : Addr} {ds : List D} (h : (a, MO.list ds) ∈ σ.mu) : Items C σ (.ref a) ds := .inr ⟨a, rfl, .inl h⟩
theorem Items.ro {a : Addr} {ds : List D} (h : (a, MO.list ds) ∈ C.ro) : Items C σ (.ref a) ds := .inr ⟨a, rfl, .inr h⟩

theorem MO.At.isL {F : Fz} {h : Heap} {a : Addr} {ds : List D} (x : (MO.list ds).At F h a) : ∃ vs n, IsL h a vs.toArray n ∧ RepL F vs ds ∧ vs.length ≤ 100000 := by
  obtain ⟨o, vs, h1, ⟨h2, n, rfl⟩, h3⟩ := x
  exact ⟨vs, n, h1, h3, h2⟩
theorem Items.at {K F : Fz} {s : Shared} {v : Value} {d : D} {ds : List D} (X : Mo C K σ F s) (h : Items C σ d ds) (r : Rep F v d) :
    ∃ a vs n, v = .ref a ∧ IsL s.heap a vs.toArray n ∧ RepL F vs ds ∧ vs.length ≤ 100000 := by
  rcases h with rfl | ⟨a, rfl, h | h⟩
  · obtain ⟨a, o, vs, rfl, h1, ⟨h2, n, rfl⟩, h3⟩ := r.list_inv
    exact ⟨a, vs, n, rfl, X.am.frz _ _ h1, h3, h2⟩
  · obtain ⟨vs, n, k⟩ := (X.am.mus _ h).1.isL
    exact ⟨a, vs, n, r.ref_inv, k⟩
  · obtain ⟨vs, n, k⟩ := (X.ro _ h).1.isL
    exact ⟨a, vs, n, r.ref_inv, k⟩
theorem tup_at {K F : Fz} {s : Shared} {v : Value} {ds : List D} (X : Mo C K σ F s) (r : Rep F v (.tup ds)) :
    ∃ a vs n, v = .ref a ∧ s.heap.get? a = some { cls := .type "tuple", data := .seq vs.toArray n } ∧ RepL F vs ds ∧ vs.length ≤ 100000 := by
  obtain ⟨a, o, vs, rfl, h1, ⟨h2, n, rfl⟩, h3⟩ := r.tup_inv
  exact ⟨a, vs, n, rfl, X.am.frz _ _ h1, h3, h2⟩

theorem Mo.newList {K F : Fz} {s : Shared} (X : Mo C K σ F s) {vs : List Value} {ds : List D} (hr : RepL F vs ds) (hl : vs.length ≤ 100000) (t : Nat) :
    Mo C K (σ.setMu ((s.heap.objs.size, .list ds) :: σ.mu)) F { s with heap := s.heap.push { cls := .type "list", data := .seq vs.toArray }, toks := t } :=
  X.allocMu _ _ t ⟨_, vs, Heap.get?_push_size _ rfl, ⟨hl, 0, rfl⟩, hr⟩
theorem fitsSz {n : Nat} (h : n ≤ 200000) : n ≤ sizeLine := by rw [sizeLine_eq]; lia

theorem OpN.concat {d1 d2 : D} {ds1 ds2 : List D} (i1 : Items C σ d1 ds1) (i2 : Items C σ d2 ds2) (hz : ds1.length + ds2.length ≤ 100000) : OpX C σ (binaryOp .Add) d1 d2 (NewL σ (ds1 ++ ds2)) := fun K F s v1 v2 Q E X r1 r2 hQ => by
  obtain ⟨a, vs, n, rfl, h1, h2, h3⟩ := i1.at X r1
  obtain ⟨b, ws, m, rfl, k1, k2, k3⟩ := i2.at X r2
  refine P.add_list h1 k1 ?_ (fitsSz (by simp only [List.size_toArray]; lia))
  rw [show vs.toArray ++ ws.toArray = (vs ++ ws).toArray by simp]
  have l1 := h2.length
  have l2 := k2.length
  exact hQ F _ _ _ _ ⟨_, rfl, rfl⟩ (X.newList (h2.append k2) (by rw [List.length_append]; lia) _) (Fle.refl _) (.ref _)

noncomputable def EvL (C : Cx) (σ : St) (es : List Expr) (ds : List D) : Prop :=
  ∀ (pos : Pos) (K F : Fz) (s : Shared) (Q : List Value → Shared → Prop) (E : Value → Shared → Prop), Mo C K σ F s →
    (∀ F' vs s', Mo C K σ F' s' → Fle F F' → RepL F' vs ds → Q vs s') → wpAny C.G.M C.A (spliced (backTo pos (starEach es C.env))) Q E s
theorem EvL.nil : EvL C σ [] [] := fun pos K F s Q E X hQ => wpAny_items_nil (hQ F _ _ X (Fle.refl _) .nil)
theorem EvL.cons {e : Expr} {es : List Expr} {d : D} {ds : List D} (h : Ev C σ e d) (hr : EvL C σ es ds) (he : starEach (e :: es) C.env = (false, eval e C.env) :: starEach es C.env := by rfl) : EvL C σ (e :: es) (d :: ds) := fun pos K F s Q E X hQ =>
  wpAny_items_cons (h K F s _ E X fun F1 v s1 X1 g1 r1 => hr pos K F1 s1 _ E X1 fun F2 vs s2 X2 g2 r2 => hQ F2 _ s2 X2 (g1.trans g2) (.cons (r1.mono g2) r2)) he
theorem EvN.list {es : List Expr} {pos : Pos} {ds : List D} (h : EvL C σ es ds) (hz : ds.length ≤ 100000) : EvN C σ (.List es pos) ds := fun K F s Q E X hQ =>
  wpAny_List (h pos K F s _ E X fun F' vs s' X' g r => by
    have hl := r.length
    exact ⟨fitsSz (by lia), hQ F' _ _ _ _ ⟨_, rfl, rfl⟩ (X'.newList r (by lia) _) g (.ref _)⟩)
noncomputable abbrev CmpSem (C : Cx) (σ : St) (op : CmpOp) (d1 d2 : D) (b : Bool) : Prop := OpSem C σ (compareOp op) d1 d2 (.bool b)

theorem Ev.cmp {l r : Expr} {op : CmpOp} {p : Pos} {d1 d2 : D} {b : Bool} (hl : Ev C σ l d1) (hr : Ev C σ r d2) (ho : CmpSem C σ op d1 d2 b) (hm : behindInMarks op r = false := by with_unfolding_all rfl) :
    Ev C σ (.Compare l [op] [r] p) (.bool b) := fun K F s Q E X hQ =>
  wpAny_Compare1 (hl K F s _ E X fun F1 v1 s1 X1 g1 r1 => hr K F1 s1 _ E X1 fun F2 v2 s2 X2 g2 r2 =>
    ho K F2 s2 v1 v2 Q E X2 (r1.mono g2) r2 fun F3 v s3 X3 g3 r3 => hQ F3 v s3 X3 ((g1.trans g2).trans g3) r3) hm
theorem EvT.cmp {l r : Expr} {op : CmpOp} {p : Pos} {d1 d2 : D} {b : Bool} (hl : Ev C σ l d1) (hr : Ev C σ r d2) (ho : CmpSem C σ op d1 d2 b) (hm : behindInMarks op r = false := by with_unfolding_all rfl) :
    EvT C σ (.Compare l [op] [r] p) b := fun K F s Q E X hQ =>
  wpAny_isTrue_Compare1 (hl K F s _ E X fun F1 v1 s1 X1 g1 r1 => hr K F1 s1 _ E X1 fun F2 v2 s2 X2 g2 r2 =>
    ho K F2 s2 v1 v2 _ E X2 (r1.mono g2) r2 fun F3 v s3 X3 g3 r3 => by
      cases r3.bool_inv
      exact wpAny_truthy_bool (hQ F3 s3 X3 ((g1.trans g2).trans g3))) hm

theorem Cm.lt {a b : Int} : CmpSem C σ .Lt (.int a) (.int b) (decide (a < b)) := fun K F s v1 v2 Q E X r1 r2 hQ => by
  obtain ⟨t, rfl⟩ := r1.int_inv; obtain ⟨u, rfl⟩ := r2.int_inv
  exact lt_int (hQ F _ _ X (Fle.refl _) (.bool _))
theorem Cm.gt {a b : Int} : CmpSem C σ .Gt (.int a) (.int b) (decide (b < a)) := fun K F s v1 v2 Q E X r1 r2 hQ => by
  obtain ⟨t, rfl⟩ := r1.int_inv; obtain ⟨u, rfl⟩ := r2.int_inv
  exact gt_int (hQ F _ _ X (Fle.refl _) (.bool _))
theorem Cm.ge {a b : Int} : CmpSem C σ .GtE (.int a) (.int b) (decide (b ≤ a)) := fun K F s v1 v2 Q E X r1 r2 hQ => by
  obtain ⟨t, rfl⟩ := r1.int_inv; obtain ⟨u, rfl⟩ := r2.int_inv
  exact PyProof.Rows.ge_int (hQ F _ _ X (Fle.refl _) (.bool _))
theorem Cm.eq {a b : Int} : CmpSem C σ .Eq (.int a) (.int b) (a == b) := fun K F s v1 v2 Q E X r1 r2 hQ => by
  obtain ⟨t, rfl⟩ := r1.int_inv; obtain ⟨u, rfl⟩ := r2.int_inv
  exact eq_int (hQ F _ _ X (Fle.refl _) (.bool _))
theorem Cm.ne {a b : Int} : CmpSem C σ .NotEq (.int a) (.int b) (a != b) := fun K F s v1 v2 Q E X r1 r2 hQ => by
  obtain ⟨t, rfl⟩ := r1.int_inv; obtain ⟨u, rfl⟩ := r2.int_inv
  exact ne_int (hQ F _ _ X (Fle.refl _) (.bool _))

theorem EvT.not {x : Expr} {p : Pos} {b : Bool} (h : EvT C σ x b) : EvT C σ (.UnaryOp .Not x p) (!b) := fun K F s Q E X hQ =>
  wpAny_isTrue_Not (h K F s _ E X fun F' s' X' g => hQ F' s' X' g)
theorem EvT.and {x y : Expr} {p : Pos} {a b : Bool} (hx : EvT C σ x a) (hy : a = true → EvT C σ y b) : EvT C σ (.BoolOp .And [x, y] p) (a && b) := fun K F s Q E X hQ => by
  refine wpAny_isTrue_BoolOp (wpAny_allTrue_And_cons (hx K F s _ E X fun F1 s1 X1 g1 => ?_))
  cases a with
  | false => exact hQ F1 s1 X1 g1
  | true =>
    refine wpAny_allTrue_And_cons (hy rfl K F1 s1 _ E X1 fun F2 s2 X2 g2 => ?_)
    have q := hQ F2 s2 X2 (g1.trans g2)
    cases b with
    | false => exact q
    | true => exact wpAny_allTrue_And_nil q
theorem EvT.or {x y : Expr} {p : Pos} {a b : Bool} (hx : EvT C σ x a) (hy : a = false → EvT C σ y b) : EvT C σ (.BoolOp .Or [x, y] p) (a || b) := fun K F s Q E X hQ => by
  refine wpAny_isTrue_BoolOp (wpAny_allTrue_Or_cons (hx K F s _ E X fun F1 s1 X1 g1 => ?_))
  cases a with
  | true => exact hQ F1 s1 X1 g1
  | false =>
    refine wpAny_allTrue_Or_cons (hy rfl K F1 s1 _ E X1 fun F2 s2 X2 g2 => ?_)
    have q := hQ F2 s2 X2 (g1.trans g2)
    cases b with
    | true => exact q
    | false => exact wpAny_allTrue_Or_nil q
theorem EvT.bool {e : Expr} {b : Bool} (h : Ev C σ e (.bool b)) (he : ∀ whole, isTrue e C.env whole = (do let v ← whole; standAt e.pos; holding [v] (truthy v)) := by intro _; rfl) : EvT C σ e b := fun K F s Q E X hQ =>
  wpAny_isTrue_value (h K F s _ E X fun F' v s' X' g r => by cases r.bool_inv; exact wpAny_truthy_bool (hQ F' s' X' g)) (he _)
theorem EvT.list {e : Expr} {d : D} {ds : List D} (h : Ev C σ e d) (hi : Items C σ d ds) (he : ∀ whole, isTrue e C.env whole = (do let v ← whole; standAt e.pos; holding [v] (truthy v)) := by intro _; rfl) : EvT C σ e (!ds.isEmpty) := fun K F s Q E X hQ =>
  wpAny_isTrue_value (h K F s _ E X fun F' v s' X' g r => by
    obtain ⟨a, vs, n, rfl, h1, h2, h3⟩ := hi.at X' r
    refine wpAny_truthy_list (IsL.isList h1) (by rw [List.size_toArray]; lia) ?_
    have : vs.toArray.isEmpty = ds.isEmpty := by
      have := h2.length
      cases vs <;> cases ds <;> simp at this ⊢
    rw [this]
    exact hQ F' _ (X'.toks _) g) (he _)

theorem Ev.isNone {x : Expr} {p pc : Pos} {k : Nat} {d : D} (h : Ev C σ x d) (hd : d = .none ∨ ∃ i, d = .int i) : EvT C σ (.Compare x [.Is] [.Constant .none k pc] p) (match d with | .none => true | _ => false) := fun K F s Q E X hQ => by
  refine wpAny_isTrue_Compare1 (h K F s _ E X fun F' v s' X' g r => wpAny_Constant_none ?_) (by with_unfolding_all rfl)
  rcases hd with rfl | ⟨i, rfl⟩
  · cases r.none_inv
    exact wpAny_is_self rfl (wpAny_truthy_bool (hQ F' s' X' g))
  · obtain ⟨t, rfl⟩ := r.int_inv
    exact wpAny_is_other rfl (by intro e; cases e) (wpAny_truthy_bool (hQ F' s' X' g))
end
end Mine
end

section
set_option Elab.async false
set_option linter.unusedVariables false
namespace Mine
open PySem PySem.W PyProof.Rows PySem.Calls

section
variable {C : Cx} {σ : St}

theorem Ev.idx {value slice : Expr} {p : Pos} {d x : D} {ds : List D} {k : Int} (hv : Ev C σ value d) (hi : Items C σ d ds) (hs : Ev C σ slice (.int k)) (h0 : 0 ≤ k) (hx : ds[k.toNat]? = some x)
    (ho : ∀ a t, subscripted slice false (.ref a) (.int k t) = operate [.ref a, .int k t] (getItem (.ref a) (.int k t)) := by intro _ _; with_unfolding_all rfl) : Ev C σ (.Subscript value slice p) x := fun K F s Q E X hQ => by
  refine Subscript_ (hv K F s _ E X fun F1 v1 s1 X1 g1 r1 => hs K F1 s1 _ E X1 fun F2 v2 s2 X2 g2 r2 => ?_)
  obtain ⟨a, vs, n, rfl, h1, h2, h3⟩ := hi.at X2 (r1.mono g2)
  obtain ⟨t, rfl⟩ := r2.int_inv
  obtain ⟨v, hv, hr⟩ := h2.get hx
  have hlt : k.toNat < ds.length := (List.getElem?_eq_some_iff.mp hx).1
  have hl := h2.length
  exact tail_any (IsL.isList h1).typeIs slot_list_getitem.lookup (wpAny_getItem_list (IsL.isList h1) h0 (by lia) (by simpa using hv) (hQ F2 v s2 X2 (g1.trans g2) hr)) (ho a t)

theorem Ev.tupIdx {value slice : Expr} {p : Pos} {x : D} {ds : List D} {k : Int} (hv : Ev C σ value (.tup ds)) (hs : Ev C σ slice (.int k)) (h0 : 0 ≤ k) (hx : ds[k.toNat]? = some x)
    (ho : ∀ a t, subscripted slice false (.ref a) (.int k t) = operate [.ref a, .int k t] (getItem (.ref a) (.int k t)) := by intro _ _; with_unfolding_all rfl) : Ev C σ (.Subscript value slice p) x := fun K F s Q E X hQ => by
  refine Subscript_ (hv K F s _ E X fun F1 v1 s1 X1 g1 r1 => hs K F1 s1 _ E X1 fun F2 v2 s2 X2 g2 r2 => ?_)
  obtain ⟨a, vs, n, rfl, h1, h2, h3⟩ := tup_at X2 (r1.mono g2)
  obtain ⟨t, rfl⟩ := r2.int_inv
  obtain ⟨v, hv, hr⟩ := h2.get hx
  have hlt : k.toNat < ds.length := (List.getElem?_eq_some_iff.mp hx).1
  have hl := h2.length
  refine item_tupleT (l := vs) (j := k.toNat) ⟨_, h1, rfl, _, rfl⟩ (by lia) (by lia) (seqIndex_of h0 (by lia)) hv (hQ F2 v s2 X2 (g1.trans g2) hr) (ho a t)

noncomputable def EvP (C : Cx) (σ : St) (e : Option Expr) (k : Option Int) : Prop :=
  ∀ (K F : Fz) (s : Shared) (Q : Value → Shared → Prop) (E : Value → Shared → Prop), Mo C K σ F s →
    (∀ F' v s', Mo C K σ F' s' → Fle F F' → IsPart v k → Q v s') → wpAny C.G.M C.A (evalPart e C.env) Q E s
theorem EvP.none : EvP C σ none none := fun K F s Q E X hQ => by
  rw [evalPart_none]
  exact wpAny_pure (hQ F _ s X (Fle.refl _) .none)
theorem EvP.some {e : Expr} {k : Int} (h : Ev C σ e (.int k)) : EvP C σ (some e) (some k) := fun K F s Q E X hQ => by
  rw [evalPart_some]
  refine h K F s _ E X fun F' v s' X' g r => ?_
  obtain ⟨t, rfl⟩ := r.int_inv
  exact hQ F' _ s' X' g (.int _ _)

theorem EvN.slice0 {value : Expr} {lower upper step : Option Expr} {p pos : Pos} {d : D} {ds ds' : List D} {lo hi st : Option Int} (hv : Ev C σ value d) (hi' : Items C σ d ds) (hl : EvP C σ lower lo) (hu : EvP C σ upper hi) (hst : EvP C σ step st) (h0 : st ≠ some 0)
    (hp : ∀ (F : Fz) (vs : List Value), RepL F vs ds → vs.length ≤ 100000 → ∃ ws, slicePick vs.toArray lo hi st = ws.toArray ∧ RepL F ws ds')
    (ho : ∀ a i, ∃ ops, subscripted (.Slice lower upper step p) false (.ref a) (.ref i) = operate ops (getItem (.ref a) (.ref i)) := by intro _ _; exact ⟨_, by with_unfolding_all rfl⟩) : EvN C σ (.Subscript value (.Slice lower upper step p) pos) ds' := fun K F s Q E X hQ => by
  refine Subscript_ (hv K F s _ E X fun F1 v1 s1 X1 g1 r1 => wpAny_Slice (hl K F1 s1 _ E X1 fun F2 v2 s2 X2 g2 r2 => hu K F2 s2 _ E X2 fun F3 v3 s3 X3 g3 r3 => hst K F3 s3 _ E X3 fun F4 v4 s4 X4 g4 r4 => ?_))
  obtain ⟨a, vs, n, rfl, h1, h2, h3⟩ := hi'.at X4 (((r1.mono g2).mono g3).mono g4)
  have hL : (s4.heap.push { cls := .type "slice", data := .fields #[v2, v3, v4] }).IsList a vs.toArray := (IsL.isList h1).push _
  obtain ⟨ws, e1, e2⟩ := hp F4 vs h2 h3
  have hz := slicePick_size_le vs.toArray lo hi st
  rw [e1, List.size_toArray, List.size_toArray] at hz
  refine tail_any hL.typeIs slot_list_getitem.lookup (wpAny_getItem_list_slice hL (Heap.IsSliceOf.new ..) r2 r3 r4 h0 ?_ (by rw [List.size_toArray]; exact fitsSz (by lia))) (ho _ _).choose_spec
  rw [e1]
  have X5 := X4.junk { cls := .type "slice", data := .fields #[v2, v3, v4] } s4.toks
  exact hQ F4 _ _ _ _ ⟨_, rfl, rfl⟩ (X5.newList e2 (by lia) s4.toks) (((g1.trans g2).trans g3).trans g4) (.ref _)

theorem EvN.upto {value upper : Expr} {p pos : Pos} {d : D} {ds : List D} {n : Nat} (hv : Ev C σ value d) (hi : Items C σ d ds) (hu : Ev C σ upper (.int n))
    (ho : ∀ a i, ∃ ops, subscripted (.Slice none (some upper) none p) false (.ref a) (.ref i) = operate ops (getItem (.ref a) (.ref i)) := by intro _ _; exact ⟨_, by with_unfolding_all rfl⟩) : EvN C σ (.Subscript value (.Slice none (some upper) none p) pos) (ds.take n) :=
  EvN.slice0 hv hi .none (.some hu) .none (by simp) (fun F vs h _ => ⟨vs.take n, slicePick_upto' _ _, h.take n⟩) ho
theorem EvN.from {value lower : Expr} {p pos : Pos} {d : D} {ds : List D} {n : Nat} (hv : Ev C σ value d) (hi : Items C σ d ds) (hu : Ev C σ lower (.int n))
    (ho : ∀ a i, ∃ ops, subscripted (.Slice (some lower) none none p) false (.ref a) (.ref i) = operate ops (getItem (.ref a) (.ref i)) := by intro _ _; exact ⟨_, by with_unfolding_all rfl⟩) : EvN C σ (.Subscript value (.Slice (some lower) none none p) pos) (ds.drop n) :=
  EvN.slice0 hv hi (.some hu) .none .none (by simp) (fun F vs h _ => ⟨vs.drop n, slicePick_from' _ _, h.drop n⟩) ho
theorem EvN.copy {value : Expr} {p pos : Pos} {d : D} {ds : List D} (hv : Ev C σ value d) (hi : Items C σ d ds)
    (ho : ∀ a i, ∃ ops, subscripted (.Slice none none none p) false (.ref a) (.ref i) = operate ops (getItem (.ref a) (.ref i)) := by intro _ _; exact ⟨_, by with_unfolding_all rfl⟩) : EvN C σ (.Subscript value (.Slice none none none p) pos) ds :=
  EvN.slice0 hv hi .none .none .none (by simp) (fun F vs h _ => ⟨vs, slicePick_all _, h⟩) ho
end
end Mine
end

section
set_option Elab.async false
set_option linter.unusedVariables false
namespace Mine
open PySem PySem.W PyProof.Rows PySem.Calls

structure IterOk (G : Gx) (A : Around) (K F : Fz) (it : Addr) (ds : List D) (P : Nat → Obj → Prop) : Prop where
  item : ∀ (k : Nat) (d : D) (F' : Fz) (s : Shared) (Q : Option Value → Shared → Prop) (E : Value → Shared → Prop), Fle F F' → (∀ a o, F' a = some o → s.heap.get? a = some o) → (∀ a o, K a = some o → s.heap.get? a = some o) → ds[k]? = some d →
    (∃ o, s.heap.get? it = some o ∧ P k o) → (∀ h' v t, Heap.SameBut it s.heap h' → (∃ o, h'.get? it = some o ∧ P (k + 1) o) → Rep F' v d → Q (some v) { s with heap := h', toks := t }) → wpAny (model G.prog G.w) A (pyNext (.ref it)) Q E s
  stop : ∀ (F' : Fz) (s : Shared) (Q : Option Value → Shared → Prop) (E : Value → Shared → Prop), Fle F F' → (∀ a o, F' a = some o → s.heap.get? a = some o) → (∀ a o, K a = some o → s.heap.get? a = some o) →
    (∃ o, s.heap.get? it = some o ∧ P ds.length o) → (∀ h' t, Heap.ExtBut it s.heap h' → Q none { s with heap := h', toks := t }) → wpAny (model G.prog G.w) A (pyNext (.ref it)) Q E s
  self : ∀ (k : Nat) (s : Shared) (Q : Value → Shared → Prop) (E : Value → Shared → Prop), (∃ o, s.heap.get? it = some o ∧ P k o) → Q (.ref it) s → wpAny (model G.prog G.w) A (pyIter (.ref it)) Q E s
theorem IterOk.mono {G : Gx} {A : Around} {K K' F F' : Fz} {it : Addr} {ds : List D} {P : Nat → Obj → Prop} (I : IterOk G A K F it ds P) (hK : Fle K K') (hF : Fle F F') : IterOk G A K' F' it ds P :=
  ⟨fun k d F2 s Q E h1 h2 h3 => I.item k d F2 s Q E (hF.trans h1) h2 fun a o e => h3 a o (hK a o e), fun F2 s Q E h1 h2 h3 => I.stop F2 s Q E (hF.trans h1) h2 fun a o e => h3 a o (hK a o e), I.self⟩

noncomputable def rints (lo hi : Int) : List D := (List.range (hi - lo).toNat).map fun i : Nat => D.int (lo + i)

inductive Src (K F : Fz) : Value → List D → Prop
  | list {a : Addr} {o : Obj} {vs : List Value} {ds : List D} : (F a = some o ∨ K a = some o) → LstO o vs → RepL F vs ds → Src K F (.ref a) ds
  | rng {a : Addr} {o : Obj} {lo hi : Int} : F a = some o → RngO o lo hi → (-1000000 ≤ lo ∧ lo ≤ 1000000 ∧ -1000000 ≤ hi ∧ hi ≤ 1000000) → Src K F (.ref a) (rints lo hi)

theorem pyIter_src {G : Gx} {A : Around} {K F : Fz} {v : Value} {ds : List D} {s : Shared} {Q : Value → Shared → Prop} {E : Value → Shared → Prop} (hh : A.handled = none) (S : Src K F v ds)
    (hF : ∀ a o, F a = some o → s.heap.get? a = some o) (hK : ∀ a o, K a = some o → s.heap.get? a = some o)
    (h : ∀ o P, o.isFreed = false → P 0 o → (∀ A : Around, A.handled = none → IterOk G A K F s.heap.objs.size ds P) → Q (.ref s.heap.objs.size) { s with heap := s.heap.push o }) : wpAny (model G.prog G.w) A (pyIter v) Q E s := by
  cases S with
  | @list a o vs ds ha hl hr =>
    obtain ⟨hlen, n, rfl⟩ := hl
    have hget : ∀ (F' : Fz) (s : Shared), Fle F F' → (∀ a o, F' a = some o → s.heap.get? a = some o) → (∀ a o, K a = some o → s.heap.get? a = some o) → s.heap.IsList a vs.toArray := fun F' s h1 h2 h3 => by
      rcases ha with ha | ha
      · exact ⟨_, h2 _ _ (h1 _ _ ha), rfl, n, rfl⟩
      · exact ⟨_, h3 _ _ ha, rfl, n, rfl⟩
    refine wpAny_pyIter_list (hget F s (Fle.refl _) hF hK) (h _ (fun k o => o.cls = .type "list_iterator" ∧ o.data = .fields #[.ref a, .int k 0]) rfl ⟨rfl, rfl⟩ fun A' hh' => ⟨?_, ?_, fun k s Q E ⟨o, ho, hc, hd⟩ hQ => wpAny_pyIter_listiter ⟨o, ho, hc, hd⟩ hQ⟩)
    · intro k d F' s Q E h1 h2 h3 hk ⟨o, ho, hc, hd⟩ hQ
      obtain ⟨v, hv, hr'⟩ := hr.get hk
      exact wpAny_pyNext_list_item ⟨o, ho, hc, hd⟩ (hget F' s h1 h2 h3) (by simpa using hv) fun h' hit hs => hQ h' v _ hs hit (hr'.mono h1)
    · intro F' s Q E h1 h2 h3 ⟨o, ho, hc, hd⟩ hQ
      refine wpAny_pyNext_list_end hh' ⟨o, ho, hc, hd⟩ (hget F' s h1 h2 h3) ?_ fun h' hs => hQ h' _ hs
      rw [← hr.length]; simp
  | @rng a o lo hi ha ho hb =>
    obtain ⟨t, u, v, rfl⟩ := ho
    have hsz : Builtin.Range.rangeSize lo hi 1 = ((hi - lo).toNat : Int) := by rw [rangeSize_one]; split <;> lia
    refine wpAny_pyIter_range (a := lo) (b := hi) (c := 1) (t := t) (u := u) (v := v) (hF _ _ ha) (small_one (by lia) (by lia) (by lia) (by lia)) (h _ (fun k o => o = { cls := .type "range_iterator", dict := none, data := .fields #[rawInt (lo + k), rawInt ((hi - lo).toNat - k : Int), rawInt 1], slots := #[] }) rfl ?_ fun A' hh' => ⟨?_, ?_, fun k s Q E ⟨o, ho, hd⟩ hQ => wpAny_pyIter_rangeiter (hd ▸ ho) hQ⟩)
    · rw [hsz]; simp
    · intro k d F' s Q E h1 h2 h3 hk ⟨o, ho, hd⟩ hQ
      subst hd
      have hk' : k < (hi - lo).toNat := by
        have := (List.getElem?_eq_some_iff.mp hk).1
        simpa [rints] using this
      have hd' : d = .int (lo + k) := by
        rw [rints, List.getElem?_map, List.getElem?_range hk'] at hk
        simpa using hk.symm
      subst hd'
      refine wpAny_pyNext_range_item ho (by lia) fun h' hit hs => hQ h' _ _ hs ⟨_, hit, ?_⟩ (.int _ _)
      rw [show lo + ((k + 1 : Nat) : Int) = lo + k + 1 by lia, show (((hi - lo).toNat : Int) - ((k + 1 : Nat) : Int)) = (hi - lo).toNat - k - 1 by lia]
    · intro F' s Q E h1 h2 h3 ⟨o, ho, hd⟩ hQ
      subst hd
      refine wpAny_pyNext_range_end hh' ho ?_ fun h' hs => hQ h' _ hs
      simp [rints]

section
variable {C : Cx} {σ : St}

noncomputable def Asg (C : Cx) (σ : St) (t : Expr) (d : D) (σ' : St) : Prop :=
  ∀ (K F : Fz) (s : Shared) (v : Value) (Q : Unit → Shared → Prop) (E : Value → Shared → Prop), Mo C K σ F s → Rep F v d →
    (∀ s', Mo C K σ' F s' → Q () s') → wpAny C.G.M C.A (assign t C.env v) Q E s
theorem Asg.local {x : Str} {p : Pos} {d : D} (hx : C.env.kindOf x = some .local) : Asg C σ (.Name x p) d (σ.set x d) := fun K F s v Q E X r hQ => by
  obtain ⟨m, hn, hm⟩ := X.loc
  exact wpAny_assign_Name (wpAny_storeName_local hx hn (fun h' hn' hs => hQ _ (X.storeL hm hx hs hn' r)) (by rw [X.ok.fn]; rfl))
theorem Asg.cell {x : Str} {p : Pos} {d : D} {c : Addr} (hx : C.env.kindOf x = some .cell) (hc : C.env.cells.lookup x = some c) (hp : c ∈ C.priv) : Asg C σ (.Name x p) d (σ.set x d) := fun K F s v Q E X r hQ => by
  obtain ⟨⟨v0, hv0⟩, _⟩ := X.live (x, c) (mem_of_lookup hc)
  exact wpAny_assign_Name (wpAny_storeName_cell X.ok.fn hx hc hv0 fun h' hn hs => hQ _ (X.storeC (t := s.toks) hx hc hp hs hn r))
end
end Mine
end

section
set_option Elab.async false
set_option linter.unusedVariables false
set_option linter.unusedSimpArgs false
namespace Mine
open PySem PySem.W PyProof.Rows PySem.Calls

theorem cellsFrom_acc : ∀ (names : List (Str × NameKind)) (n : Nat) (acc : List (Str × Addr)), cellsFrom n names acc = cellsFrom n names [] ++ acc
  | [], _, _ => rfl
  | (name, kind) :: r, n, acc => by
    unfold cellsFrom
    split
    · rw [cellsFrom_acc r (n + 1) ((name, n) :: acc), cellsFrom_acc r (n + 1) [(name, n)], List.append_assoc]; rfl
    · exact cellsFrom_acc r n acc
theorem cellsFrom_names : ∀ (names : List (Str × NameKind)) (n : Nat) (acc : List (Str × Addr)) (y : Str × Addr), y ∈ cellsFrom n names acc → y ∈ acc ∨ (y.1, NameKind.cell) ∈ names
  | [], _, _, _, h => .inl h
  | (name, kind) :: r, n, acc, y, h => by
    unfold cellsFrom at h
    split at h
    · rename_i hk
      rcases cellsFrom_names r _ _ y h with h | h
      · rcases List.mem_cons.mp h with rfl | h
        · have : kind = .cell := by simpa using hk
          subst this
          exact .inr (.head _)
        · exact .inl h
      · exact .inr (.tail _ h)
    · rcases cellsFrom_names r _ _ y h with h | h
      · exact .inl h
      · exact .inr (.tail _ h)
theorem lookup_append_none {α : Type} : ∀ {l r : List (Str × α)} {x : Str}, (∀ y ∈ l, y.1 ≠ x) → (l ++ r).lookup x = r.lookup x
  | [], _, _, _ => rfl
  | (k, v) :: l, r, x, h => by
    have : (x == k) = false := beq_eq_false_iff_ne.mpr fun e => h (k, v) (.head _) e.symm
    rw [List.cons_append, List.lookup_cons, this]
    exact lookup_append_none fun y hy => h y (.tail _ hy)
theorem lookup_filter {α : Type} (q : Str → Bool) : ∀ {l : List (Str × α)} {x : Str} {v : α}, (l.filter fun p => q p.1).lookup x = some v → q x = true ∧ l.lookup x = some v
  | [], _, _, h => by cases h
  | (k, w) :: l, x, v, h => by
    rw [List.filter_cons] at h
    split at h
    · rename_i hk
      rw [List.lookup_cons] at h ⊢
      cases hb : x == k with
      | true => rw [hb] at h; rw [beq_iff_eq.mp hb]; exact ⟨hk, h⟩
      | false => rw [hb] at h; exact lookup_filter q h
    · rename_i hk
      obtain ⟨h1, h2⟩ := lookup_filter q h
      refine ⟨h1, ?_⟩
      rw [List.lookup_cons]
      cases hb : x == k with
      | true => rw [beq_iff_eq.mp hb] at h1; exact absurd h1 hk
      | false => exact h2

theorem isCell_keeps {h h' : Heap} {c : Addr} {v : Option Value} (x : h.IsCell c v) (hk : ∀ o, h.get? c = some o → h'.get? c = some o) : h'.IsCell c v :=
  let ⟨o, ho, hd⟩ := x; ⟨o, hk o ho, hd⟩
theorem apA {a b : Addr} {n : Nat} (h1 : n + 1 ≤ b) (h2 : a < n) (e : b = a) : False := by subst e; exact absurd (Nat.lt_of_lt_of_le (Nat.lt_succ_self n) h1) (Nat.not_lt.mpr (Nat.le_of_lt h2))
theorem apB {a b : Addr} (h1 : a + 1 ≤ b) (e : b = a) : False := by subst e; exact Nat.lt_irrefl _ h1
theorem apC {a b : Addr} (h2 : a < b) (e : a = b) : False := by subst e; exact Nat.lt_irrefl _ h2
noncomputable def sees (env : Env) (scope : Scope) (cl : List (Str × Addr)) (x : Str) (y : Str) : Bool :=
  !(y == x) && (cl.lookup y).isSome && (env.kindOf y == some .cell || env.kindOf y == some .free) && scope.names.lookup y == some .free
noncomputable def compVars (env : Env) (scope : Scope) (cl : List (Str × Addr)) (x : Str) (vars : List (Str × D)) : List (Str × D) := vars.filter fun p => sees env scope cl x p.1

noncomputable def compCx (C : Cx) (σ : St) (scope : Scope) (cl : List (Str × Addr)) (L : Addr) : Cx :=
  { G := C.G, A := C.A, env := compEnvC scope (cellsFrom (L + 1) scope.names cl) L C.env, priv := L :: (cellsFrom (L + 1) scope.names []).map (·.2), rm := C.rm, ro := σ.mu ++ C.ro, pre := C.pre }

structure CompOk (C : Cx) (scope : Scope) (cl : List (Str × Addr)) : Prop where
  clos : closureFor scope C.env = pure cl
  kind : scope.kind = .function
  names : ∀ y ∈ scope.names, y.2 = .local → scope.names.lookup y.1 = some .local
  look : ∀ x c, cl.lookup x = some c → C.env.cells.lookup x = some c
  clm : ∀ x ∈ cl, x ∈ C.env.cells
  pw : cl.Pairwise fun x y => x.1 ≠ y.1
  own : ∀ y, scope.names.lookup y = some .free → (y, NameKind.cell) ∉ scope.names

theorem lookup_relabel {env : Env} {y : Str} {k : NameKind} : ∀ {names : List (Str × NameKind)}, names.lookup y = some k →
    (names.map fun (n, k) => if (k == NameKind.free && env.scope.kind == .function && env.kindOf n == some .cell) then (n, NameKind.cell) else (n, k)).lookup y = some (if (k == NameKind.free && env.scope.kind == .function && env.kindOf y == some .cell) then NameKind.cell else k)
  | [], h => by cases h
  | (n, k') :: r, h => by
    rw [List.lookup_cons] at h
    show List.lookup y ((if (k' == NameKind.free && env.scope.kind == .function && env.kindOf n == some .cell) = true then (n, NameKind.cell) else (n, k')) :: _) = _
    cases hb : y == n with
    | true =>
      rw [hb] at h
      have e := beq_iff_eq.mp hb
      subst e
      simp only [Option.some.injEq] at h
      subst h
      split <;> simp [List.lookup_cons]
    | false =>
      rw [hb] at h
      split <;> (rw [List.lookup_cons, hb]; exact lookup_relabel h)

section
variable {C : Cx} {σ : St} {scope : Scope} {cl : List (Str × Addr)}

noncomputable def compSt (C : Cx) (σ : St) (scope : Scope) (cl : List (Str × Addr)) (x : Str) (mu : Mu) : St := { vars := compVars C.env scope cl x σ.vars, mu := mu }

theorem comp_enter {K F : Fz} {s s1 : Shared} {x : Str} {mu : Mu} {Q : Env → Shared → Prop} {E : Value → Shared → Prop} (X : Mo C K σ F s) (ok : CompOk C scope cl) (A1 : Am C.G (full F s.heap []) mu F s1)
    (h : ∀ L s2, s.heap.get? L = none → Mo (compCx C σ scope cl L) (full F s.heap []) (compSt C σ scope cl x mu) F s2 → Q { (compCx C σ scope cl L).env with scope := scope } s2) :
    wpAny C.G.M C.A (newFunctionEnv scope C.env.globals cl [] C.env.qual none .none (some C.env)) Q E s1 := by
  simp only [newFunctionEnv, Option.isSome_some, if_true]
  refine wpAny_bind (wpAny_alloc ?_)
  refine wpAny_bind (wpAny_layCells _ (fun name kind cells => by cases hkc : kind == NameKind.cell <;> simp) _ _ _ _ ?_)
  rw [show ({ s1 with heap := s1.heap.push { cls := .type "dict", data := .dict #[] } } : Shared).heap.objs.size = s1.heap.objs.size + 1 from Heap.size_push ..]
  refine wpAny_bind ?_
  rw [List.forIn_nil]
  refine wpAny_pure (wpAny_pure ?_)
  refine h s1.heap.objs.size _ ?_ ?_
  · cases e : s.heap.get? s1.heap.objs.size with
    | none => rfl
    | some o =>
      cases f : F s1.heap.objs.size with
      | some o' => exact absurd (Heap.lt_size (A1.frz _ _ f)) (Nat.lt_irrefl _)
      | none => exact absurd (Heap.lt_size (A1.keep _ _ (full_of f (List.not_mem_nil (a := s1.heap.objs.size)) e))) (Nat.lt_irrefl _)
  have ck := cellsFrom_ok scope.names (s1.heap.push { cls := .type "dict", data := .dict #[] }) (s1.heap.objs.size + 1) [] ⟨fun _ _ hm => (nomatch hm), List.Pairwise.nil⟩ (by rw [Heap.size_push]; exact Nat.le_refl _)
  rw [Heap.size_push] at ck
  have keepAll : ∀ a o, s1.heap.get? a = some o → (pushCells (s1.heap.push { cls := .type "dict", data := .dict #[] }) scope.names).get? a = some o := fun a o e => pushCells_keeps _ _ a o (Heap.get?_push_of_some _ e)
  have ns : (pushCells (s1.heap.push { cls := .type "dict", data := .dict #[] }) scope.names).Ns s1.heap.objs.size fun _ => none := (Heap.Ns.new s1.heap (.type "dict")).keeps (pushCells_keeps _ _)
  -- what lies in the old heap is kept
  have old : ∀ a o, F a = none → s.heap.get? a = some o → full F s.heap [] a = some o ∧ s1.heap.get? a = some o := fun a o h1 h2 => by
    have := full_of h1 (List.not_mem_nil (a := a)) h2
    exact ⟨this, A1.keep _ _ this⟩
  have fresh : ∀ a, s1.heap.objs.size ≤ a → F a = none ∧ full F s.heap [] a = none := fun a ha => by
    refine ⟨?_, ?_⟩
    · cases e : F a with
      | none => rfl
      | some o => exact absurd (Heap.lt_size (A1.frz _ _ e)) (Nat.not_lt.mpr ha)
    · cases e : full F s.heap [] a with
      | none => rfl
      | some o => exact absurd (Heap.lt_size (A1.keep _ _ e)) (Nat.not_lt.mpr ha)
  have clK : ∀ x ∈ cl, ∃ v o, s.heap.get? x.2 = some o ∧ o.data = .cell v ∧ F x.2 = none := fun x hx => by
    obtain ⟨⟨v, o, h1, h2⟩, h3⟩ := X.live x (ok.clm x hx)
    refine ⟨v, o, h1, h2, ?_⟩
    rcases h3 with h3 | ⟨o', h3⟩
    · exact (X.priv _ h3).1
    · exact X.am.dis _ _ h3
  have memC : ∀ y ∈ cellsFrom (s1.heap.objs.size + 1) scope.names cl, y ∈ cellsFrom (s1.heap.objs.size + 1) scope.names [] ∨ y ∈ cl := fun y hy => by
    rw [cellsFrom_acc] at hy; exact List.mem_append.mp hy
  have AA := A1.grow (F' := F) (t := s1.toks) (h' := pushCells (s1.heap.push { cls := .type "dict", data := .dict #[] }) scope.names) keepAll (Fle.refl _) (fun a o e => .inl e) (fun a o e => keepAll _ _ (A1.frz _ _ e))
  refine ⟨⟨ok.kind, X.ok.gl, X.ok.bu, X.ok.rm, .head _, ?_, ?_, X.ok.mon⟩, AA, ?_, ?_, ⟨_, ns, ?_⟩, ?_, ?_, X.preFull (by simp)⟩
  · show (cellsFrom (s1.heap.objs.size + 1) scope.names cl).Pairwise _
    rw [cellsFrom_acc, List.pairwise_append]
    refine ⟨ck.apart, ok.pw.imp_of_mem fun {a b} ha hb h e => h (name_of_addr X.ok.apart (n := a.1) (n' := b.1) (c := a.2) (ok.clm _ ha) (by rw [e]; exact ok.clm _ hb)), fun a ha b hb e => ?_⟩
    obtain ⟨v, o, h1, h2, h3⟩ := clK b hb
    have h4 := Heap.lt_size (old _ _ h3 h1).2
    have h5 := (ck.empty a.1 a.2 ha).2
    exact apA h5 h4 e
  · intro y hy e
    have e' : y.2 = s1.heap.objs.size := e
    rcases memC y hy with hy | hy
    · have h5 := (ck.empty y.1 y.2 hy).2
      exact apB h5 e'
    · obtain ⟨v, o, h1, h2, h3⟩ := clK y hy
      have h4 := Heap.lt_size (old _ _ h3 h1).2
      exact apC h4 e'
  · intro a ha
    rcases List.mem_cons.mp ha with rfl | ha
    · obtain ⟨o, es, ep, e, r⟩ := ns
      exact ⟨(fresh _ (Nat.le_refl _)).1, (fresh _ (Nat.le_refl _)).2, o, e⟩
    · obtain ⟨y, hy, rfl⟩ := List.mem_map.mp ha
      obtain ⟨⟨o, h1, h2⟩, h5⟩ := ck.empty y.1 y.2 hy
      exact ⟨(fresh _ (by lia)).1, (fresh _ (by lia)).2, o, h1⟩
  · intro y hy
    rcases memC y hy with hy | hy
    · exact ⟨⟨none, (ck.empty y.1 y.2 hy).1⟩, .inl (.tail _ (List.mem_map_of_mem hy))⟩
    · obtain ⟨v, o, h1, h2, h3⟩ := clK y hy
      exact ⟨⟨v, o, keepAll _ _ (old _ _ h3 h1).2, h2⟩, .inr ⟨o, (old _ _ h3 h1).1⟩⟩
  · intro y d e
    have e' : (compVars C.env scope cl x σ.vars).lookup y = some d := e
    unfold compVars at e'
    obtain ⟨q, e2⟩ := lookup_filter (fun n => sees C.env scope cl x n) e'
    obtain ⟨m, hn, hm⟩ := X.loc
    obtain ⟨v, hv, hr⟩ := hm y d e2
    refine ⟨v, ?_, hr⟩
    simp only [sees, Bool.and_eq_true, Bool.or_eq_true, beq_iff_eq] at q
    obtain ⟨⟨⟨q1, q2⟩, q3⟩, q4⟩ := q
    obtain ⟨c, hc⟩ := Option.isSome_iff_exists.mp q2
    have hce := ok.look y c hc
    have hcell : s.heap.IsCell c (some v) := by
      unfold VarAt at hv
      rcases q3 with q3 | q3 <;> (rw [q3] at hv; obtain ⟨c', h1, h2⟩ := hv; rw [hce] at h1; cases h1; exact h2)
    have hcell' : (pushCells (s1.heap.push { cls := .type "dict", data := .dict #[] }) scope.names).IsCell c (some v) := by
      obtain ⟨v', o, h1, h2, h3⟩ := clK (y, c) (mem_of_lookup hc)
      exact isCell_keeps hcell fun o e => keepAll _ _ (old _ _ h3 e).2
    have hlook : (cellsFrom (s1.heap.objs.size + 1) scope.names cl).lookup y = some c := by
      rw [cellsFrom_acc, lookup_append_none]
      · exact hc
      · intro z hz e
        rcases cellsFrom_names _ _ _ z hz with h | h
        · cases h
        · exact ok.own y q4 (e ▸ h)
    have hkind : (compCx C σ scope cl s1.heap.objs.size).env.kindOf y = some .cell ∨ (compCx C σ scope cl s1.heap.objs.size).env.kindOf y = some .free := by
      show (relabel scope C.env).names.lookup y = _ ∨ _
      unfold relabel
      dsimp only
      rw [lookup_relabel q4]
      split
      · exact .inl rfl
      · exact .inr (by
          show (relabel scope C.env).names.lookup y = _
          unfold relabel
          dsimp only
          rw [lookup_relabel q4]
          rename_i hh
          rw [if_neg hh])
    unfold VarAt
    rcases hkind with hk | hk <;> (rw [hk]; exact ⟨c, hlook, hcell'⟩)
  · intro p hp ha
    obtain ⟨o, ho⟩ := (A1.mus p hp).1.some
    have h4 := Heap.lt_size ho
    rcases List.mem_cons.mp ha with e | ha
    · exact apC h4 e
    · obtain ⟨y, hy, e⟩ := List.mem_map.mp ha
      have h5 := (ck.empty y.1 y.2 hy).2
      exact apA h5 h4 e
  · intro p hp
    rcases List.mem_append.mp hp with hp | hp
    · obtain ⟨h1, h2, h3⟩ := X.am.mus p hp
      obtain ⟨o, ho⟩ := h1.some
      obtain ⟨h4, h5⟩ := old _ _ h2 ho
      exact ⟨h1.mono (Fle.refl _) fun o e => keepAll _ _ (old _ _ h2 e).2, o, h4⟩
    · obtain ⟨h1, o, h3⟩ := X.ro p hp
      have h2 := X.am.dis _ _ h3
      exact ⟨h1.mono (Fle.refl _) fun o e => keepAll _ _ (old _ _ h2 e).2, o, (old _ _ h2 (X.am.keep _ _ h3)).1⟩

noncomputable def Tests (C : Cx) (σ : St) : List Expr → Bool → Prop
  | [], b => b = true
  | [c], b => EvT C σ c b
  | _, _ => False
theorem wpAny_tests {K F : Fz} {s : Shared} {ifs : List Expr} {b : Bool} {Q : Bool → Shared → Prop} {E : Value → Shared → Prop} (X : Mo C K σ F s) (h : Tests C σ ifs b) (hQ : ∀ F' s', Mo C K σ F' s' → Fle F F' → Q b s') :
    wpAny C.G.M C.A (forIn ifs true fun c r => if r = true then do let ok ← isTrue c C.env (eval c C.env); pure (ForInStep.yield ok) else pure (ForInStep.yield r)) Q E s := by
  match ifs, h with
  | [], h =>
    have h' : b = true := h
    subst h'
    exact wpAny_tests_nil (hQ F s X (Fle.refl _))
  | [c], h => exact wpAny_tests_one (h K F s Q E X hQ)

theorem Mo.other {K F : Fz} {s : Shared} {h' : Heap} {a : Addr} {t : Nat} (X : Mo C K σ F s) (hs : Heap.SameBut a s.heap h') (hF : F a = none) (hK : K a = none) (hm : ∀ p ∈ σ.mu, p.1 ≠ a) (hp : a ∉ C.priv) : Mo C K σ F { s with heap := h', toks := t } :=
  X.with (X.am.other hs hF hK hm) (fun b hb => ⟨(X.priv b hb).1, hs.2 b fun e => hp (e ▸ hb)⟩) (Fle.refl _) X.pmu

theorem comp_loop {K0 F0 : Fz} {elt iter target : Expr} {ifs : List Expr} {pos : Pos} {it acc : Addr} {ds : List D} {P : Nat → Obj → Prop} {R : Result → Shared → Prop} {vs0 : List (Str × D)}
    (St' : Nat → List D → Mu → Prop) (I : IterOk C.G C.A K0 F0 it ds P) (hlen : ds.length ≤ 100000) (tv : D → List (Str × D) → List (Str × D)) (tv0 : D → List (Str × D))
    (hasg : ∀ d mu vs, Asg C { vars := vs, mu := mu } target d { vars := tv d vs, mu := mu })
    (htv : ∀ d vs, (∀ y e, vs0.lookup y = some e → vs.lookup y = some e) → ∀ y e, (tv0 d).lookup y = some e → (tv d vs).lookup y = some e)
    (htv0 : ∀ d y e, vs0.lookup y = some e → (tv0 d).lookup y = some e)
    (hout : ∀ k out nm, St' k out nm → out.length ≤ k)
    (step : ∀ k d out nm, ds[k]? = some d → St' k out nm → ∃ b, Tests C { vars := tv0 d, mu := nm } ifs b ∧
      (b = true → EvX C { vars := tv0 d, mu := nm } elt (fun e nm' => St' (k + 1) (out ++ [e]) nm')) ∧ (b = false → St' (k + 1) out nm))
    (hR : ∀ F' s' out nm vs, St' ds.length out nm → Mo C K0 { vars := vs, mu := (acc, .list out) :: nm } F' s' → Fle F0 F' → R (.ok .next) s')
    {s : Shared} {nm0 : Mu} (h0 : St' 0 [] nm0) (X : Mo C K0 { vars := vs0, mu := (it, .obj (P 0)) :: (acc, .list []) :: nm0 } F0 s)
    (ht : ∀ v, letOwnedTupleGo target (.ref it) v = pure () := by intro _; rfl) :
    codeAny C.G.M C.A (.compLoop (.ListComp elt [⟨target, iter, ifs, 0⟩] scope pos) 0 (.ref it) (.ref acc) C.env) R s := by
  refine codeAny_compLoop_tests (prog := C.G.prog) (w := C.G.w) (fun n s => ∃ k out nm vs F, n + k = ds.length ∧ St' k out nm ∧ Fle F0 F ∧ (∀ y e, vs0.lookup y = some e → vs.lookup y = some e) ∧
    Mo C K0 { vars := vs, mu := (it, .obj (P k)) :: (acc, .list out) :: nm } F s) ?_ ds.length ⟨0, [], nm0, vs0, F0, by simp, h0, Fle.refl _, fun _ _ e => e, X⟩ ht
  rintro n s ⟨k, out, nm, vs, F, hn, hSt, hF, hvs, X⟩
  have hit : ∃ o, s.heap.get? it = some o ∧ P k o := (X.am.mus (it, .obj (P k)) (.head _)).1
  cases n with
  | zero =>
    have hk : k = ds.length := by lia
    subst hk
    refine I.stop F s _ _ hF X.am.frz X.am.keep hit fun h' t hs => ?_
    have X' := X.dropExt (t := t) rfl hs
    exact hR F _ out nm vs hSt X' hF
  | succ n =>
    have hk : k < ds.length := by lia
    refine I.item k ds[k] F s _ _ hF X.am.frz X.am.keep (List.getElem?_eq_getElem hk) hit fun h' v t hs hit' hr => ?_
    have X1 := X.turn (pre := []) (mo' := .obj (P (k + 1))) (t := t) rfl hs hit'
    refine hasg ds[k] _ vs K0 F _ v _ _ X1 hr fun s2 X2 => ?_
    replace X2 := X2.weak (σ' := { vars := tv0 ds[k], mu := (it, .obj (P (k + 1))) :: (acc, .list out) :: nm }) (htv _ _ hvs) rfl
    -- hide the iterator and the list
    obtain ⟨a1, a2⟩ := X2.apartMu (p := (it, .obj (P (k + 1)))) (.head _)
    obtain ⟨oi, hoi, ⟨oi', hoi', hPi⟩, hKi, X3⟩ := X2.hide (a := it) (mo := .obj (P (k + 1))) (mu := (acc, .list out) :: nm) rfl
    rw [hoi] at hoi'; cases hoi'
    obtain ⟨b1, b2⟩ := X3.apartMu (p := (acc, .list out)) (.head _)
    obtain ⟨oa, hoa, ⟨oa', vsa, hoa', hla, hra⟩, hKa, X4⟩ := X3.hide (a := acc) (mo := .list out) (mu := nm) rfl
    rw [hoa] at hoa'; cases hoa'
    obtain ⟨b, hb, ht, hf⟩ := step k ds[k] out nm (List.getElem?_eq_getElem hk) hSt
    refine wpAny_tests X4 hb fun F5 s5 X5 g5 => ?_
    cases b with
    | false =>
      simp only [Bool.false_eq_true, if_false]
      have ha5 : s5.heap.get? acc = some oa := X5.am.keep _ _ (Fz.put_self _ _ _)
      have X6 := X5.show hKa (mo := .list out) ⟨oa, vsa, ha5, hla, hra.mono g5⟩ b1 b2 (X.ok.mon _ _ _ _ X3.pre (Fle.refl _) g5)
      have hi5 : s5.heap.get? it = some oi := X6.am.keep _ _ (Fz.put_self _ _ _)
      have X7 := X6.show hKi (mo := .obj (P (k + 1))) ⟨oi, hi5, hPi⟩ a1 a2 (X.ok.mon _ _ _ _ X2.pre (Fle.refl _) g5)
      exact ⟨n, Nat.lt_succ_self n, k + 1, out, nm, _, F5, by lia, hf rfl, hF.trans g5, htv0 _, X7⟩
    | true =>
      simp only [if_true]
      refine ht rfl _ F5 s5 _ _ X5 fun F6 v6 s6 e nm' hSt' X6 g6 r6 => ?_
      have ha6 : s6.heap.get? acc = some oa := X6.am.keep _ _ (Fz.put_self _ _ _)
      have X7 := X6.show hKa (mo := .list out) ⟨oa, vsa, ha6, hla, hra.mono (g5.trans g6)⟩ b1 b2 (X.ok.mon _ _ _ _ X3.pre (Fle.refl _) (g5.trans g6))
      obtain ⟨hl100, na, rfl⟩ := hla
      have hlo : vsa.length = out.length := hra.length
      have hok := hout k out nm hSt
      refine wpAny_list_append_plain ⟨na, ha6⟩ (fun h7 hp7 hs7 => ?_) (by rw [List.size_toArray]; exact fitsSz (by lia))
      obtain ⟨n7, hp7⟩ := hp7
      have X8 := X7.turn (pre := []) (mo' := .list (out ++ [e])) (t := s6.toks) rfl hs7 ⟨_, vsa ++ [v6], hp7, ⟨by rw [List.length_append]; simp; lia, n7, by simp⟩, (hra.mono (g5.trans g6)).append (.cons r6 .nil)⟩
      have hi8 : h7.get? it = some oi := X8.am.keep _ _ (Fz.put_self _ _ _)
      have X9 := X8.show hKi (mo := .obj (P (k + 1))) ⟨oi, hi8, hPi⟩ a1 a2 (X.ok.mon _ _ _ _ X2.pre (Fle.refl _) (g5.trans g6))
      exact ⟨n, Nat.lt_succ_self n, k + 1, out ++ [e], nm', _, F6, by lia, hSt', hF.trans (g5.trans g6), htv0 _, X9⟩

noncomputable def ItD (C : Cx) (σ : St) (d : D) (ds : List D) : Prop := Items C σ d ds ∨ ∃ lo hi, d = .rng lo hi ∧ ds = rints lo hi ∧ (-1000000 ≤ lo ∧ lo ≤ 1000000 ∧ -1000000 ≤ hi ∧ hi ≤ 1000000)
theorem ItD.list {ds : List D} : ItD C σ (.list ds) ds := .inl .list
theorem ItD.rng {lo hi : Int} (h : -1000000 ≤ lo ∧ lo ≤ 1000000 ∧ -1000000 ≤ hi ∧ hi ≤ 1000000) : ItD C σ (.rng lo hi) (rints lo hi) := .inr ⟨lo, hi, rfl, rfl, h⟩
theorem ItD.src {K F : Fz} {s : Shared} {v : Value} {d : D} {ds : List D} (X : Mo C K σ F s) (h : ItD C σ d ds) (r : Rep F v d) : Src (full F s.heap []) F v ds := by
  have key : ∀ a ds', F a = none → (MO.list ds').At F s.heap a → Src (full F s.heap []) F (.ref a) ds' := by
    rintro a ds' h1 ⟨o, vs, h2, h3, h4⟩
    exact .list (.inr (full_of h1 List.not_mem_nil h2)) h3 h4
  rcases h with (rfl | ⟨a, rfl, h | h⟩) | ⟨lo, hi, rfl, rfl, hb⟩
  · obtain ⟨a, o, vs, rfl, h1, h2, h3⟩ := r.list_inv
    exact .list (.inl h1) h2 h3
  · cases r.ref_inv
    obtain ⟨h1, h2, h3⟩ := X.am.mus _ h
    exact key a ds h2 h1
  · cases r.ref_inv
    obtain ⟨h1, o, h3⟩ := X.ro _ h
    exact key a ds (X.am.dis _ _ h3) h1
  · obtain ⟨a, o, rfl, h1, h2⟩ := r.rng_inv
    exact .rng h1 h2 hb

theorem cellsFrom_has : ∀ (names : List (Str × NameKind)) (n : Nat) (acc : List (Str × Addr)) (x : Str), (x, NameKind.cell) ∈ names → ∃ c, (cellsFrom n names acc).lookup x = some c ∧ c ∈ (cellsFrom n names []).map (·.2)
  | (name, kind) :: r, n, acc, x, h => by
    unfold cellsFrom
    by_cases hr : (x, NameKind.cell) ∈ r
    · split
      · obtain ⟨c, h1, h2⟩ := cellsFrom_has r (n + 1) ((name, n) :: acc) x hr
        refine ⟨c, h1, ?_⟩
        rw [cellsFrom_acc, List.map_append]
        exact List.mem_append_left _ h2
      · exact cellsFrom_has r n acc x hr
    · rcases List.mem_cons.mp h with e | h
      · cases e
        simp only [beq_self_eq_true, if_true]
        refine ⟨n, ?_, ?_⟩
        · rw [cellsFrom_acc, lookup_append_none]
          · simp [List.lookup_cons]
          · intro y hy e
            rcases cellsFrom_names _ _ _ y hy with h | h
            · cases h
            · exact hr (e ▸ h)
        · rw [cellsFrom_acc, List.map_append]
          exact List.mem_append_right _ (.head _)
      · exact absurd h hr

theorem compAsg {x : Str} {px : Pos} {d : D} {L : Addr} {τ : St} (hx : scope.names.lookup x = some .local ∨ scope.names.lookup x = some .cell) : Asg (compCx C σ scope cl L) τ (.Name x px) d (τ.set x d) := by
  rcases hx with hx | hx
  · exact Asg.local (lookup_relabel_local hx)
  · obtain ⟨c, h1, h2⟩ := cellsFrom_has scope.names (L + 1) cl x (mem_of_lookup hx)
    refine Asg.cell ?_ h1 (.tail _ h2)
    show (relabel scope C.env).names.lookup x = _
    unfold relabel
    dsimp only
    rw [lookup_relabel hx]
    split <;> rfl

theorem comp_run {elt iter : Expr} {x : Str} {px : Pos} {ifs : List Expr} {pos pos' : Pos} {use : Option (Value → Sem Unit)} {d : D} {ds : List D} (ok : CompOk C scope cl) (hx : scope.names.lookup x = some .local ∨ scope.names.lookup x = some .cell)
    (hv : Ev C σ iter d) (hi : ItD C σ d ds) (hlen : ds.length ≤ 100000) (St' : Nat → List D → Mu → Prop) (h0 : St' 0 [] []) (hout : ∀ k out nm, St' k out nm → out.length ≤ k)
    (step : ∀ L k d out nm, ds[k]? = some d → St' k out nm → ∃ b, Tests (compCx C σ scope cl L) ((compSt C σ scope cl x nm).set x d) ifs b ∧
      (b = true → EvX (compCx C σ scope cl L) ((compSt C σ scope cl x nm).set x d) elt (fun e nm' => St' (k + 1) (out ++ [e]) nm')) ∧ (b = false → St' (k + 1) out nm))
    {K F : Fz} {s : Shared} {Q : Value → Shared → Prop} {E : Value → Shared → Prop} (X : Mo C K σ F s)
    (hQ : ∀ F' a s' out nm L, St' ds.length out nm → Mo C K (σ.setMu ((a, .list out) :: (nm ++ σ.mu))) F' s' → Fle F F' → F' L = none → K L = none → (∀ p ∈ (a, MO.list out) :: (nm ++ σ.mu), p.1 ≠ L) → L ∉ C.priv →
      (∃ m, s'.heap.Ns L m) → compPost C.G.M C.A E use Q (.ref a) L (.ok .next) s')
    (hs : ∀ x, foldedSetIterable iter C.env x = pure x := by intro _; rfl) :
    wpAny C.G.M C.A (comprehension (.ListComp elt [⟨.Name x px, iter, ifs, 0⟩] scope pos) scope C.env pos' (newList []) false (eval iter C.env) use) Q E s := by
  refine wpAny_comprehension_free rfl hs ok.clos ok.kind ok.names (hv K F s _ E X fun F1 v s1 X1 g1 r1 => ?_)
  have S := hi.src X1 r1
  have A0 := X1.am.leave (pas := []) rfl
  refine pyIter_src X.ok.rm.hh S X1.am.frz A0.keep fun o P hf hP IA => ?_
  have I := IA C.A X.ok.rm.hh
  have A1 := A0.allocMu o (.obj (P 0)) s1.toks ⟨o, Heap.get?_push_size _ hf, hP⟩
  refine wpAny_newObj_type ?_
  have A2 := A1.allocMu { cls := .type "list", data := .seq ([] : List Value).toArray } (.list []) s1.toks ⟨_, [], Heap.get?_push_size _ rfl, ⟨by simp, 0, rfl⟩, .nil⟩
  have A3 := A2.perm (mu' := [(s1.heap.objs.size, .obj (P 0)), ((s1.heap.push o).objs.size, .list [])]) (List.Perm.swap ..)
  refine comp_enter (x := x) X1 ok A3 fun L s2 hLn X2 => ?_
  have loop : codeAny C.G.M C.A (.compLoop (.ListComp elt [⟨.Name x px, iter, ifs, 0⟩] scope pos) 0 (.ref s1.heap.objs.size) (.ref (s1.heap.push o).objs.size) (compCx C σ scope cl L).env)
      (compPost C.G.M C.A E use Q (.ref (s1.heap.push o).objs.size) L) s2 := by
    refine comp_loop (C := compCx C σ scope cl L) (K0 := full F1 s1.heap []) (F0 := F1) (vs0 := compVars C.env scope cl x σ.vars) St' I hlen (fun d vs => (x, d) :: vs) (fun d => (x, d) :: compVars C.env scope cl x σ.vars)
      (fun d mu vs => compAsg hx) (fun d vs hvs y e h => ?_) (fun d y e h => ?_) hout (fun k d out nm hk hSt => step L k d out nm hk hSt) (fun F' s' out nm vs hSt X' g' => ?_) h0 X2
    · rw [List.lookup_cons] at h ⊢
      cases hb : y == x with
      | true => rw [hb] at h; exact h
      | false => rw [hb] at h; exact hvs y e h
    · have h' := h
      unfold compVars at h'
      obtain ⟨q, _⟩ := lookup_filter (fun n => sees C.env scope cl x n) h'
      simp only [sees, Bool.and_eq_true] at q
      have hb : (y == x) = false := by simpa using q.1.1.1
      rw [List.lookup_cons, hb]
      exact h
    · have B := X1.back (pas := []) (oth := σ.mu) (mu' := ((s1.heap.push o).objs.size, .list out) :: nm) rfl X'.am g'
      obtain ⟨p1, p2, p3⟩ := X'.priv L (.head _)
      have hs1 : ∀ o', s1.heap.get? L ≠ some o' := fun o' e => by rw [hLn] at e; cases e
      refine hQ F' _ s' out nm L hSt B (g1.trans g') p1 ?_ ?_ ?_ ?_
      · cases e : K L with
        | none => rfl
        | some o' => exact absurd (X1.am.keep _ _ e) (hs1 o')
      · intro p hp e
        rcases List.mem_cons.mp hp with rfl | hp
        · exact X'.pmu _ (.head _) (e ▸ .head _)
        · rcases List.mem_append.mp hp with hp | hp
          · exact X'.pmu p (.tail _ hp) (e ▸ .head _)
          · obtain ⟨o', ho'⟩ := (X1.am.mus p hp).1.some
            exact hs1 o' (e ▸ ho')
      · intro hp
        obtain ⟨o', ho'⟩ := (X1.priv L hp).2.2
        exact hs1 o' ho'
      · obtain ⟨m, hm, _⟩ := X'.loc
        exact ⟨m, hm⟩
  exact codeAny_compStart_list loop (I.self 0 s2 _ _ ((X2.am.mus (s1.heap.objs.size, .obj (P 0)) (.head _)).1) loop)
end
end Mine
end

section
set_option Elab.async false
set_option linter.unusedVariables false
set_option linter.unusedSimpArgs false
namespace Mine
open PySem PySem.W PyProof.Rows PySem.Calls

section
variable {C : Cx} {σ : St} {scope : Scope} {cl : List (Str × Addr)}

noncomputable def EvC (C : Cx) (σ : St) (elt : Expr) (gens : List Comprehension) (scope : Scope) (pos : Pos) (R : D → Mu → Prop) : Prop :=
  ∀ (use : Option (Value → Sem Unit)) (K F : Fz) (s : Shared) (Q : Value → Shared → Prop) (E : Value → Shared → Prop), Mo C K σ F s →
    (∀ F' a s' mu L, R (.ref a) mu → Mo C K (σ.setMu mu) F' s' → Fle F F' → F' L = none → K L = none → (∀ p ∈ mu, p.1 ≠ L) → L ∉ C.priv → (∃ m, s'.heap.Ns L m) → compPost C.G.M C.A E use Q (.ref a) L (.ok .next) s') →
    wpAny C.G.M C.A (comprehension (.ListComp elt gens scope pos) scope C.env (firstIterPos gens pos) (newList []) (firstAsync gens) (firstIter gens C.env) use) Q E s

theorem EvC.run {elt iter : Expr} {x : Str} {px : Pos} {ifs : List Expr} {pos : Pos} {d : D} {ds : List D} (ok : CompOk C scope cl) (hx : scope.names.lookup x = some .local ∨ scope.names.lookup x = some .cell)
    (hv : Ev C σ iter d) (hi : ItD C σ d ds) (hlen : ds.length ≤ 100000) (St' : Nat → List D → Mu → Prop) (h0 : St' 0 [] []) (hout : ∀ k out nm, St' k out nm → out.length ≤ k)
    (step : ∀ L k d out nm, ds[k]? = some d → St' k out nm → ∃ b, Tests (compCx C σ scope cl L) ((compSt C σ scope cl x nm).set x d) ifs b ∧
      (b = true → EvX (compCx C σ scope cl L) ((compSt C σ scope cl x nm).set x d) elt (fun e nm' => St' (k + 1) (out ++ [e]) nm')) ∧ (b = false → St' (k + 1) out nm))
    (hs : ∀ x, foldedSetIterable iter C.env x = pure x := by intro _; rfl) :
    EvC C σ elt [⟨.Name x px, iter, ifs, 0⟩] scope pos (fun d mu => ∃ a out nm, St' ds.length out nm ∧ d = .ref a ∧ mu = (a, .list out) :: (nm ++ σ.mu)) := fun use K F s Q E X hQ =>
  comp_run ok hx hv hi hlen St' h0 hout step X (fun F' a s' out nm L hSt X' g h1 h2 h3 h4 h5 => hQ F' a s' _ L ⟨a, out, nm, hSt, rfl, rfl⟩ X' g h1 h2 h3 h4 h5) hs
theorem EvC.mono {elt : Expr} {gens : List Comprehension} {pos : Pos} {R R' : D → Mu → Prop} (h : EvC C σ elt gens scope pos R) (hR : ∀ d mu, R d mu → R' d mu) : EvC C σ elt gens scope pos R' := fun use K F s Q E X hQ =>
  h use K F s Q E X fun F' a s' mu L r => hQ F' a s' mu L (hR _ _ r)

theorem EvC.ev {elt : Expr} {gens : List Comprehension} {pos : Pos} {R : D → Mu → Prop} (h : EvC C σ elt gens scope pos R) : EvX C σ (.ListComp elt gens scope pos) R := fun K F s Q E X hQ => by
  rw [eval_ListComp]
  refine h none K F s Q E X fun F' a s' mu L hR X' g h1 h2 h3 h4 h5 => ?_
  obtain ⟨m, hm⟩ := h5
  exact ⟨m, hm, fun h' hs' => hQ F' _ _ _ mu hR (X'.other (t := s'.toks) hs' h1 h2 h3 h4) g (.ref a)⟩

theorem EvC.plain {α : Type} {elt iter : Expr} {x : Str} {px : Pos} {ifs : List Expr} {pos : Pos} {d : D} (xs : List α) (enc : α → D) (p : α → Bool) (g : α → D) (ok : CompOk C scope cl) (hx : scope.names.lookup x = some .local ∨ scope.names.lookup x = some .cell)
    (hv : Ev C σ iter d) (hi : ItD C σ d (xs.map enc)) (hlen : xs.length ≤ 100000)
    (step : ∀ L a, a ∈ xs → Tests (compCx C σ scope cl L) ((compSt C σ scope cl x []).set x (enc a)) ifs (p a) ∧ (p a = true → Ev (compCx C σ scope cl L) ((compSt C σ scope cl x []).set x (enc a)) elt (g a)))
    (hs : ∀ x, foldedSetIterable iter C.env x = pure x := by intro _; rfl) :
    EvC C σ elt [⟨.Name x px, iter, ifs, 0⟩] scope pos (NewL σ ((xs.filter p).map g)) := by
  refine EvC.mono (EvC.run ok hx hv hi (by simpa using hlen) (fun k out nm => nm = [] ∧ out = ((xs.take k).filter p).map g) (by simp) ?_ ?_ hs) ?_
  · rintro k out nm ⟨rfl, rfl⟩
    rw [List.length_map]
    exact Nat.le_trans (List.length_filter_le _ _) (by rw [List.length_take]; lia)
  · rintro L k d out nm hd ⟨rfl, rfl⟩
    rw [List.getElem?_map] at hd
    obtain ⟨a, ha, rfl⟩ := Option.map_eq_some_iff.mp hd
    have hk := (List.getElem?_eq_some_iff.mp ha)
    obtain ⟨hk1, hk2⟩ := hk
    obtain ⟨h1, h2⟩ := step L a (hk2 ▸ List.getElem_mem hk1)
    have ht : xs.take (k + 1) = xs.take k ++ [a] := by rw [List.take_add_one, ha]; rfl
    refine ⟨p a, h1, fun hp => ?_, fun hp => ?_⟩
    · refine EvX.mono (EvX.of (h2 hp)) ?_
      rintro d mu ⟨rfl, rfl⟩
      refine ⟨rfl, ?_⟩
      rw [ht, List.filter_append, List.map_append]
      simp [hp]
    · refine ⟨rfl, ?_⟩
      rw [ht, List.filter_append, List.map_append]
      simp [hp]
  · rintro d mu ⟨a, out, nm, ⟨rfl, rfl⟩, rfl, rfl⟩
    refine ⟨a, rfl, ?_⟩
    simp

noncomputable def zipMu (as : List Addr) (gs : List (List D)) : Mu := List.zipWith (fun a g => (a, MO.list g)) as gs
noncomputable def FreshL (σ : St) (gs : List (List D)) (d : D) (mu : Mu) : Prop := ∃ a as, as.length = gs.length ∧ d = .ref a ∧ mu = (a, .list (as.map .ref)) :: (zipMu as gs ++ σ.mu)
theorem EvC.perm {elt : Expr} {gens : List Comprehension} {pos : Pos} {R R' : D → Mu → Prop} (h : EvC C σ elt gens scope pos R) (hR : ∀ d mu, R d mu → ∃ mu', mu'.Perm mu ∧ R' d mu') : EvC C σ elt gens scope pos R' := fun use K F s Q E X hQ =>
  h use K F s Q E X fun F' a s' mu L r X' g h1 h2 h3 h4 h5 => by
    obtain ⟨mu', hp, hr⟩ := hR _ mu r
    exact hQ F' a s' mu' L hr (X'.perm hp) g h1 h2 (fun p hp' => h3 p (hp.mem_iff.mp hp')) h4 h5

theorem zipMu_append {as bs : List Addr} {gs hs : List (List D)} (h : as.length = gs.length) : zipMu (as ++ bs) (gs ++ hs) = zipMu as gs ++ zipMu bs hs := by
  unfold zipMu; rw [List.zipWith_append h]

theorem EvC.fresh {α : Type} {elt iter : Expr} {x : Str} {px : Pos} {ifs : List Expr} {pos : Pos} {d : D} (xs : List α) (enc : α → D) (p : α → Bool) (g : α → List D) (ok : CompOk C scope cl) (hx : scope.names.lookup x = some .local ∨ scope.names.lookup x = some .cell)
    (hv : Ev C σ iter d) (hi : ItD C σ d (xs.map enc)) (hlen : xs.length ≤ 100000)
    (step : ∀ L nm a, a ∈ xs → Tests (compCx C σ scope cl L) ((compSt C σ scope cl x nm).set x (enc a)) ifs (p a) ∧ (p a = true → EvN (compCx C σ scope cl L) ((compSt C σ scope cl x nm).set x (enc a)) elt (g a)))
    (hs : ∀ x, foldedSetIterable iter C.env x = pure x := by intro _; rfl) :
    EvC C σ elt [⟨.Name x px, iter, ifs, 0⟩] scope pos (FreshL σ ((xs.filter p).map g)) := by
  refine EvC.perm (EvC.run ok hx hv hi (by simpa using hlen) (fun k out nm => ∃ as : List Addr, as.length = ((xs.take k).filter p).length ∧ out = as.map .ref ∧ nm = (zipMu as (((xs.take k).filter p).map g)).reverse) ⟨[], by simp [zipMu]⟩ ?_ ?_ hs) ?_
  · rintro k out nm ⟨as, h1, rfl, rfl⟩
    rw [List.length_map, h1]
    exact Nat.le_trans (List.length_filter_le _ _) (by rw [List.length_take]; lia)
  · rintro L k d out nm hd ⟨as, hl, rfl, rfl⟩
    rw [List.getElem?_map] at hd
    obtain ⟨a, ha, rfl⟩ := Option.map_eq_some_iff.mp hd
    obtain ⟨hk1, hk2⟩ := (List.getElem?_eq_some_iff.mp ha)
    obtain ⟨h1, h2⟩ := step L (zipMu as (((xs.take k).filter p).map g)).reverse a (hk2 ▸ List.getElem_mem hk1)
    have ht : xs.take (k + 1) = xs.take k ++ [a] := by rw [List.take_add_one, ha]; rfl
    refine ⟨p a, h1, fun hp => ?_, fun hp => ?_⟩
    · refine EvX.mono (h2 hp) ?_
      rintro d mu ⟨b, rfl, rfl⟩
      refine ⟨as ++ [b], ?_, by simp, ?_⟩
      · rw [ht, List.filter_append]; simp [hp, hl]
      · rw [ht, List.filter_append, List.map_append, zipMu_append (by rw [List.length_map]; exact hl), List.reverse_append]
        simp [hp, zipMu]
        rfl
    · refine ⟨as, ?_, rfl, ?_⟩
      · rw [ht, List.filter_append]; simp [hp, hl]
      · rw [ht, List.filter_append]; simp [hp]
  · rintro d mu ⟨a, out, nm, ⟨as, hl, rfl, rfl⟩, rfl, rfl⟩
    refine ⟨(a, .list (as.map .ref)) :: (zipMu as ((xs.filter p).map g) ++ σ.mu), ?_, a, as, ?_, rfl, rfl⟩
    · refine List.Perm.cons _ (List.Perm.append_right _ ?_)
      rw [show xs.take (xs.map enc).length = xs by simp]
      exact (List.reverse_perm _).symm
    · rw [hl]; simp
end

inductive Out where
  | next
  | brk
  | cont
  | ret (d : D)
noncomputable def OutIs (F : Fz) : Flow → Out → Prop
  | .next, .next => True
  | .brk, .brk => True
  | .cont, .cont => True
  | .ret v, .ret d => Rep F v d
  | _, _ => False

noncomputable def WP (C : Cx) (σ : St) (ss : List Stmt) (Φ : Out → St → Prop) : Prop :=
  ∀ (K F : Fz) (s : Shared) (Q : Flow → Shared → Prop) (E : Value → Shared → Prop), Mo C K σ F s →
    (∀ f o F' s' σ', OutIs F' f o → Mo C K σ' F' s' → Fle F F' → Φ o σ' → Q f s') → wpAny C.G.M C.A (execs ss C.env) Q E s
noncomputable def WP1 (C : Cx) (σ : St) (st : Stmt) (Φ : Out → St → Prop) : Prop :=
  ∀ (K F : Fz) (s : Shared) (Q : Flow → Shared → Prop) (E : Value → Shared → Prop), Mo C K σ F s →
    (∀ f o F' s' σ', OutIs F' f o → Mo C K σ' F' s' → Fle F F' → Φ o σ' → Q f s') → wpAny C.G.M C.A (exec st C.env) Q E s

section
variable {C : Cx} {σ : St} {Φ : Out → St → Prop}
theorem WP.nil (h : Φ .next σ) : WP C σ [] Φ := fun K F s Q E X hQ => wpAny_execs_nil (hQ .next .next F s σ trivial X (Fle.refl _) h)
theorem WP.cons {st : Stmt} {ss : List Stmt} (h : WP1 C σ st fun o σ' => match o with | .next => WP C σ' ss Φ | o => Φ o σ') : WP C σ (st :: ss) Φ := fun K F s Q E X hQ => by
  refine wpAny_execs_cons (h K F s _ E X fun f o F' s' σ' ho X' g hΦ => ?_)
  cases o with
  | next =>
    cases f <;> try exact ho.elim
    exact hΦ K F' s' Q E X' fun f o F2 s2 σ2 ho2 X2 g2 h2 => hQ f o F2 s2 σ2 ho2 X2 (g.trans g2) h2
  | brk => cases f <;> first | exact ho.elim | exact hQ _ .brk F' s' σ' ho X' g hΦ
  | cont => cases f <;> first | exact ho.elim | exact hQ _ .cont F' s' σ' ho X' g hΦ
  | ret d => cases f <;> first | exact ho.elim | exact hQ _ (.ret d) F' s' σ' ho X' g hΦ
theorem WP.mono {ss : List Stmt} {Ψ : Out → St → Prop} (h : WP C σ ss Ψ) (hΨ : ∀ o σ', Ψ o σ' → Φ o σ') : WP C σ ss Φ := fun K F s Q E X hQ =>
  h K F s Q E X fun f o F' s' σ' ho X' g r => hQ f o F' s' σ' ho X' g (hΨ _ _ r)
theorem WP.weak {ss : List Stmt} {σ' : St} (h : WP C σ' ss Φ) (hv : ∀ y d, σ'.vars.lookup y = some d → σ.vars.lookup y = some d) (hm : σ'.mu = σ.mu) : WP C σ ss Φ := fun K F s Q E X hQ =>
  h K F s Q E (X.weak hv hm) hQ
theorem WP.drop {ss : List Stmt} {mu' : Mu} (hs : mu'.Sublist σ.mu) (h : WP C (σ.setMu mu') ss Φ) : WP C σ ss Φ := fun K F s Q E X hQ =>
  h K F s Q E (X.sub (fun p hp => hs.subset hp) (X.am.nd.sublist (hs.map _))) hQ
theorem WP.perm {ss : List Stmt} {mu' : Mu} (hs : mu'.Perm σ.mu) (h : WP C (σ.setMu mu') ss Φ) : WP C σ ss Φ := fun K F s Q E X hQ =>
  h K F s Q E (X.perm hs) hQ

noncomputable def Stores (C : Cx) (x : Str) : Prop := C.env.kindOf x = some .local ∨ (C.env.kindOf x = some .cell ∧ ∃ c, C.env.cells.lookup x = some c ∧ c ∈ C.priv)
theorem sto {K F : Fz} {s : Shared} {x : Str} {v : Value} {d : D} {Q : Unit → Shared → Prop} {E : Value → Shared → Prop} (hx : Stores C x) (X : Mo C K σ F s) (r : Rep F v d) (hQ : ∀ s', Mo C K (σ.set x d) F s' → Q () s') : wpAny C.G.M C.A (storeName C.env x v) Q E s := by
  rcases hx with hx | ⟨hx, c, hc, hp⟩
  · obtain ⟨m, hn, hm⟩ := X.loc
    exact wpAny_storeName_local hx hn (fun h' hn' hs => hQ _ (X.storeL hm hx hs hn' r)) (by rw [X.ok.fn]; rfl)
  · obtain ⟨⟨v0, hv0⟩, _⟩ := X.live (x, c) (mem_of_lookup hc)
    exact wpAny_storeName_cell X.ok.fn hx hc hv0 fun h' hn hs => hQ _ (X.storeC (t := s.toks) hx hc hp hs hn r)

theorem WP.setX {x : Str} {p : Pos} {e : Expr} {R : D → Mu → Prop} {pos : Pos} {ss : List Stmt} (hx : Stores C x) (he : EvX C σ e R) (h : ∀ d mu, R d mu → WP C ((σ.setMu mu).set x d) ss Φ)
    (hs : swapsWith e (some (.Name x p)) pos.line C.env = pure false := by rfl) : WP C σ (.Assign [.Name x p] e pos :: ss) Φ :=
  WP.cons fun K F s Q E X hQ => wpAny_Assign_Name (he K F s _ E X fun F' v s' d mu r X' g r' => sto hx X' r' fun s2 X2 => hQ .next .next F' s2 _ trivial X2 g (h d mu r)) hs
theorem WP.set {x : Str} {p : Pos} {e : Expr} {d : D} {pos : Pos} {ss : List Stmt} (hx : Stores C x) (he : Ev C σ e d) (h : WP C (σ.set x d) ss Φ)
    (hs : swapsWith e (some (.Name x p)) pos.line C.env = pure false := by rfl) : WP C σ (.Assign [.Name x p] e pos :: ss) Φ :=
  WP.cons fun K F s Q E X hQ => wpAny_Assign_Name (he K F s _ E X fun F' v s' X' g r' => sto hx X' r' fun s2 X2 => hQ .next .next F' s2 _ trivial X2 g h) hs
theorem WP.setC {x : Str} {p : Pos} {elt : Expr} {gens : List Comprehension} {scope : Scope} {cpos : Pos} {R : D → Mu → Prop} {pos : Pos} {ss : List Stmt} (hx : C.env.kindOf x = some .local) (he : EvC C σ elt gens scope cpos R)
    (h : ∀ d mu, R d mu → WP C ((σ.setMu mu).set x d) ss Φ)
    (hs : swapsWith (.ListComp elt gens scope cpos) (some (.Name x p)) pos.line C.env = pure true := by rfl) : WP C σ (.Assign [.Name x p] (.ListComp elt gens scope cpos) pos :: ss) Φ :=
  WP.cons fun K F s Q E X hQ => by
    rw [exec_Assign_Name_used _ _ _ _ hs]
    refine wpAny_bind (wpAny_standAt (wpAny_bind ?_))
    show wpAny _ _ (do let _ ← comprehension (.ListComp elt gens scope cpos) scope C.env (firstIterPos gens cpos) (newList []) (firstAsync gens) (firstIter gens C.env) (some (assign (.Name x p) C.env))) _ _ s
    refine wpAny_bind (wpAny_mono (he (some (assign (.Name x p) C.env)) K F s (fun _ s' => Q .next s') E X fun F' a s' mu L hR X' g h1 h2 h3 h4 h5 => ?_) (fun _ s' hq => wpAny_pure (wpAny_pure hq)) fun _ _ e => e)
    obtain ⟨m, hm⟩ := h5
    show wpAny _ _ (assign (.Name x p) C.env (.ref a)) _ _ _
    obtain ⟨m0, hn0, hm0⟩ := X'.loc
    have hL : C.env.locals ≠ L := fun e => h4 (e ▸ X'.ok.loc)
    refine wpAny_assign_Name (wpAny_storeName_local hx hn0 (fun h2' hn2 hs2 => ?_) (by rw [X'.ok.fn]; rfl))
    have X2 := X'.storeL (t := s'.toks + 1) hm0 hx hs2 hn2 (Rep.ref a)
    refine ⟨m, hm.sameBut hs2 (Ne.symm hL), fun h3' hs3 => ?_⟩
    exact hQ .next .next F' _ _ trivial (X2.other (t := s'.toks + 1) hs3 h1 h2 h3 h4) g (h _ mu hR)

theorem WP.ifs {test : Expr} {b : Bool} {body orelse ss : List Stmt} {pos : Pos} (ht : EvT C σ test b)
    (h1 : b = true → WP C σ body fun o σ' => match o with | .next => WP C σ' ss Φ | o => Φ o σ') (h2 : b = false → WP C σ orelse fun o σ' => match o with | .next => WP C σ' ss Φ | o => Φ o σ') : WP C σ (.If test body orelse pos :: ss) Φ :=
  WP.cons fun K F s Q E X hQ => wpAny_If (ht K F s _ E X fun F' s' X' g => by
    have fin : ∀ f o F2 s2 σ2, OutIs F2 f o → Mo C K σ2 F2 s2 → Fle F' F2 → (match o with | .next => WP C σ2 ss Φ | o => Φ o σ2) → Q f s2 := fun f o F2 s2 σ2 ho X2 g2 r => hQ f o F2 s2 σ2 ho X2 (g.trans g2) r
    cases b with
    | true => exact h1 rfl K F' s' Q E X' fin
    | false => exact h2 rfl K F' s' Q E X' fin)

theorem WP.retX {e : Expr} {R : D → Mu → Prop} {pos : Pos} {ss : List Stmt} (he : EvX C σ e R) (h : ∀ d mu, R d mu → Φ (.ret d) (σ.setMu mu)) : WP C σ (.Return (some e) pos :: ss) Φ :=
  WP.cons fun K F s Q E X hQ => wpAny_Return_some (he K F s _ E X fun F' v s' d mu r X' g r' => hQ (.ret v) (.ret d) F' s' _ r' X' g (h d mu r))
theorem WP.ret {e : Expr} {d : D} {pos : Pos} {ss : List Stmt} (he : Ev C σ e d) (h : Φ (.ret d) σ) : WP C σ (.Return (some e) pos :: ss) Φ :=
  WP.cons fun K F s Q E X hQ => wpAny_Return_some (he K F s _ E X fun F' v s' X' g r' => hQ (.ret v) (.ret d) F' s' _ r' X' g h)
theorem WP.brk {pos : Pos} {ss : List Stmt} (h : Φ .brk σ) : WP C σ (.Break pos :: ss) Φ := WP.cons fun K F s Q E X hQ => wpAny_Break (hQ .brk .brk F s σ trivial X (Fle.refl _) h)
theorem WP.exprX {e : Expr} {R : D → Mu → Prop} {pos : Pos} {ss : List Stmt} (he : EvX C σ e R) (h : ∀ d mu, R d mu → WP C (σ.setMu mu) ss Φ)
    (hi : interactive C.env = false := by rfl) (hs : swapsWith e none pos.line C.env = pure false := by rfl) : WP C σ (.Expr e pos :: ss) Φ :=
  WP.cons fun K F s Q E X hQ => wpAny_Expr_any (he K F s _ E X fun F' v s' d mu r X' g r' => hQ .next .next F' s' _ trivial X' g (h d mu r)) hi hs

theorem WP.while {test : Expr} {body ss : List Stmt} {pos : Pos} (I : Nat → St → Prop) (n : Nat) (h0 : I n σ)
    (turn : ∀ n σ, I n σ → ∃ b, EvT C σ test b ∧ (b = true → WP C σ body fun o σ' => match o with | .next => ∃ m, m < n ∧ I m σ' | .cont => ∃ m, m < n ∧ I m σ' | .brk => WP C σ' ss Φ | .ret d => Φ (.ret d) σ') ∧ (b = false → WP C σ ss Φ)) :
    WP C σ (.While test body [] pos :: ss) Φ := WP.cons fun K F s Q E X hQ => by
  refine wpAny_While (codeAny_whileLoop (prog := C.G.prog) (w := C.G.w) (fun n s' => ∃ σ' F', I n σ' ∧ Mo C K σ' F' s' ∧ Fle F F') ?_ n ⟨σ, F, h0, X, Fle.refl _⟩)
  rintro n s1 ⟨σ1, F1, hI, X1, g1⟩
  obtain ⟨b, ht, hb, he⟩ := turn n σ1 hI
  refine ht K F1 s1 _ _ X1 fun F2 s2 X2 g2 => ?_
  cases b with
  | false =>
    simp only [Bool.false_eq_true, if_false]
    exact wpAny_execs_nil (hQ .next .next F2 s2 σ1 trivial X2 (g1.trans g2) (he rfl))
  | true =>
    simp only [if_true]
    refine hb rfl K F2 s2 _ _ X2 fun f o F3 s3 σ3 ho X3 g3 hΦ => ?_
    have g := (g1.trans g2).trans g3
    cases o with
    | next => cases f <;> first | exact ho.elim | (obtain ⟨m, hm, hI'⟩ := hΦ; exact ⟨m, hm, σ3, F3, hI', X3, g⟩)
    | cont => cases f <;> first | exact ho.elim | (obtain ⟨m, hm, hI'⟩ := hΦ; exact ⟨m, hm, σ3, F3, hI', X3, g⟩)
    | brk => cases f <;> first | exact ho.elim | exact hQ .next .next F3 s3 σ3 trivial X3 g hΦ
    | ret d => cases f <;> first | exact ho.elim | exact hQ _ (.ret d) F3 s3 σ3 ho X3 g hΦ

theorem WP.for {target iter : Expr} {body orelse ss : List Stmt} {pos : Pos} {d : D} {ds : List D} (I : Nat → St → Prop) (he : Ev C σ iter d) (hi : d = .list ds ∨ ∃ lo hi, d = .rng lo hi ∧ ds = rints lo hi ∧ (-1000000 ≤ lo ∧ lo ≤ 1000000 ∧ -1000000 ≤ hi ∧ hi ≤ 1000000))
    (h0 : I 0 σ) (τ : D → St → St) (hτ : ∀ d σ m, τ d (σ.setMu m) = (τ d σ).setMu m) (hτm : ∀ d σ, (τ d σ).mu = σ.mu) (hasg : ∀ d σ, Asg C σ target d (τ d σ))
    (turn : ∀ k d σ, ds[k]? = some d → I k σ → WP C (τ d σ) body fun o σ' => match o with | .next => I (k + 1) σ' | .cont => I (k + 1) σ' | .brk => WP C σ' ss Φ | .ret d => Φ (.ret d) σ')
    (done : ∀ σ, I ds.length σ → WP C σ orelse fun o σ' => match o with | .next => WP C σ' ss Φ | o => Φ o σ')
    (hs : ∀ x, foldedSetIterable iter C.env x = pure x := by intro _; rfl) (ht : ∀ it v, letOwnedTupleGo target it v = pure () := by intro _ _; rfl) : WP C σ (.For target iter body orelse pos :: ss) Φ := WP.cons fun K F s Q E X hQ => by
  refine wpAny_For (he K F s _ E X fun F1 v s1 X1 g1 r1 => ?_) hs
  have S : Src K F1 v ds := by
    rcases hi with rfl | ⟨lo, hi, rfl, rfl, hb⟩
    · obtain ⟨a, o, vs, rfl, h1, h2, h3⟩ := r1.list_inv
      exact .list (.inl h1) h2 h3
    · obtain ⟨a, o, rfl, h1, h2⟩ := r1.rng_inv
      exact .rng h1 h2 hb
  refine pyIter_src X.ok.rm.hh S X1.am.frz X1.am.keep fun o P hf hP ITA => ?_
  have IT := ITA C.A X.ok.rm.hh
  have X2 := X1.allocMu o (.obj (P 0)) s1.toks ⟨o, Heap.get?_push_size _ hf, hP⟩
  generalize hit : s1.heap.objs.size = it at X2 IT ⊢
  obtain ⟨c1, c2⟩ := X2.apartMu (p := (it, .obj (P 0))) (.head _)
  refine codeAny_forLoop (prog := C.G.prog) (w := C.G.w) (fun n s' => ∃ k σ' F', n + k = ds.length ∧ I k σ' ∧ Mo C K (σ'.setMu ((it, .obj (P k)) :: σ'.mu)) F' s' ∧ Fle F1 F') ?_ ds.length ⟨0, σ, F1, by simp, h0, X2, Fle.refl _⟩ (ht _)
  rintro n s3 ⟨k, σ3, F3, hn, hI, X3, g3⟩
  have hit3 : ∃ o, s3.heap.get? it = some o ∧ P k o := (X3.am.mus (it, .obj (P k)) (.head _)).1
  cases n with
  | zero =>
    have hk : k = ds.length := by lia
    subst hk
    refine IT.stop F3 s3 _ _ g3 X3.am.frz X3.am.keep hit3 fun h' t hs' => ?_
    have X4 := X3.dropExt (t := t) rfl hs'
    refine done σ3 hI K F3 _ _ _ X4 fun f o F5 s5 σ5 ho X5 g5 hΦ => ?_
    exact hQ f o F5 s5 σ5 ho X5 ((g1.trans g3).trans g5) hΦ
  | succ n =>
    have hk : k < ds.length := by lia
    refine IT.item k ds[k] F3 s3 _ _ g3 X3.am.frz X3.am.keep (List.getElem?_eq_getElem hk) hit3 fun h' v t hs' hit' hr => ?_
    have X4 := X3.turn (pre := []) (mo' := .obj (P (k + 1))) (t := t) rfl hs' hit'
    refine hasg ds[k] _ K F3 _ v _ _ X4 hr fun s5 X5 => ?_
    rw [hτ] at X5
    obtain ⟨oi, hoi, ⟨oi', hoi', hPi⟩, hKi, X6⟩ := X5.hide (a := it) (mo := .obj (P (k + 1))) (mu := σ3.mu) rfl
    rw [hoi] at hoi'; cases hoi'
    have e6 : ((τ ds[k] σ3).setMu ((it, MO.obj (P (k + 1))) :: σ3.mu)).setMu σ3.mu = τ ds[k] σ3 := by
      show (τ ds[k] σ3).setMu σ3.mu = _
      rw [← hτm ds[k] σ3]; rfl
    have e7 : ((τ ds[k] (σ3.setMu ((it, MO.obj (P k)) :: σ3.mu))).setMu ([] ++ (it, MO.obj (P (k + 1))) :: σ3.mu)).setMu σ3.mu = τ ds[k] σ3 := by
      rw [hτ]; exact e6
    rw [show ∀ m, ((τ ds[k] (σ3.setMu ((it, MO.obj (P k)) :: σ3.mu))).setMu m).setMu σ3.mu = τ ds[k] σ3 from fun m => by rw [hτ]; exact e6] at X6
    refine turn k ds[k] σ3 (List.getElem?_eq_getElem hk) hI (K.put it oi) F3 s5 _ _ X6 fun f o F7 s7 σ7 ho X7 g7 hΦ => ?_
    have hi7 : s7.heap.get? it = some oi := X7.am.keep _ _ (Fz.put_self _ _ _)
    have X8 := X7.show hKi (mo := .obj (P (k + 1))) ⟨oi, hi7, hPi⟩ c1 c2 (X.ok.mon _ _ _ _ X5.pre (Fle.refl _) g7)
    have X9 := X8.sub (mu' := σ7.mu) (fun p hp => .tail _ hp) X7.am.nd
    cases o with
    | next => cases f <;> first | exact ho.elim | exact ⟨n, Nat.lt_succ_self n, k + 1, σ7, F7, by lia, hΦ, X8, g3.trans g7⟩
    | cont => cases f <;> first | exact ho.elim | exact ⟨n, Nat.lt_succ_self n, k + 1, σ7, F7, by lia, hΦ, X8, g3.trans g7⟩
    | brk => cases f <;> first | exact ho.elim | exact hQ .next .next F7 s7 σ7 trivial X9 ((g1.trans g3).trans g7) hΦ
    | ret d => cases f <;> first | exact ho.elim | exact hQ _ (.ret d) F7 s7 σ7 ho X9 ((g1.trans g3).trans g7) hΦ
end
end Mine
end

section
set_option Elab.async false
set_option linter.unusedVariables false
set_option linter.unusedSimpArgs false
namespace Mine
open PySem PySem.W PyProof.Rows PySem.Calls

noncomputable def MuSet (mu : Mu) (a : Addr) (m m' : MO) (mu' : Mu) : Prop := ∃ pre post, mu = pre ++ (a, m) :: post ∧ mu' = pre ++ (a, m') :: post
theorem MuSet.head {mu : Mu} {a : Addr} {m m' : MO} : MuSet ((a, m) :: mu) a m m' ((a, m') :: mu) := ⟨[], mu, rfl, rfl⟩
theorem MuSet.tail {mu mu' : Mu} {a : Addr} {m m' : MO} {p : Addr × MO} (h : MuSet mu a m m' mu') : MuSet (p :: mu) a m m' (p :: mu') := by
  obtain ⟨pre, post, rfl, rfl⟩ := h
  exact ⟨p :: pre, post, rfl, rfl⟩
theorem MuSet.right {mu mu' nu : Mu} {a : Addr} {m m' : MO} (h : MuSet mu a m m' mu') : MuSet (nu ++ mu) a m m' (nu ++ mu') := by
  obtain ⟨pre, post, rfl, rfl⟩ := h
  exact ⟨nu ++ pre, post, by simp, by simp⟩
theorem MuSet.mem {mu mu' : Mu} {a : Addr} {m m' : MO} (h : MuSet mu a m m' mu') : (a, m) ∈ mu := by
  obtain ⟨pre, post, rfl, rfl⟩ := h
  simp
theorem MuSet.zip : ∀ {as : List Addr} {gs : List (List D)} {k : Nat} {a : Addr} {g g' : List D}, as[k]? = some a → gs[k]? = some g → MuSet (zipMu as gs) a (.list g) (.list g') (zipMu as (gs.set k g'))
  | a :: as, g :: gs, 0, _, _, _, h1, h2 => by
    simp only [List.getElem?_cons_zero, Option.some.injEq] at h1 h2
    subst h1 h2
    exact .head
  | a :: as, g :: gs, k + 1, _, _, _, h1, h2 => by
    simp only [List.getElem?_cons_succ] at h1 h2
    exact (MuSet.zip h1 h2).tail
  | [], _, _, _, _, _, h1, _ => by simp at h1
  | _ :: _, [], _, _, _, _, _, h2 => by simp at h2

section
variable {C : Cx} {σ : St} {Φ : Out → St → Prop}
theorem Mo.set {K F : Fz} {s : Shared} {h' : Heap} {a : Addr} {mo mo' : MO} {mu' : Mu} {t : Nat} (X : Mo C K σ F s) (hm : MuSet σ.mu a mo mo' mu') (hs : Heap.SameBut a s.heap h') (h : mo'.At F h' a) : Mo C K (σ.setMu mu') F { s with heap := h', toks := t } := by
  obtain ⟨pre, post, h1, rfl⟩ := hm
  exact X.turn h1 hs h

theorem Mo.upd {K F : Fz} {s : Shared} {a : Addr} {ds ds' : List D} {vs ws : List Value} {n : Nat} {mu' : Mu} {t : Nat} {f : Array Value → Array Value} (X : Mo C K σ F s) (hm : MuSet σ.mu a (.list ds) (.list ds') mu') (h1 : IsL s.heap a vs.toArray n)
    (hf : f vs.toArray = ws.toArray) (hw : ws.length ≤ 100000) (hr : RepL F ws ds') : Mo C K (σ.setMu mu') F { s with heap := s.heap.update a (Obj.mapSeq f), toks := t } := by
  have := IsL.update h1 f
  rw [hf] at this
  exact X.set hm (Heap.SameBut.update ..) ⟨_, ws, this, ⟨hw, _, rfl⟩, hr⟩

theorem EvX.append {o elt : Expr} {apos pos : Pos} {a : Addr} {ds : List D} {e : D} {mu' : Mu} (ho : Ev C σ o (.ref a)) (he : Ev C σ elt e) (hm : MuSet σ.mu a (.list ds) (.list (ds ++ [e])) mu') (hl : ds.length < 100000)
    (hbase : attributeBase o "append" C.env (eval o C.env) = eval o C.env := by rfl)
    (hfew : ((backTo pos (starEach [elt] C.env)).all (fun x => !x.1) && (backToKw pos (keywordEach [] C.env)).all (fun x => x.1.isSome) && decide (([elt] : List Expr).length + ([] : List Keyword).length + (if ([] : List Keyword).isEmpty then 0 else 1) < 30)) = true := by rfl)
    (hline : (apos.endLine == pos.line) = true := by rfl) (htrees : backTo pos (starEach [elt] C.env) = [(false, eval elt C.env)] := by rfl) :
    EvX C σ (.Call (.Attribute o "append" apos) [elt] [] pos) (fun d mu => d = .none ∧ mu = mu') := fun K F s Q E X hQ => by
  refine wpAny_Call_method (T := "list") (id := "list.append") hbase hfew hline PySem.F.plainAttrs_list PySem.F.slot_list_append PySem.F.type_list_append (ho K F s _ E X fun F1 v s1 X1 g1 r1 => ?_)
  cases r1.ref_inv
  obtain ⟨vs, n, h1, h2, h3⟩ := (X1.am.mus _ hm.mem).1.isL
  refine ⟨⟨_, h1, rfl⟩, fun b hb => by cases hb; exact ⟨_, h1, rfl⟩, ?_⟩
  rw [htrees]
  refine P.append_list (he K F1 s1 _ E X1 fun F2 w s2 X2 g2 r2 => ?_)
  obtain ⟨vs', n', k1, k2, k3⟩ := (X2.am.mus _ hm.mem).1.isL
  have hl2 := k2.length
  refine ⟨vs'.toArray, n', by rw [List.size_toArray]; exact fitsSz (by lia), k1, ?_⟩
  exact hQ F2 _ _ _ _ ⟨rfl, rfl⟩ (X2.upd (t := s2.toks) hm k1 (ws := vs' ++ [w]) (by simp) (by simp; lia) (k2.append (.cons r2 .nil))) (g1.trans g2) .none

theorem WP.del0 {o i : Expr} {p pos : Pos} {a : Addr} {e : D} {ds : List D} {mu' : Mu} {ss : List Stmt} (ho : Ev C σ o (.ref a)) (hi : Ev C σ i (.int 0)) (hm : MuSet σ.mu a (.list (e :: ds)) (.list ds) mu') (h : WP C (σ.setMu mu') ss Φ) :
    WP C σ (.Delete [.Subscript o i p] pos :: ss) Φ := WP.cons fun K F s Q E X hQ => by
  refine wpAny_Delete (wpAny_deleteEach_cons (wpAny_delete_Subscript (ho K F s _ E X fun F1 v s1 X1 g1 r1 => hi K F1 s1 _ E X1 fun F2 w s2 X2 g2 r2 => ?_)))
  cases (r1.mono g2).ref_inv
  obtain ⟨t, rfl⟩ := r2.int_inv
  obtain ⟨vs, n, h1, h2, h3⟩ := (X2.am.mus _ hm.mem).1.isL
  have hl := h2.length
  simp only [List.length_cons] at hl
  refine P.delItem_list h1 (by decide) (k := 0) (seqIndex_of (k := 0) (by lia) (by rw [List.size_toArray]; lia)) ?_ (by rw [List.size_toArray]; exact fitsSz (by lia))
  refine wpAny_deleteEach_nil ?_
  have hrl := h2.eraseIdx 0
  exact hQ .next .next F2 _ _ trivial (X2.upd (t := s2.toks) hm h1 (ws := vs.eraseIdx 0) (by simp [Array.eraseIdxIfInBounds, show 0 < vs.length by lia]) (by have := List.length_eraseIdx_le vs 0; lia) hrl) (g1.trans g2) h

theorem WP.setItem {o i e : Expr} {p pos : Pos} {a : Addr} {k : Int} {d : D} {ds : List D} {mu' : Mu} {ss : List Stmt} (he : Ev C σ e d) (ho : Ev C σ o (.ref a)) (hi : Ev C σ i (.int k)) (h0 : 0 ≤ k) (hk : k.toNat < ds.length)
    (hm : MuSet σ.mu a (.list ds) (.list (ds.set k.toNat d)) mu') (h : WP C (σ.setMu mu') ss Φ) (hs : swapsWith e (some (.Subscript o i p)) pos.line C.env = pure false := by rfl) :
    WP C σ (.Assign [.Subscript o i p] e pos :: ss) Φ := WP.cons fun K F s Q E X hQ => by
  refine wpAny_Assign_Subscript (he K F s _ E X fun F0 u s0 X0 g0 r0 => ho K F0 s0 _ E X0 fun F1 v s1 X1 g1 r1 => hi K F1 s1 _ E X1 fun F2 w s2 X2 g2 r2 => ?_) hs
  cases (r1.mono g2).ref_inv
  obtain ⟨t, rfl⟩ := r2.int_inv
  obtain ⟨vs, n, h1, h2, h3⟩ := (X2.am.mus _ hm.mem).1.isL
  have hl := h2.length
  refine ki_setAt (n := n) h1 h0 (by lia) (by rw [List.size_toArray]; lia) ?_
  exact hQ .next .next F2 _ _ trivial (X2.upd (t := s2.toks) hm h1 (ws := vs.set k.toNat u) (by simp) (by rw [List.length_set]; exact h3) (h2.set _ ((r0.mono g1).mono g2))) ((g0.trans g1).trans g2) h

noncomputable def DLe (F : Fz) (d e : D) : Prop := ∀ v, Rep F v d → Rep F v e
theorem WP.freeze {a : Addr} {ds : List D} {mu : Mu} {vars : List (Str × D)} {ss : List Stmt} (hσ : σ.mu = (a, .list ds) :: mu) (hv : ∀ y e, vars.lookup y = some e → σ.vars.lookup y = some e ∨ (σ.vars.lookup y = some (.ref a) ∧ e = .list ds))
    (h : WP C { vars := vars, mu := mu } ss Φ) : WP C σ ss Φ := fun K F s Q E X hQ => by
  obtain ⟨o, ho, ⟨o', vs, h1, h2, h3⟩, hF, X'⟩ := X.freeze hσ
  rw [ho] at h1; cases h1
  have g : Fle F (F.put a o) := Fle.put hF o
  refine h K (F.put a o) s Q E ?_ fun f oo F' s' σ' ho' X2 g2 r => hQ f oo F' s' σ' ho' X2 (g.trans g2) r
  obtain ⟨m, hn, hm⟩ := X'.loc
  refine ⟨X'.ok, X'.am, X'.priv, X'.live, ⟨m, hn, fun y e hy => ?_⟩, X'.pmu, X'.ro, X'.pre⟩
  rcases hv y e hy with h' | ⟨h', rfl⟩
  · exact hm y e h'
  · obtain ⟨v, q1, q2⟩ := hm y _ h'
    cases q2.ref_inv
    exact ⟨_, q1, .list (Fz.put_self _ _ _) h2 (h3.mono g)⟩
theorem WP.frz {a : Addr} {ds : List D} {mu : Mu} (new : List (Str × D)) {ss : List Stmt} (hσ : σ.mu = (a, .list ds) :: mu) (hv : ∀ p ∈ new, σ.vars.lookup p.1 = some p.2 ∨ (σ.vars.lookup p.1 = some (.ref a) ∧ p.2 = .list ds))
    (h : WP C { vars := new, mu := mu } ss Φ) : WP C σ ss Φ := WP.freeze hσ (fun y e hy => hv (y, e) (mem_of_lookup hy)) h
theorem WP.keep (new : List (Str × D)) {ss : List Stmt} (hv : ∀ p ∈ new, σ.vars.lookup p.1 = some p.2) (h : WP C { vars := new, mu := σ.mu } ss Φ) : WP C σ ss Φ := WP.weak h (fun y e hy => hv (y, e) (mem_of_lookup hy)) rfl
theorem Mo.freezeAll {K : Fz} {s : Shared} : ∀ {as : List Addr} {gs : List (List D)} {mu : Mu} {F : Fz} {σ : St}, as.length = gs.length → Mo C K σ F s → σ.mu = zipMu as gs ++ mu →
    ∃ F', Fle F F' ∧ Mo C K (σ.setMu mu) F' s ∧ RepL F' (as.map .ref) (gs.map .list)
  | [], [], mu, F, σ, _, X, hσ => by
    have : σ.mu = mu := hσ
    subst this
    exact ⟨F, Fle.refl _, X, .nil⟩
  | a :: as, g :: gs, mu, F, σ, hl, X, hσ => by
    obtain ⟨o, ho, ⟨o', vs, h1, h2, h3⟩, hF, X'⟩ := X.freeze (mu := zipMu as gs ++ mu) hσ
    rw [ho] at h1; cases h1
    have g1 : Fle F (F.put a o) := Fle.put hF o
    obtain ⟨F', g2, X2, r2⟩ := Mo.freezeAll (as := as) (gs := gs) (mu := mu) (by simpa using hl) X' rfl
    exact ⟨F', g1.trans g2, X2, .cons (.list (g2 _ _ (Fz.put_self _ _ _)) h2 (h3.mono (g1.trans g2))) r2⟩
  | [], _ :: _, _, _, _, h, _, _ => by simp at h
  | _ :: _, [], _, _, _, h, _, _ => by simp at h
theorem RepL.refs {F : Fz} : ∀ {as : List Addr} {vs : List Value}, RepL F vs (as.map .ref) → vs = as.map .ref
  | [], _, h => by cases h; rfl
  | a :: as, _, h => by
    cases h with
    | cons h t => rw [h.ref_inv, RepL.refs t]; rfl
theorem WP.freezeL {a : Addr} {as : List Addr} {gs : List (List D)} {mu : Mu} {vars : List (Str × D)} {ss : List Stmt} (hl : as.length = gs.length) (hσ : σ.mu = (a, .list (as.map .ref)) :: (zipMu as gs ++ mu))
    (hv : ∀ y e, vars.lookup y = some e → σ.vars.lookup y = some e ∨ (σ.vars.lookup y = some (.ref a) ∧ e = .list (gs.map .list))) (h : WP C { vars := vars, mu := mu } ss Φ) : WP C σ ss Φ := fun K F s Q E X hQ => by
  obtain ⟨F1, g1, X1, r1⟩ := Mo.freezeAll (mu := (a, .list (as.map .ref)) :: mu) hl (X.perm (mu' := zipMu as gs ++ (a, .list (as.map .ref)) :: mu) (by rw [hσ]; exact List.perm_middle)) rfl
  obtain ⟨o, ho, ⟨o', vs, h1, h2, h3⟩, hF, X'⟩ := X1.freeze rfl
  rw [ho] at h1; cases h1
  have g : Fle F1 (F1.put a o) := Fle.put hF o
  refine h K (F1.put a o) s Q E ?_ fun f oo F' s' σ' ho' X2 g2 r => hQ f oo F' s' σ' ho' X2 ((g1.trans g).trans g2) r
  obtain ⟨m, hn, hm⟩ := X'.loc
  refine ⟨X'.ok, X'.am, X'.priv, X'.live, ⟨m, hn, fun y e hy => ?_⟩, X'.pmu, X'.ro, X'.pre⟩
  rcases hv y e hy with h' | ⟨h', rfl⟩
  · exact hm y e h'
  · obtain ⟨v, q1, q2⟩ := hm y _ h'
    cases q2.ref_inv
    cases h3.refs
    exact ⟨_, q1, .list (Fz.put_self _ _ _) h2 (r1.mono g)⟩
theorem Ev.of_fresh {e : Expr} {gs : List (List D)} (h : EvX C σ e (FreshL σ gs)) : Ev C σ e (.list (gs.map .list)) := fun K F s Q E X hQ =>
  h K F s Q E X fun F' v s' d mu ⟨a, as, hl, e1, e2⟩ X' g r => by
    subst e1 e2
    obtain ⟨F1, g1, X1, r1⟩ := Mo.freezeAll (mu := (a, .list (as.map .ref)) :: σ.mu) hl (X'.perm (mu' := zipMu as gs ++ (a, .list (as.map .ref)) :: σ.mu) List.perm_middle) rfl
    obtain ⟨o, ho, ⟨o', vs, h1, h2, h3⟩, hF, X2⟩ := X1.freeze rfl
    rw [ho] at h1; cases h1
    have g2 : Fle F1 (F1.put a o) := Fle.put hF o
    cases r.ref_inv
    cases h3.refs
    exact hQ _ _ _ X2 ((g.trans g1).trans g2) (.list (Fz.put_self _ _ _) h2 (r1.mono g2))
end
end Mine
end

section
set_option Elab.async false
set_option linter.unusedVariables false
set_option linter.unusedSimpArgs false
namespace Mine
open PySem PySem.W PyProof.Rows PySem.Calls

noncomputable abbrev zs (ns : List Int) : List D := ns.map .int
theorem RepL.ints {F : Fz} : ∀ {vs : List Value} {ns : List Int}, RepL F vs (zs ns) → IntsAre vs ns
  | _, [], h => by cases h; exact .nil
  | _, n :: ns, h => by
    cases h with
    | cons h t =>
      obtain ⟨u, rfl⟩ := h.int_inv
      exact .cons _ _ (RepL.ints t)
theorem RepL.of_get {F : Fz} : ∀ {vs : List Value} {ds : List D}, vs.length = ds.length → (∀ (j : Nat) (v : Value) (d : D), vs[j]? = some v → ds[j]? = some d → Rep F v d) → RepL F vs ds
  | [], [], _, _ => .nil
  | v :: vs, d :: ds, hl, h => .cons (h 0 v d rfl rfl) (RepL.of_get (by simpa using hl) fun j v d h1 h2 => h (j + 1) v d (by simpa using h1) (by simpa using h2))
  | [], _ :: _, hl, _ => by simp at hl
  | _ :: _, [], hl, _ => by simp at hl

section
variable {C : Cx} {σ : St} {Φ : Out → St → Prop}

theorem Mo.kept {K F : Fz} {s : Shared} {h' : Heap} {t : Nat} (X : Mo C K σ F s) (hk : ∀ b o, s.heap.get? b = some o → h'.get? b = some o) : Mo C K σ F { s with heap := h', toks := t } :=
  X.grow hk (Fle.refl _) (fun _ _ e => .inl e) fun b o e => hk b o (X.am.frz _ _ e)
theorem Mo.addMu {K F : Fz} {s : Shared} {h' : Heap} {t : Nat} {a : Addr} {mo : MO} (X : Mo C K σ F s) (hk : ∀ b o, s.heap.get? b = some o → h'.get? b = some o) (ha : s.heap.get? a = none) (hm : mo.At F h' a) :
    Mo C K (σ.setMu ((a, mo) :: σ.mu)) F { s with heap := h', toks := t } := by
  have X' := X.kept (t := t) hk
  have hF : F a = none := by
    cases e : F a with
    | none => rfl
    | some o => rw [X.am.frz _ _ e] at ha; cases ha
  have hK : K a = none := by
    cases e : K a with
    | none => rfl
    | some o => rw [X.am.keep _ _ e] at ha; cases ha
  have hmu : ∀ p ∈ σ.mu, p.1 ≠ a := fun p hp e => by
    obtain ⟨o, ho⟩ := (X.am.mus p hp).1.some
    rw [e, ha] at ho; cases ho
  have A := X'.am
  refine X'.with ⟨A.ok, A.base, A.frz, A.dis, A.keep, fun p hp => ?_, ?_, A.gens, A.drawn, A.os⟩ (fun b hb => ⟨(X'.priv b hb).1, rfl⟩) (Fle.refl _) fun p hp => ?_
  · rcases List.mem_cons.mp hp with rfl | hp
    · exact ⟨hm, hF, hK⟩
    · exact A.mus p hp
  · rw [List.map_cons, List.nodup_cons]
    refine ⟨fun hq => ?_, A.nd⟩
    obtain ⟨p, hp, e⟩ := List.mem_map.mp hq
    exact hmu p hp e
  · rcases List.mem_cons.mp hp with rfl | hp
    · intro hb
      obtain ⟨o, ho⟩ := (X.priv _ hb).2.2
      rw [ha] at ho; cases ho
    · exact X.pmu p hp

structure BN (C : Cx) (x : Str) (v : Value) : Prop where
  kind : C.env.kindOf x = some .globalImplicit
  mg : C.G.mg x = none
  mb : C.G.mb x = some v
  nd : (x == ("__debug__" : Str)) = false

noncomputable def C1 (C : Cx) (σ : St) (f : Value) (d : D) (R : D → Mu → Prop) : Prop :=
  ∀ (K F : Fz) (s : Shared) (v : Value) (Q : Value → Shared → Prop) (E : Value → Shared → Prop), Mo C K σ F s → Rep F v d →
    (∀ F' v' s' d' mu, R d' mu → Mo C K (σ.setMu mu) F' s' → Fle F F' → Rep F' v' d' → Q v' s') → wpAny C.G.M C.A (call f [v]) Q E s
noncomputable def C2 (C : Cx) (σ : St) (f : Value) (d1 d2 : D) (R : D → Mu → Prop) : Prop :=
  ∀ (K F : Fz) (s : Shared) (v1 v2 : Value) (Q : Value → Shared → Prop) (E : Value → Shared → Prop), Mo C K σ F s → Rep F v1 d1 → Rep F v2 d2 →
    (∀ F' v' s' d' mu, R d' mu → Mo C K (σ.setMu mu) F' s' → Fle F F' → Rep F' v' d' → Q v' s') → wpAny C.G.M C.A (call f [v1, v2]) Q E s
noncomputable def IsBT (f : Value) : Prop := (∃ id, f = .builtin id) ∨ ∃ T, f = .type T

theorem callWith_bt {pos : Pos} {f : Value} {args : List (Bool × Sem Value)} {Q : Value → Shared → Prop} {E : Value → Shared → Prop} {M : Model} {A : Around} {s : Shared} (hf : IsBT f) (hplain : args.any (·.1) = false)
    (h : wpAny M A (evalArgs f true args []) (fun a s₁ => wpAny M A (call f ([] ++ a.pos) a.kw) Q E s₁) E s) : wpAny M A (callWith pos f [] args []) Q E s := by
  rcases hf with ⟨id, rfl⟩ | ⟨T, rfl⟩
  · exact callWith_builtin hplain h
  · exact PyProof.Rows.callWith_type hplain h
theorem EvX.call1 {x : Str} {p pos : Pos} {f : Value} {e : Expr} {d : D} {R : D → Mu → Prop} (hf : IsBT f) (hb : BN C x f) (he : Ev C σ e d) (h : C1 C σ f d R)
    (hs : starEach [e] C.env = [(false, eval e C.env)] := by rfl) : EvX C σ (.Call (.Name x p) [e] [] pos) R := fun K F s Q E X hQ => by
  refine Call_Name1 (bName X hb.kind hb.mg hb.mb ?_ hb.nd) hs
  refine callWith_bt hf rfl (Calls.evalArgs_plain (Calls.spliced_cons (he K F s _ E X fun F1 v s1 X1 g1 r1 => Calls.spliced_nil ?_)))
  exact h K F1 s1 v Q E X1 r1 fun F' v' s' d' mu hR X' g r => hQ F' v' s' d' mu hR X' (g1.trans g) r
theorem EvX.call2 {x : Str} {p pos : Pos} {f : Value} {e1 e2 : Expr} {d1 d2 : D} {R : D → Mu → Prop} (hf : IsBT f) (hb : BN C x f) (he1 : Ev C σ e1 d1) (he2 : Ev C σ e2 d2) (h : C2 C σ f d1 d2 R)
    (hs : starEach [e1, e2] C.env = [(false, eval e1 C.env), (false, eval e2 C.env)] := by rfl) : EvX C σ (.Call (.Name x p) [e1, e2] [] pos) R := fun K F s Q E X hQ => by
  refine Call_Name2 (bName X hb.kind hb.mg hb.mb ?_ hb.nd) hs
  refine callWith_bt hf rfl (Calls.evalArgs_plain (Calls.spliced_cons (he1 K F s _ E X fun F1 v s1 X1 g1 r1 => Calls.spliced_cons (he2 K F1 s1 _ E X1 fun F2 v2 s2 X2 g2 r2 => Calls.spliced_nil ?_))))
  exact h K F2 s2 v v2 Q E X2 (r1.mono g2) r2 fun F' v' s' d' mu hR X' g r => hQ F' v' s' d' mu hR X' ((g1.trans g2).trans g) r
noncomputable def Just (σ : St) (d : D) (d' : D) (mu : Mu) : Prop := d' = d ∧ mu = σ.mu
theorem Ev.of_just {e : Expr} {d : D} (h : EvX C σ e (Just σ d)) : Ev C σ e d := fun K F s Q E X hQ => h K F s Q E X fun F' v s' d' mu ⟨e1, e2⟩ X' g r => by
  subst e1 e2
  exact hQ F' v s' X' g r

theorem C1.len {d : D} {ds : List D} (hi : Items C σ d ds) : C1 C σ (.builtin "len") d (Just σ (.int ds.length)) := fun K F s v Q E X r hQ => by
  obtain ⟨a, vs, n, rfl, h1, h2, h3⟩ := hi.at X r
  refine Calls.call_len_list (IsL.isList h1) (by rw [List.size_toArray]; lia) ?_
  have := hQ F (.int ds.length (s.toks + 1)) { s with toks := s.toks + 1 + 1 } _ _ ⟨rfl, rfl⟩ (X.toks _) (Fle.refl _) (.int _ _)
  rw [List.size_toArray, h2.length]
  exact this
theorem intsAre_items {vs : List Value} {ns : List Int} (h : IntsAre vs ns) : ∃ xs : Array (Int × Tok), vs.toArray = intItems xs ∧ xs.toList.map (·.1) = ns := by
  obtain ⟨xs, hx⟩ := h.allInts.items
  refine ⟨xs, hx, ?_⟩
  have h1 := h.numsOf
  have h2 : vs = (intItems xs).toList := by rw [← hx]
  rw [h2, nums_intItems] at h1
  exact h1
theorem C1.sum {d : D} {ns : List Int} (hi : Items C σ d (zs ns)) : C1 C σ (.builtin "sum") d (Just σ (.int ns.sum)) := fun K F s v Q E X r hQ => by
  obtain ⟨a, vs, n, rfl, h1, h2, h3⟩ := hi.at X r
  obtain ⟨xs, e1, e2⟩ := intsAre_items h2.ints
  rw [e1] at h1
  refine sum_intListG X.ok.rm.hh (IsL.isList h1) fun h' tk t' hk => ?_
  rw [preSum_eq, List.take_of_length_le (by simp), e2]
  exact hQ F _ _ _ _ ⟨rfl, rfl⟩ (X.kept hk) (Fle.refl _) (.int _ _)
theorem C1.range {n : Int} : C1 C σ (.type "range") (.int n) (Just σ (.rng 0 n)) := fun K F s v Q E X r hQ => by
  obtain ⟨t, rfl⟩ := r.int_inv
  exact call_range_1 (hQ _ _ _ _ _ ⟨rfl, rfl⟩ (X.alloc _ rfl _) (Fle.put X.am.fresh _) (.rng (Fz.put_self _ _ _) ⟨_, _, _, rfl⟩))
theorem C2.range {a b : Int} : C2 C σ (.type "range") (.int a) (.int b) (Just σ (.rng a b)) := fun K F s v1 v2 Q E X r1 r2 hQ => by
  obtain ⟨t, rfl⟩ := r1.int_inv
  obtain ⟨u, rfl⟩ := r2.int_inv
  exact call_range_2 (hQ _ _ _ _ _ ⟨rfl, rfl⟩ (X.alloc _ rfl _) (Fle.put X.am.fresh _) (.rng (Fz.put_self _ _ _) ⟨_, _, _, rfl⟩))
theorem items_eq {A : Around} {s : Shared} {vs : List Value} {ns : List Int} {x : Int} {t : Tok} (h : IntsAre vs ns) : ∀ y, y ∈ vs.toArray → SeqAt.EqAt A s y (.int x t) (match y with | .int a _ => a == x | _ => false) := by
  intro y hy
  have hy' : y ∈ vs := by simpa using hy
  have : ∃ a u, y = .int a u := by
    clear hy
    induction h with
    | nil => cases hy'
    | cons n t h ih =>
      rcases List.mem_cons.mp hy' with rfl | hy'
      · exact ⟨_, _, rfl⟩
      · exact ih hy'
  obtain ⟨a, u, rfl⟩ := this
  exact SeqAt.EqAt.int_int a u x t
theorem any_ints {vs : List Value} {ns : List Int} {x : Int} (h : IntsAre vs ns) : (vs.toArray.any fun y => match y with | .int a _ => a == x | _ => false) = decide (x ∈ ns) := by
  rw [List.any_toArray]
  induction h with
  | nil => rfl
  | cons n t h ih =>
    rw [List.any_cons, ih]
    by_cases e : n = x
    · subst e; simp
    · have : ¬ x = n := fun q => e q.symm
      simp [e, this]
theorem Cm.in {d : D} {ns : List Int} {x : Int} (hi : Items C σ d (zs ns)) : CmpSem C σ .In (.int x) d (decide (x ∈ ns)) := fun K F s v1 v2 Q E X r1 r2 hQ => by
  obtain ⟨t, rfl⟩ := r1.int_inv
  obtain ⟨a, vs, n, rfl, h1, h2, h3⟩ := hi.at X r2
  refine SeqAt.in_listAt _ (IsL.isList h1) (items_eq h2.ints) ?_
  rw [any_ints h2.ints]
  exact hQ F _ _ X (Fle.refl _) (.bool _)
theorem Cm.notIn {d : D} {ns : List Int} {x : Int} (hi : Items C σ d (zs ns)) : CmpSem C σ .NotIn (.int x) d (!decide (x ∈ ns)) := fun K F s v1 v2 Q E X r1 r2 hQ => by
  obtain ⟨t, rfl⟩ := r1.int_inv
  obtain ⟨a, vs, n, rfl, h1, h2, h3⟩ := hi.at X r2
  refine SeqAt.notIn_listAt _ (IsL.isList h1) (items_eq h2.ints) ?_
  rw [any_ints h2.ints]
  exact hQ F _ _ X (Fle.refl _) (.bool _)
end
end Mine
end

section
set_option Elab.async false
set_option linter.unusedVariables false
set_option linter.unusedSimpArgs false
namespace Mine
open PySem PySem.W PyProof.Rows PySem.Calls

mutual
inductive Vw (C : Cx) (σ : St) : D → PyData → Prop
  | bool (b : Bool) : Vw C σ (.bool b) (.bool b)
  | int (i : Int) : Vw C σ (.int i) (.int i)
  | list {ds : List D} {xs : List PyData} : VwL C σ ds xs → Vw C σ (.list ds) (.list xs)
  | tup {ds : List D} {xs : List PyData} : VwL C σ ds xs → Vw C σ (.tup ds) (.tuple xs)
  | mu {a : Addr} {ds : List D} {xs : List PyData} : ((a, MO.list ds) ∈ σ.mu ∨ (a, MO.list ds) ∈ C.ro) → VwL C σ ds xs → Vw C σ (.ref a) (.list xs)
inductive VwL (C : Cx) (σ : St) : List D → List PyData → Prop
  | nil : VwL C σ [] []
  | cons {d : D} {ds : List D} {x : PyData} {xs : List PyData} : Vw C σ d x → VwL C σ ds xs → VwL C σ (d :: ds) (x :: xs)
end

mutual
theorem Vw.reads {C : Cx} {σ : St} {K F : Fz} {s : Shared} (X : Mo C K σ F s) : ∀ {d : D} {x : PyData} {v : Value}, Vw C σ d x → Rep F v d → (∃ as, Reads s.heap v x as) ∧ x.canLay0 = true
  | _, _, _, .bool b, h => by cases h.bool_inv; exact ⟨⟨[], .bool b⟩, rfl⟩
  | _, _, _, .int i, h => by obtain ⟨t, rfl⟩ := h.int_inv; exact ⟨⟨[], .int i t⟩, rfl⟩
  | _, _, _, .list hv, h => by
    obtain ⟨a, o, vs, rfl, h1, ⟨h2, n, rfl⟩, h3⟩ := h.list_inv
    obtain ⟨⟨as, r⟩, hc⟩ := VwL.reads X hv h3
    exact ⟨⟨_, .list (X.am.frz _ _ h1) rfl rfl r⟩, by simpa [PyData.canLay0] using hc⟩
  | _, _, _, .tup hv, h => by
    obtain ⟨a, o, vs, rfl, h1, ⟨h2, n, rfl⟩, h3⟩ := h.tup_inv
    obtain ⟨⟨as, r⟩, hc⟩ := VwL.reads X hv h3
    exact ⟨⟨_, .tuple (X.am.frz _ _ h1) rfl rfl r⟩, by simpa [PyData.canLay0] using hc⟩
  | _, _, _, @Vw.mu _ _ a ds xs hm hv, h => by
    cases h.ref_inv
    have : ∃ vs n, IsL s.heap a vs.toArray n ∧ RepL F vs ds ∧ vs.length ≤ 100000 := by
      rcases hm with hm | hm
      · exact (X.am.mus _ hm).1.isL
      · exact (X.ro _ hm).1.isL
    obtain ⟨vs, n, h1, h2, h3⟩ := this
    obtain ⟨⟨as, r⟩, hc⟩ := VwL.reads X hv h2
    exact ⟨⟨_, .list h1 rfl rfl r⟩, by simpa [PyData.canLay0] using hc⟩
theorem VwL.reads {C : Cx} {σ : St} {K F : Fz} {s : Shared} (X : Mo C K σ F s) : ∀ {ds : List D} {xs : List PyData} {vs : List Value}, VwL C σ ds xs → RepL F vs ds → (∃ as, ReadsAll s.heap vs xs as) ∧ PyData.canLayAll0 xs = true
  | _, _, _, .nil, h => by cases h; exact ⟨⟨[], .nil⟩, rfl⟩
  | _, _, _, .cons hv hvs, h => by
    cases h with
    | cons h t =>
      obtain ⟨⟨as, r⟩, c1⟩ := Vw.reads X hv h
      obtain ⟨⟨bs, q⟩, c2⟩ := VwL.reads X hvs t
      exact ⟨⟨_, .cons r q⟩, by simp [PyData.canLayAll0, c1, c2]⟩
end

structure Enc (α : Type) where
  dec : DecidableEq α
  py : α → PyData
  d : α → D
  dep : Nat
  eqv : ∀ a b (h : Decidable (a = b)), PyData.eqv (py a) (py b) = @decide (a = b) h
  depth : ∀ a, (py a).depth ≤ dep
noncomputable def encInt : Enc Int := ⟨inferInstance, .int, .int, 1, fun a b h => by
  by_cases e : a = b
  · subst e; simp [PyData.eqv]
  · simp [PyData.eqv, e], fun a => by simp [PyData.depth]⟩
theorem Enc.all {α : Type} (e : Enc α) : ∀ (l m : List α) (h : Decidable (l = m)), PyData.eqvAll (l.map e.py) (m.map e.py) = @decide (l = m) h
  | [], [], _ => by simp [PyData.eqvAll]
  | [], _ :: _, _ => by simp [PyData.eqvAll]
  | _ :: _, [], _ => by simp [PyData.eqvAll]
  | a :: l, b :: m, _ => by
    rw [List.map_cons, List.map_cons, PyData.eqvAll, e.eqv _ _ (e.dec a b), Enc.all e l m (@instDecidableEqList α e.dec l m)]
    by_cases h1 : a = b <;> by_cases h2 : l = m <;> simp [h1, h2]
theorem Enc.depthAll {α : Type} (e : Enc α) : ∀ l : List α, PyData.depthAll (l.map e.py) ≤ e.dep
  | [] => by simp [PyData.depthAll]
  | a :: l => by
    rw [List.map_cons]
    simp only [PyData.depthAll]
    exact Nat.max_le.mpr ⟨e.depth a, Enc.depthAll e l⟩
noncomputable def encList {α : Type} (e : Enc α) : Enc (List α) := ⟨@instDecidableEqList α e.dec, fun l => .list (l.map e.py), fun l => .list (l.map e.d), e.dep + 1, fun a b h => by rw [PyData.eqv]; exact e.all a b h, fun a => by simp only [PyData.depth]; have := e.depthAll a; lia⟩
section
variable {C : Cx} {σ : St} {Φ : Out → St → Prop}
noncomputable def Vs {α : Type} (e : Enc α) (C : Cx) (σ : St) (d : D) (a : α) : Prop := Vw C σ d (e.py a)
theorem Vs.int {i : Int} : Vs encInt C σ (.int i) i := Vw.int i
theorem VwL.map {α : Type} {e : Enc α} {f : α → D} (h : ∀ a, Vs e C σ (f a) a) : ∀ l : List α, VwL C σ (l.map f) (l.map e.py)
  | [] => .nil
  | a :: l => .cons (h a) (VwL.map h l)
theorem Vs.list {α : Type} {e : Enc α} {f : α → D} {l : List α} (h : ∀ a, Vs e C σ (f a) a) : Vs (encList e) C σ (.list (l.map f)) l := Vw.list (VwL.map h l)
theorem Vs.mu {α : Type} {e : Enc α} {f : α → D} {l : List α} {a : Addr} (hm : (a, MO.list (l.map f)) ∈ σ.mu ∨ (a, MO.list (l.map f)) ∈ C.ro) (h : ∀ a, Vs e C σ (f a) a) : Vs (encList e) C σ (.ref a) l := Vw.mu hm (VwL.map h l)
theorem Vs.nums {l : List Int} : Vs (encList encInt) C σ (.list (zs l)) l := Vs.list fun _ => .int
theorem Vs.muz {l : List Int} {a : Addr} (hm : (a, MO.list (zs l)) ∈ σ.mu ∨ (a, MO.list (zs l)) ∈ C.ro) : Vs (encList encInt) C σ (.ref a) l := Vs.mu hm fun _ => .int
theorem Vs.zss {l : List (List Int)} : Vs (encList (encList encInt)) C σ (.list (l.map fun r => .list (zs r))) l := Vs.list fun _ => .nums
theorem Cm.eqD {α : Type} {e : Enc α} {d1 d2 : D} {a b : α} (h1 : Vs e C σ d1 a) (h2 : Vs e C σ d2 b) (hd : e.dep ≤ 20) : CmpSem C σ .Eq d1 d2 (@decide (a = b) (e.dec a b)) := fun K F s v1 v2 Q E X r1 r2 hQ => by
  obtain ⟨⟨as, q1⟩, c1⟩ := h1.reads X r1
  obtain ⟨⟨bs, q2⟩, c2⟩ := h2.reads X r2
  have e1 := e.depth a
  have hu := X.ok.rm.un
  refine SeqAt.compareEq_reads q1 q2 c1 c2 (by have := Nat.min_le_left (e.py a).depth (e.py b).depth; lia) ?_
  rw [e.eqv]
  exact hQ F _ _ X (Fle.refl _) (.bool _)
theorem Cm.neD {α : Type} {e : Enc α} {d1 d2 : D} {a b : α} (h1 : Vs e C σ d1 a) (h2 : Vs e C σ d2 b) (hd : e.dep ≤ 20) : CmpSem C σ .NotEq d1 d2 (!@decide (a = b) (e.dec a b)) := fun K F s v1 v2 Q E X r1 r2 hQ => by
  obtain ⟨⟨as, q1⟩, c1⟩ := h1.reads X r1
  obtain ⟨⟨bs, q2⟩, c2⟩ := h2.reads X r2
  have e1 := e.depth a
  have hu := X.ok.rm.un
  refine SeqAt.compareNe_reads q1 q2 c1 c2 (by have := Nat.min_le_left (e.py a).depth (e.py b).depth; lia) ?_
  rw [e.eqv]
  exact hQ F _ _ X (Fle.refl _) (.bool _)

end
end Mine
end

section
set_option Elab.async false
set_option linter.unusedVariables false
set_option linter.unusedSimpArgs false
namespace Mine
open PySem PySem.W PyProof.Rows PySem.Calls

theorem Room.mono {A : Around} {n m : Nat} (h : Room A m) (hn : n ≤ m) : Room A n := ⟨h.hh, by have := h.dp; lia, by have := h.un; lia⟩
theorem Room.deeper {A : Around} {n : Nat} {env : Env} (h : Room A (n + 1)) : Room (A.deeper env) n := ⟨h.hh, by have := h.dp; show A.depth + 1 + 3 * n + 20 < _; lia, by have := h.un; show A.units + 3 + 40 * n + 200 < _; lia⟩
theorem Room.in1 {A : Around} {n : Nat} (h : Room A (n + 1)) : Room A.in1 n := ⟨h.hh, by have := h.dp; show A.depth + 3 * n + 20 < _; lia, by have := h.un; show A.units + 1 + 40 * n + 200 < _; lia⟩

noncomputable def FnF (F : Fz) (f : Addr) (fd : FuncData) : Prop := (∃ o, F f = some o ∧ o.data = .func fd) ∧ ∃ c o vs t, fd.code = .ref c ∧ F c = some o ∧ o.data = .fields vs ∧ vs[1]? = some (.str fd.qualname t)
theorem FnF.mono {F F' : Fz} {f : Addr} {fd : FuncData} (h : FnF F f fd) (g : Fle F F') : FnF F' f fd := by
  obtain ⟨⟨o, h1, h2⟩, c, o', vs, t, h3, h4, h5, h6⟩ := h
  exact ⟨⟨o, g _ _ h1, h2⟩, c, o', vs, t, h3, g _ _ h4, h5, h6⟩

structure CallSem (G : Gx) (n : Nat) (P : Pred) (f : Addr) (pas : Mu) (ds : List D) (R : D → Mu → Prop) : Prop where
  fn : ∀ K F, Fle G.hb.get? F → P K F → ∃ fd o, F f = some o ∧ o.data = .func fd
  sem : ∀ A K F s vs Q E, Room A n → P K F → Am G K pas F s → RepL F vs ds →
    (∀ F' v s' d mu, R d mu → Am G K mu F' s' → Fle F F' → Rep F' v d → Q v s') → wpAny G.M A (call (.ref f) vs) Q E s
theorem lookup_zip {F : Fz} : ∀ {ns : List Str} {vs : List Value} {ds : List D} {x : Str} {d : D}, RepL F vs ds → (ns.zip ds).lookup x = some d → ∃ v, (x, v) ∈ ns.zip vs ∧ Rep F v d
  | [], _, _, _, _, _, h => by cases h
  | n :: ns, _, _, x, d, .nil, h => by cases h
  | n :: ns, _, _, x, d, .cons (v := v) h t, e => by
    rw [List.zip_cons_cons, List.lookup_cons] at e
    cases hb : x == n with
    | true =>
      rw [hb] at e
      simp only [Option.some.injEq] at e
      subst e
      rw [beq_iff_eq.mp hb]
      exact ⟨v, .head _, h⟩
    | false =>
      rw [hb] at e
      obtain ⟨w, h1, h2⟩ := lookup_zip t e
      exact ⟨w, .tail _ h1, h2⟩
theorem lookup_of_mem {α : Type} : ∀ {l : List (Str × α)} {x : Str} {v : α}, (l.map (·.1)).Nodup → (x, v) ∈ l → l.lookup x = some v
  | (k, w) :: l, x, v, nd, h => by
    rw [List.map_cons, List.nodup_cons] at nd
    rw [List.lookup_cons]
    rcases List.mem_cons.mp h with e | h
    · cases e; simp
    · have : (x == k) = false := beq_eq_false_iff_ne.mpr fun e => nd.1 (List.mem_map.mpr ⟨(x, v), h, e⟩)
      rw [this]
      exact lookup_of_mem nd.2 h
theorem zip_keys {α : Type} : ∀ (ns : List Str) (vs : List α), ((ns.zip vs).map (·.1)).Sublist ns
  | [], _ => by simp
  | _ :: _, [] => by simp
  | n :: ns, v :: vs => by
    rw [List.zip_cons_cons, List.map_cons]
    exact (zip_keys ns vs).cons_cons n
theorem lookup_rev {ns : List Str} {vs : List Value} {x : Str} {v : Value} (nd : ns.Nodup) (h : (x, v) ∈ ns.zip vs) : (ns.zip vs).reverse.lookup x = some v := by
  refine lookup_of_mem ?_ (List.mem_reverse.mpr h)
  rw [List.map_reverse]
  exact (List.reverse_perm _).nodup_iff.mpr (nd.sublist (zip_keys ns vs))

section
variable {G : Gx} {n : Nat} {P : Pred} {f : Addr} {fd : FuncData} {body : List Stmt} {ns : List Str} {ds : List D} {pas : Mu} {R : D → Mu → Prop}

noncomputable def fnCx (G : Gx) (A : Around) (fd : FuncData) (f L : Addr) (n : Nat) (P : Pred) : Cx := { G := G, A := A.deeper (callEnv fd L f), env := callEnv fd L f, priv := [L], rm := n, ro := [], pre := P }
noncomputable def fnCxC (G : Gx) (A : Around) (fd : FuncData) (f L : Addr) (n : Nat) (P : Pred) : Cx := { G := G, A := A.deeper (callEnvC fd L f), env := callEnvC fd L f, priv := L :: (cellsFrom (L + 1) fd.scope.names []).map (·.2), rm := n, ro := [], pre := P }

noncomputable def Fin (R : D → Mu → Prop) (o : Out) (σ : St) : Prop := match o with | .ret d => R d σ.mu | .next => R .none σ.mu | _ => False

structure FnOk (G : Gx) (fd : FuncData) (body : List Stmt) (ns : List Str) (k : Nat) : Prop where
  body : fd.body = .stmts body
  bind : ∀ (s : Shared) (vs : List Value), (∀ a o, G.hb.get? a = some o → s.heap.get? a = some o) → vs.length = k → BindsTo s fd ⟨vs, []⟩ (ns.zip vs)
  nd : ns.Nodup
  kind : fd.scope.kind = .function
  co : fd.scope.isCoroutine = false
  gen : fd.scope.isGenerator = false
  gl : fd.globals = mainGlobals
  bu : fd.builtins = builtinsNs

theorem call_fn (hmon : P.Mon) (ok : FnOk G fd body ns ds.length) (hf : ∀ K F, Fle G.hb.get? F → P K F → FnF F f fd) (hcell : ∀ x ∈ fd.scope.names, x.2 ≠ .cell) (hloc : ∀ x ∈ ns, fd.scope.names.lookup x = some .local) (cv : List (Str × D))
    (hcv : ∀ K F, P K F → (∀ x ∈ fd.closure, ∃ o v, K x.2 = some o ∧ o.data = .cell v) ∧ ∀ x d, cv.lookup x = some d → ∃ c o v, fd.scope.names.lookup x = some .free ∧ fd.closure.lookup x = some c ∧ K c = some o ∧ o.data = .cell (some v) ∧ Rep F v d)
    (hpw : fd.closure.Pairwise fun x y => x.2 ≠ y.2) (hdis : ∀ x ∈ ns, cv.lookup x = none)
    (hb : ∀ A L, Room A (n + 1) → WP (fnCx G A fd f L n P) { vars := ns.zip ds ++ cv, mu := pas } body (Fin R)) : CallSem G (n + 1) P f pas ds R := by
  refine ⟨fun K F hbs hp => ?_, fun A K F s vs Q E hr hp X r hQ => ?_⟩
  · obtain ⟨⟨o, h1, h2⟩, _⟩ := hf K F hbs hp
    exact ⟨fd, o, h1, h2⟩
  · obtain ⟨⟨o, h1, h2⟩, c, oc, cvs, t, h3, h4, h5, h6⟩ := hf K F X.base hp
    have hl := r.length
    refine wpAny_call (codeAny_call_def (prog := G.prog) (w := G.w) (body := body) (binds := ns.zip vs) (by have := hr.dp; lia) (X.frz _ _ h1) h2 X.nl ⟨c, oc, cvs, t, h3, X.frz _ _ h4, h5, h6⟩ ok.body (ok.bind s vs (fun a o e => X.frz _ _ (X.base _ _ e)) hl) hcell
      (fun x hx => hloc _ (by obtain ⟨a, b⟩ := x; exact (List.of_mem_zip hx).1)) (fun h₀ hns hk => ?_) ok.co ok.gen ok.kind)
    have ns0 := hns
    have freshL : ∀ o, s.heap.get? s.heap.objs.size ≠ some o := fun o e => Nat.lt_irrefl _ (Heap.lt_size e)
    obtain ⟨hc1, hc2⟩ := hcv K F hp
    refine hb A s.heap.objs.size hr K F _ (fun f s' => match (Except.ok (Flow.ret (match f with | .ret v => v | _ => .none)) : Result) with | .ok (.ret v) => Q v s' | .ok _ => False | .error e => E e s') _ ?_ fun fl o F' s' σ' ho X' g hΦ => ?_
    · refine ⟨⟨ok.kind, ok.gl, ok.bu, hr.deeper, .head _, hpw, fun x hx e => ?_, hmon⟩, (X.grow (t := s.toks + (ns.zip vs).length) hk (Fle.refl _) (fun _ _ e => .inl e) fun a o e => hk _ _ (X.frz _ _ e)), fun a ha => ?_, fun x hx => ?_, ⟨_, ns0, fun x d e => ?_⟩, fun p hp ha => ?_, (fun p hp => nomatch hp), hp⟩
      · obtain ⟨o', v', q1, q2⟩ := hc1 x hx
        have e' : x.2 = s.heap.objs.size := e
        exact freshL _ (e' ▸ X.keep _ _ q1)
      · obtain rfl : a = s.heap.objs.size := by simpa [fnCx] using ha
        obtain ⟨oL, es, ep, eL, _⟩ := ns0
        exact ⟨X.fresh, X.freshK, oL, eL⟩
      · obtain ⟨o', v', q1, q2⟩ := hc1 x hx
        exact ⟨⟨v', o', hk _ _ (X.keep _ _ q1), q2⟩, .inr ⟨o', q1⟩⟩
      · have : ∀ {l r : List (Str × D)}, (l ++ r).lookup x = some d → l.lookup x = some d ∨ (l.lookup x = none ∧ r.lookup x = some d) := fun {l r} h => by
          induction l with
          | nil => exact .inr ⟨rfl, h⟩
          | cons a l ih =>
            rw [List.cons_append, List.lookup_cons] at h
            rw [List.lookup_cons]
            cases hb : x == a.1 with
            | true => rw [hb] at h; exact .inl h
            | false => rw [hb] at h; exact ih h
        rcases this e with e | ⟨_, e⟩
        · obtain ⟨v, q1, q2⟩ := lookup_zip r e
          refine ⟨v, ?_, q2⟩
          unfold VarAt
          rw [show (fnCx G A fd f s.heap.objs.size n P).env.kindOf x = some .local from hloc x (List.of_mem_zip q1).1]
          exact lookup_rev ok.nd q1
        · obtain ⟨c', o', v, q1, q2, q3, q4, q5⟩ := hc2 x d e
          refine ⟨v, ?_, q5⟩
          unfold VarAt
          rw [show (fnCx G A fd f s.heap.objs.size n P).env.kindOf x = some .free from q1]
          exact ⟨c', q2, o', hk _ _ (X.keep _ _ q3), q4⟩
      · obtain ⟨o', ho'⟩ := (X.mus p hp).1.some
        have : p.1 = s.heap.objs.size := by simpa [fnCx] using ha
        rw [this] at ho'
        exact freshL _ ho'
    · cases o with
      | next => cases fl <;> first | exact ho.elim | exact hQ F' .none s' .none σ'.mu hΦ X'.am g .none
      | brk => exact hΦ.elim
      | cont => exact hΦ.elim
      | ret d =>
        cases fl <;> first | exact ho.elim | skip
        exact hQ F' _ s' d σ'.mu hΦ X'.am g ho

theorem bindL_at {k : Str → Option NameKind} : ∀ {binds : List (Str × Value)} {m : Str → Option Value} {x : Str} {v : Value}, (binds.map (·.1)).Nodup → (x, v) ∈ binds → k x = some .local → bindL k binds m x = some v
  | (n, w) :: r, m, x, v, nd, h, hk => by
    rw [List.map_cons, List.nodup_cons] at nd
    have keep : ∀ {r : List (Str × Value)} {m : Str → Option Value}, x ∉ r.map (·.1) → bindL k r m x = m x := fun {r} => by
      induction r with
      | nil => intro m _; rfl
      | cons a r ih =>
        obtain ⟨n', w'⟩ := a
        intro m hx
        rw [List.map_cons, List.mem_cons, not_or] at hx
        unfold bindL
        rw [ih hx.2]
        split
        · exact if_neg hx.1
        · rfl
    unfold bindL
    rcases List.mem_cons.mp h with e | h
    · cases e
      rw [keep nd.1, if_pos hk]
      simp
    · exact bindL_at nd.2 h hk
theorem bindC_at {k : Str → Option NameKind} : ∀ {binds : List (Str × Value)} {m : Str → Option Value} {x : Str} {v : Value}, (binds.map (·.1)).Nodup → (x, v) ∈ binds → k x ≠ some .local → bindC k binds m x = some v
  | (n, w) :: r, m, x, v, nd, h, hk => by
    rw [List.map_cons, List.nodup_cons] at nd
    have keep : ∀ {r : List (Str × Value)} {m : Str → Option Value}, x ∉ r.map (·.1) → bindC k r m x = m x := fun {r} => by
      induction r with
      | nil => intro m _; rfl
      | cons a r ih =>
        obtain ⟨n', w'⟩ := a
        intro m hx
        rw [List.map_cons, List.mem_cons, not_or] at hx
        unfold bindC
        rw [ih hx.2]
        split
        · rfl
        · exact if_neg hx.1
    unfold bindC
    rcases List.mem_cons.mp h with e | h
    · cases e
      rw [keep nd.1, if_neg hk]
      simp
    · exact bindC_at nd.2 h hk

theorem cellsFrom_keys : ∀ (names : List (Str × NameKind)) (n m : Nat) (acc acc' : List (Str × Addr)), acc.map (·.1) = acc'.map (·.1) → (cellsFrom n names acc).map (·.1) = (cellsFrom m names acc').map (·.1)
  | [], _, _, _, _, h => h
  | (name, kind) :: r, n, m, acc, acc', h => by
    unfold cellsFrom
    split
    · exact cellsFrom_keys r _ _ _ _ (by simp [h])
    · exact cellsFrom_keys r _ _ _ _ h
theorem call_fnC_at {A : Around} (hmon : P.Mon) (ok : FnOk G fd body ns ds.length) (bind : ∀ vs : List Value, vs.length = ds.length → bindArgs fd ⟨vs, []⟩ = pure (ns.zip vs)) (hf : ∀ K F, Fle G.hb.get? F → P K F → FnF F f fd) (hclo : fd.closure = []) (hnd : ((cellsFrom 0 fd.scope.names []).map (·.1)).Nodup) (hkd : ∀ x ∈ ns, fd.scope.names.lookup x = some .local ∨ fd.scope.names.lookup x = some .cell)
    (hb : ∀ L, WP (fnCxC G A fd f L n P) { vars := ns.zip ds, mu := pas } body (Fin R)) {K F : Fz} {s : Shared} {vs : List Value} {Q : Value → Shared → Prop} {E : Value → Shared → Prop} (hr : Room A (n + 1)) (hp : P K F) (X : Am G K pas F s) (r : RepL F vs ds)
    (hQ : ∀ F' v s' d mu, R d mu → Am G K mu F' s' → Fle F F' → Rep F' v d → Q v s') : wpAny G.M A (call (.ref f) vs) Q E s := by
  obtain ⟨⟨o, h1, h2⟩, c, oc, cvs, t, h3, h4, h5, h6⟩ := hf K F X.base hp
  have hl := r.length
  have hkind : ∀ n, ∀ x ∈ ns.zip vs, fd.scope.names.lookup x.1 = some .local ∨ (fd.scope.names.lookup x.1 = some .cell ∧ ((cellsFrom n fd.scope.names []).lookup x.1).isSome = true) := fun n x hx => by
    obtain ⟨a, b⟩ := x
    rcases hkd a (List.of_mem_zip hx).1 with h | h
    · exact .inl h
    · obtain ⟨c, q, _⟩ := cellsFrom_has fd.scope.names n [] a (mem_of_lookup h)
      exact .inr ⟨h, by rw [q]; rfl⟩
  have ndz : ((ns.zip vs).map (·.1)).Nodup := ok.nd.sublist (zip_keys ns vs)
  refine wpAny_call (codeAny_call_cells (prog := G.prog) (w := G.w) (body := body) (binds := ns.zip vs) (by have := hr.dp; lia) (X.frz _ _ h1) h2 X.nl ⟨c, oc, cvs, t, h3, X.frz _ _ h4, h5, h6⟩ ok.body (bind vs hl) hclo (hkind _)
    (fun s1 hin => ?_) ok.co ok.gen ok.kind)
  obtain ⟨h', tk, rfl, hk⟩ := hin.done
  have ns0 : h'.Ns s.heap.objs.size _ := hin.toInCall.ns
  have freshL : ∀ a o, s.heap.objs.size ≤ a → s.heap.get? a ≠ some o := fun a o ha e => Nat.lt_irrefl _ (Nat.lt_of_lt_of_le (Heap.lt_size e) ha)
  have cellAt : ∀ y ∈ cellsFrom (s.heap.objs.size + 1) fd.scope.names [], s.heap.objs.size < y.2 ∧ ∃ v, h'.IsCell y.2 v := fun y hy => by
    refine ⟨hin.above y.1 y.2 hy, ?_⟩
    have q := lookup_of_mem (by rw [cellsFrom_keys _ _ 0 [] []]; exact hnd; rfl) hy
    exact ⟨_, hin.cell y.1 y.2 q⟩
  refine hb s.heap.objs.size K F _ (fun f s' => match (Except.ok (Flow.ret (match f with | .ret v => v | _ => .none)) : Result) with | .ok (.ret v) => Q v s' | .ok _ => False | .error e => E e s') _ ?_ fun fl o F' s' σ' ho X' g hΦ => ?_
  · refine ⟨⟨ok.kind, ok.gl, ok.bu, hr.deeper, .head _, hin.apart, fun x hx e => ?_, hmon⟩, (X.grow (t := tk) hk (Fle.refl _) (fun _ _ e => .inl e) fun a o e => hk _ _ (X.frz _ _ e)), fun a ha => ?_, fun x hx => ?_, ⟨_, ns0, fun x d e => ?_⟩, fun p hp ha => ?_, (fun p hp => nomatch hp), hp⟩
    · exact Nat.lt_irrefl _ (e ▸ (cellAt x hx).1)
    · have hfr : s.heap.objs.size ≤ a ∧ ∃ o, h'.get? a = some o := by
        rcases List.mem_cons.mp ha with rfl | ha
        · obtain ⟨oL, es, ep, eL, _⟩ := ns0
          exact ⟨Nat.le_refl _, oL, eL⟩
        · obtain ⟨y, hy, rfl⟩ := List.mem_map.mp ha
          obtain ⟨q1, v, o, q2, q3⟩ := cellAt y hy
          exact ⟨Nat.le_of_lt q1, o, q2⟩
      refine ⟨?_, ?_, hfr.2⟩
      · cases e : F a with
        | none => rfl
        | some o => exact absurd (X.frz _ _ e) (freshL _ _ hfr.1)
      · cases e : K a with
        | none => rfl
        | some o => exact absurd (X.keep _ _ e) (freshL _ _ hfr.1)
    · exact ⟨(cellAt x hx).2, .inl (.tail _ (List.mem_map_of_mem hx))⟩
    · obtain ⟨v, q1, q2⟩ := lookup_zip r e
      refine ⟨v, ?_, q2⟩
      unfold VarAt
      rcases hkd x (List.of_mem_zip q1).1 with h | h
      · rw [show (fnCxC G A fd f s.heap.objs.size n P).env.kindOf x = some .local from h]
        exact bindL_at ndz q1 h
      · rw [show (fnCxC G A fd f s.heap.objs.size n P).env.kindOf x = some .cell from h]
        obtain ⟨c, q, _⟩ := cellsFrom_has fd.scope.names (s.heap.objs.size + 1) [] x (mem_of_lookup h)
        refine ⟨c, q, ?_⟩
        have := hin.cell x c q
        rw [bindC_at ndz q1 (by rw [show (callEnvC fd s.heap.objs.size f).kindOf x = some .cell from h]; intro e; cases e)] at this
        exact this
    · obtain ⟨o', ho'⟩ := (X.mus p hp).1.some
      have : s.heap.objs.size ≤ p.1 := by
        rcases List.mem_cons.mp ha with e | ha
        · exact Nat.le_of_eq e.symm
        · obtain ⟨y, hy, e⟩ := List.mem_map.mp ha
          exact e ▸ Nat.le_of_lt (cellAt y hy).1
      exact freshL _ _ this ho'
  · cases o with
    | next => cases fl <;> first | exact ho.elim | exact hQ F' .none s' .none σ'.mu hΦ X'.am g .none
    | brk => exact hΦ.elim
    | cont => exact hΦ.elim
    | ret d =>
      cases fl <;> first | exact ho.elim | skip
      exact hQ F' _ s' d σ'.mu hΦ X'.am g ho
theorem call_fnC (hmon : P.Mon) (ok : FnOk G fd body ns ds.length) (bind : ∀ vs : List Value, vs.length = ds.length → bindArgs fd ⟨vs, []⟩ = pure (ns.zip vs)) (hf : ∀ K F, Fle G.hb.get? F → P K F → FnF F f fd) (hclo : fd.closure = []) (hnd : ((cellsFrom 0 fd.scope.names []).map (·.1)).Nodup) (hkd : ∀ x ∈ ns, fd.scope.names.lookup x = some .local ∨ fd.scope.names.lookup x = some .cell)
    (hb : ∀ A L, Room A (n + 1) → WP (fnCxC G A fd f L n P) { vars := ns.zip ds, mu := pas } body (Fin R)) : CallSem G (n + 1) P f pas ds R := by
  refine ⟨fun K F hbs hp => ?_, fun A K F s vs Q E hr hp X r hQ => ?_⟩
  · obtain ⟨⟨o, h1, h2⟩, _⟩ := hf K F hbs hp
    exact ⟨fd, o, h1, h2⟩
  · exact call_fnC_at hmon ok bind hf hclo hnd hkd (fun L => hb A L hr) hr hp X r hQ
end
end Mine
end

section
set_option Elab.async false
set_option linter.unusedVariables false
set_option linter.unusedSimpArgs false
namespace Mine
open PySem PySem.W PyProof.Rows PySem.Calls

section
variable {C : Cx} {σ : St} {Φ : Out → St → Prop}
theorem EvX.callS {x : Str} {p pos : Pos} {e : Expr} {es : List Expr} {f : Addr} {ds : List D} {pas oth : Mu} {n : Nat} {P : Pred} {R : D → Mu → Prop} (hf : Ev C σ (.Name x p) (.ref f)) (he : EvL C σ (e :: es) ds) (hσ : σ.mu.Perm (pas ++ oth)) (hc : CallSem C.G n P f pas ds R) (hn : n ≤ C.rm)
    (hP : ∀ K F s, Mo C K (σ.setMu (pas ++ oth)) F s → P (full F s.heap (pas.map (·.1))) F) (hs : starEach (e :: es) C.env = (false, eval e C.env) :: starEach es C.env := by rfl) :
    EvX C σ (.Call (.Name x p) (e :: es) [] pos) (fun d mu => ∃ mu', R d mu' ∧ mu = mu' ++ oth) := fun K F s Q E X hQ => by
  refine wpAny_Call_NameR (hf K F s _ E X fun F1 v s1 X1 g1 r1 => ?_)
  cases r1.ref_inv
  have X1p := X1.perm hσ.symm
  obtain ⟨fd, o, ho, hd⟩ := hc.fn _ F1 X1.am.base (hP K F1 s1 X1p)
  have hev := he pos K F1 s1
  rw [hs] at hev ⊢
  refine callWith_function (o := o) (fd := fd) (Calls.evalArgs_plain (hev _ E X1 fun F2 vs s2 X2 g2 r2 => ?_))
  have X2p := X2.perm hσ.symm
  refine ⟨⟨X2.am.frz _ _ (g2 _ _ ho), hd⟩, ?_⟩
  refine hc.sem C.A _ F2 s2 _ Q E (X.ok.rm.mono hn) (hP K F2 s2 X2p) (X2p.am.leave rfl) r2 fun F' v' s' d mu hR A' g' r' => ?_
  have B := X2p.back (pas := pas) (oth := oth) rfl A' g'
  exact hQ F' v' s' d _ ⟨mu, hR, rfl⟩ B ((g1.trans g2).trans g') r'
theorem EvX.callP {x : Str} {p pos : Pos} {e : Expr} {es : List Expr} {f : Addr} {ds : List D} {n : Nat} {P : Pred} {R : D → Mu → Prop} (hf : Ev C σ (.Name x p) (.ref f)) (he : EvL C σ (e :: es) ds) (hc : CallSem C.G n P f [] ds R) (hn : n ≤ C.rm)
    (hP : ∀ K F s, Mo C K σ F s → P (full F s.heap []) F) (hs : starEach (e :: es) C.env = (false, eval e C.env) :: starEach es C.env := by rfl) :
    EvX C σ (.Call (.Name x p) (e :: es) [] pos) (fun d mu => ∃ mu', R d mu' ∧ mu = mu' ++ σ.mu) :=
  EvX.callS (pas := []) (oth := σ.mu) hf he (List.Perm.refl _) hc hn (fun K F s X => hP K F s X) hs
noncomputable def Pure (d : D) (d' : D) (mu : Mu) : Prop := d' = d ∧ mu = []
theorem Ev.call {x : Str} {p pos : Pos} {e : Expr} {es : List Expr} {f : Addr} {ds : List D} {n : Nat} {P : Pred} {d : D} (hf : Ev C σ (.Name x p) (.ref f)) (he : EvL C σ (e :: es) ds) (hc : CallSem C.G n P f [] ds (Pure d)) (hn : n ≤ C.rm)
    (hP : ∀ K F s, Mo C K σ F s → P (full F s.heap []) F) (hs : starEach (e :: es) C.env = (false, eval e C.env) :: starEach es C.env := by rfl) : Ev C σ (.Call (.Name x p) (e :: es) [] pos) d :=
  Ev.of_just (EvX.mono (EvX.callP hf he hc hn hP hs) fun d' mu ⟨mu', ⟨h1, h2⟩, h3⟩ => ⟨h1, by rw [h3, h2]; rfl⟩)

theorem WP.forIt {target : Expr} {y : Str} {yp : Pos} {body orelse ss : List Stmt} {pos : Pos} {ds : List D} {it : Addr} {PO : Nat → Obj → Prop} (I : Nat → St → Prop)
    (hit : ∀ σ k, I k σ → σ.vars.lookup y = some (.ref it)) (h0 : I 0 σ) (hmu : ∀ σ k, I k σ → σ.mu = []) (τ : D → St → St) (hτ : ∀ d σ m, τ d (σ.setMu m) = (τ d σ).setMu m) (hτm : ∀ d σ, (τ d σ).mu = σ.mu) (hasg : ∀ d σ, Asg C σ target d (τ d σ))
    (turn : ∀ k d σ, ds[k]? = some d → I k σ → WP C (τ d σ) body fun o σ' => match o with | .next => I (k + 1) σ' | _ => False)
    (done : ∀ σ, I ds.length σ → WP C σ orelse fun o σ' => match o with | .next => WP C σ' ss Φ | o => Φ o σ')
    (hs : ∀ x, foldedSetIterable (.Name y yp) C.env x = pure x := by intro _; rfl) (ht : ∀ it v, letOwnedTupleGo target it v = pure () := by intro _ _; rfl) (hd : (y == ("__debug__" : Str)) = false := by decide) (hd2 : (y == ("__classdict__" : Str)) = false := by decide)
    {K F : Fz} {s : Shared} {Q : Flow → Shared → Prop} {E : Value → Shared → Prop} (hX : Mo C K (σ.setMu [(it, .obj (PO 0))]) F s) (IT : ∀ F', Fle F F' → IterOk C.G C.A K F' it ds PO)
    (hQ : ∀ f o F' s' σ', OutIs F' f o → Mo C K σ' F' s' → Fle F F' → Φ o σ' → Q f s') : wpAny C.G.M C.A (execs (.For target (.Name y yp) body orelse pos :: ss) C.env) Q E s := by
  refine wpAny_execs_cons (wpAny_For ((Ev.name (p := yp) (σ := σ.setMu [(it, .obj (PO 0))]) (hit σ 0 h0) hd hd2) K F s _ _ hX fun F1 v s1 X1 g1 r1 => ?_) hs)
  cases r1.ref_inv
  have hit1 : ∃ o, s1.heap.get? it = some o ∧ PO 0 o := (X1.am.mus (it, .obj (PO 0)) (.head _)).1
  refine (IT F1 g1).self 0 s1 _ _ hit1 ?_
  obtain ⟨c1, c2⟩ := X1.apartMu (p := (it, .obj (PO 0))) (.head _)
  refine codeAny_forLoop (prog := C.G.prog) (w := C.G.w) (fun n s' => ∃ k σ' F', n + k = ds.length ∧ I k σ' ∧ Mo C K (σ'.setMu [(it, .obj (PO k))]) F' s' ∧ Fle F1 F') ?_ ds.length ⟨0, σ, F1, by simp, h0, X1, Fle.refl _⟩ (ht _)
  rintro n s3 ⟨k, σ3, F3, hn, hI, X3, g3⟩
  have hit3 : ∃ o, s3.heap.get? it = some o ∧ PO k o := (X3.am.mus (it, .obj (PO k)) (.head _)).1
  have IT1 := IT F1 g1
  have hm3 := hmu σ3 k hI
  cases n with
  | zero =>
    have hk : k = ds.length := by lia
    subst hk
    refine IT1.stop F3 s3 _ _ g3 X3.am.frz X3.am.keep hit3 fun h' t hs' => ?_
    have X4 := X3.dropExt (mu := []) (t := t) rfl hs'
    have X4' : Mo C K σ3 F3 { s3 with heap := h', toks := t } := by
      have e : (σ3.setMu [(it, MO.obj (PO ds.length))]).setMu [] = σ3 := by rw [← hm3]; rfl
      rw [e] at X4; exact X4
    refine done σ3 hI K F3 _ _ _ X4' fun f o F5 s5 σ5 ho X5 g5 hΦ => ?_
    cases o with
    | next =>
      cases f <;> first | exact ho.elim | skip
      exact hΦ K F5 s5 _ _ X5 fun f o F6 s6 σ6 ho6 X6 g6 h6 => hQ f o F6 s6 σ6 ho6 X6 (((g1.trans g3).trans g5).trans g6) h6
    | brk => cases f <;> first | exact ho.elim | exact hQ _ .brk F5 s5 σ5 ho X5 ((g1.trans g3).trans g5) hΦ
    | cont => cases f <;> first | exact ho.elim | exact hQ _ .cont F5 s5 σ5 ho X5 ((g1.trans g3).trans g5) hΦ
    | ret d => cases f <;> first | exact ho.elim | exact hQ _ (.ret d) F5 s5 σ5 ho X5 ((g1.trans g3).trans g5) hΦ
  | succ n =>
    have hk : k < ds.length := by lia
    refine IT1.item k ds[k] F3 s3 _ _ g3 X3.am.frz X3.am.keep (List.getElem?_eq_getElem hk) hit3 fun h' v t hs' hit' hr => ?_
    have X4 := X3.turn (pre := []) (post := []) (mo' := .obj (PO (k + 1))) (t := t) rfl hs' hit'
    refine hasg ds[k] _ K F3 _ v _ _ X4 hr fun s5 X5 => ?_
    rw [hτ] at X5
    obtain ⟨oi, hoi, ⟨oi', hoi', hPi⟩, hKi, X6⟩ := X5.hide (a := it) (mo := .obj (PO (k + 1))) (mu := []) rfl
    rw [hoi] at hoi'; cases hoi'
    rw [show ∀ m, ((τ ds[k] (σ3.setMu [(it, MO.obj (PO k))])).setMu m).setMu [] = τ ds[k] σ3 from fun m => by
      rw [hτ]; show (τ ds[k] σ3).setMu [] = _; rw [← hm3, ← hτm ds[k] σ3]; rfl] at X6
    refine turn k ds[k] σ3 (List.getElem?_eq_getElem hk) hI (K.put it oi) F3 s5 _ _ X6 fun f o F7 s7 σ7 ho X7 g7 hΦ => ?_
    have hi7 : s7.heap.get? it = some oi := X7.am.keep _ _ (Fz.put_self _ _ _)
    have X8 := X7.show hKi (mo := .obj (PO (k + 1))) ⟨oi, hi7, hPi⟩ c1 c2 (hX.ok.mon _ _ _ _ X5.pre (Fle.refl _) g7)
    cases o with
    | next =>
      cases f <;> first | exact ho.elim | skip
      have hm7 := hmu σ7 (k + 1) hΦ
      rw [hm7] at X8
      exact ⟨n, Nat.lt_succ_self n, k + 1, σ7, F7, by lia, hΦ, X8, g3.trans g7⟩
    | brk => exact hΦ.elim
    | cont => exact hΦ.elim
    | ret d => exact hΦ.elim

theorem call_iter {K F : Fz} {s : Shared} {v : Value} {ds : List D} {Q : Value → Shared → Prop} {E : Value → Shared → Prop} {G : Gx} {A : Around} (hh : A.handled = none) (S : Src K F v ds)
    (hF : ∀ a o, F a = some o → s.heap.get? a = some o) (hK : ∀ a o, K a = some o → s.heap.get? a = some o)
    (h : ∀ o P, o.isFreed = false → P 0 o → (∀ F', Fle F F' → IterOk G A K F' s.heap.objs.size ds P) → Q (.ref s.heap.objs.size) { s with heap := s.heap.push o }) : wpAny (model G.prog G.w) A (call (.builtin "iter") [v]) Q E s := by
  refine call_function_entry (by decide +kernel) (by decide +kernel) kdk_entry_iter (kdk_args_iter _) ?_
  unfold Builtin.«iter»
  refine wpAny_bind (m := someArgs "iter" 1 2 _) (wpAny_of_eq (a := [v]) (by first | rfl | kernel_rfl!) ?_)
  show wpAny _ _ (pyIter v >>= _) _ _ _
  refine wpAny_bind (pyIter_src (G := G) hh S hF hK fun o P h1 h2 h3 => ?_)
  refine wpAny_pure ⟨_, rfl, h o P h1 h2 fun F' hF' => ?_⟩
  exact (h3 A hh).mono (Fle.refl _) hF'
end
end Mine
end

section
set_option Elab.async false
set_option linter.unusedVariables false
set_option linter.unusedSimpArgs false
namespace Mine
open PySem PySem.W PyProof.Rows PySem.Calls
section
variable {C : Cx} {σ : St}
theorem EvX.appendX {o elt : Expr} {apos pos : Pos} {a : Addr} {ds : List D} {R : D → Mu → Prop} {R' : Mu → Prop} (ho : Ev C σ o (.ref a)) (hm0 : (a, MO.list ds) ∈ σ.mu) (he : EvX C σ elt R) (hm : ∀ e mu1, R e mu1 → ∃ mu', MuSet mu1 a (.list ds) (.list (ds ++ [e])) mu' ∧ R' mu') (hl : ds.length < 100000)
    (hbase : attributeBase o "append" C.env (eval o C.env) = eval o C.env := by rfl)
    (hfew : ((backTo pos (starEach [elt] C.env)).all (fun x => !x.1) && (backToKw pos (keywordEach [] C.env)).all (fun x => x.1.isSome) && decide (([elt] : List Expr).length + ([] : List Keyword).length + (if ([] : List Keyword).isEmpty then 0 else 1) < 30)) = true := by rfl)
    (hline : (apos.endLine == pos.line) = true := by rfl) (htrees : backTo pos (starEach [elt] C.env) = [(false, eval elt C.env)] := by rfl) :
    EvX C σ (.Call (.Attribute o "append" apos) [elt] [] pos) (fun d mu => d = .none ∧ R' mu) := fun K F s Q E X hQ => by
  refine wpAny_Call_method (T := "list") (id := "list.append") hbase hfew hline PySem.F.plainAttrs_list PySem.F.slot_list_append PySem.F.type_list_append (ho K F s _ E X fun F1 v s1 X1 g1 r1 => ?_)
  cases r1.ref_inv
  obtain ⟨vs, n, h1, h2, h3⟩ := (X1.am.mus _ hm0).1.isL
  refine ⟨⟨_, h1, rfl⟩, fun b hb => by cases hb; exact ⟨_, h1, rfl⟩, ?_⟩
  rw [htrees]
  refine P.append_list (he K F1 s1 _ E X1 fun F2 w s2 e mu1 hR X2 g2 r2 => ?_)
  obtain ⟨mu', hm1, hm2⟩ := hm e mu1 hR
  obtain ⟨vs', n', k1, k2, k3⟩ := (X2.am.mus _ hm1.mem).1.isL
  have hl2 := k2.length
  refine ⟨vs'.toArray, n', by rw [List.size_toArray]; exact fitsSz (by lia), k1, ?_⟩
  exact hQ F2 _ _ _ _ ⟨rfl, hm2⟩ (X2.upd (t := s2.toks) hm1 k1 (ws := vs' ++ [w]) (by simp) (by simp; lia) (k2.append (.cons r2 .nil))) (g1.trans g2) .none
noncomputable abbrev EvD (C : Cx) (σ : St) (e : Expr) (d : D) (mu : Mu) : Prop := EvX C σ e fun d' mu' => d' = d ∧ mu' = mu
noncomputable def EvLX (C : Cx) (σ : St) (es : List Expr) (ds : List D) (mu : Mu) : Prop :=
  ∀ (pos : Pos) (K F : Fz) (s : Shared) (Q : List Value → Shared → Prop) (E : Value → Shared → Prop), Mo C K σ F s →
    (∀ F' vs s', Mo C K (σ.setMu mu) F' s' → Fle F F' → RepL F' vs ds → Q vs s') → wpAny C.G.M C.A (spliced (backTo pos (starEach es C.env))) Q E s
theorem EvLX.of {es : List Expr} {ds : List D} (h : EvL C σ es ds) : EvLX C σ es ds σ.mu := h
theorem EvLX.cons {e : Expr} {es : List Expr} {d : D} {ds : List D} {mu1 mu : Mu} (h : EvD C σ e d mu1) (hr : EvLX C (σ.setMu mu1) es ds mu) (he : starEach (e :: es) C.env = (false, eval e C.env) :: starEach es C.env := by rfl) : EvLX C σ (e :: es) (d :: ds) mu := fun pos K F s Q E X hQ =>
  wpAny_items_cons (h K F s _ E X fun F1 v s1 d' mu' ⟨e1, e2⟩ X1 g1 r1 => by
    subst e1 e2
    exact hr pos K F1 s1 _ E X1 fun F2 vs s2 X2 g2 r2 => hQ F2 _ s2 X2 (g1.trans g2) (.cons (r1.mono g2) r2)) he
noncomputable def EvTX (C : Cx) (σ : St) (e : Expr) (b : Bool) (mu : Mu) : Prop :=
  ∀ (K F : Fz) (s : Shared) (Q : Bool → Shared → Prop) (E : Value → Shared → Prop), Mo C K σ F s → (∀ F' s', Mo C K (σ.setMu mu) F' s' → Fle F F' → Q b s') → wpAny C.G.M C.A (isTrue e C.env (eval e C.env)) Q E s
theorem EvTX.cmp {l r : Expr} {op : CmpOp} {p : Pos} {d1 d2 : D} {b : Bool} {mu : Mu} (hl : EvD C σ l d1 mu) (hr : Ev C (σ.setMu mu) r d2) (ho : CmpSem C (σ.setMu mu) op d1 d2 b) (hm : behindInMarks op r = false := by with_unfolding_all rfl) :
    EvTX C σ (.Compare l [op] [r] p) b mu := fun K F s Q E X hQ =>
  wpAny_isTrue_Compare1 (hl K F s _ E X fun F1 v1 s1 d' mu' ⟨e1, e2⟩ X1 g1 r1 => by
    subst e1 e2
    exact hr K F1 s1 _ E X1 fun F2 v2 s2 X2 g2 r2 =>
      ho K F2 s2 v1 v2 _ E X2 (r1.mono g2) r2 fun F3 v s3 X3 g3 r3 => by
        cases r3.bool_inv
        exact wpAny_truthy_bool (hQ F3 s3 X3 ((g1.trans g2).trans g3))) hm
theorem EvTX.cast {e : Expr} {b b' : Bool} {mu : Mu} (h : EvTX C σ e b mu) (hb : b = b') : EvTX C σ e b' mu := hb ▸ h
theorem WP.ifsX {test : Expr} {b : Bool} {mu : Mu} {body orelse ss : List Stmt} {pos : Pos} {Φ : Out → St → Prop} (ht : EvTX C σ test b mu)
    (h1 : b = true → WP C (σ.setMu mu) body fun o σ' => match o with | .next => WP C σ' ss Φ | o => Φ o σ') (h2 : b = false → WP C (σ.setMu mu) orelse fun o σ' => match o with | .next => WP C σ' ss Φ | o => Φ o σ') : WP C σ (.If test body orelse pos :: ss) Φ :=
  WP.cons fun K F s Q E X hQ => wpAny_If (ht K F s _ E X fun F' s' X' g => by
    have fin : ∀ f o F2 s2 σ2, OutIs F2 f o → Mo C K σ2 F2 s2 → Fle F' F2 → (match o with | .next => WP C σ2 ss Φ | o => Φ o σ2) → Q f s2 := fun f o F2 s2 σ2 ho X2 g2 r => hQ f o F2 s2 σ2 ho X2 (g.trans g2) r
    cases b with
    | true => exact h1 rfl K F' s' Q E X' fin
    | false => exact h2 rfl K F' s' Q E X' fin)
end
end Mine
end

section
set_option Elab.async false
set_option linter.unusedVariables false
set_option linter.unusedSimpArgs false
set_option maxRecDepth 100000
namespace Mine
open PySem PySem.W PyProof.Rows PySem.Calls
noncomputable abbrev IsZipK (h : Heap) (z TI TO T : Addr) (b : Bool) : Prop := h.get? z = some { cls := .type "zip", dict := none, data := .fields #[rawInt T, .bool b, .bool false, .ref TI, .ref TO], slots := #[] }
section
variable {prog : Program} {w : World} {A : Around} {E : Value → Shared → Prop} {s : Shared}
theorem wpAny_loadIfAlive {M : Model} {a : Addr} {o : Obj} {Q : Option Obj → Shared → Prop} (ho : s.heap.get? a = some o) (h : Q (some o) s) : wpAny M A (loadIfAlive a) Q E s := fun Γ p _ => by
  unfold loadIfAlive
  rw [Sem.wp_loadIfAlive, ho]
  exact h
theorem zip_notFree {z TI TO T : Addr} {b : Bool} {oT : Obj} {Q : Bool → Shared → Prop} (hz : IsZipK s.heap z TI TO T b) (hT : s.heap.get? T = some oT)
    (hQ : ∀ h', IsZipK h' z TI TO T true → Heap.SameBut z s.heap h' → Q false { s with heap := h' }) : wpAny (model prog w) A (Builtin.SmallTypes.ownedTupleIsFree (.ref z)) Q E s := by
  unfold Builtin.SmallTypes.ownedTupleIsFree
  refine wpAny_bind (wpAny_field hz rfl (x := rawInt T) rfl ?_)
  show wpAny _ _ (loadIfAlive (T : Int).toNat >>= _) _ _ _
  rw [Int.toNat_natCast]
  refine wpAny_bind (wpAny_loadIfAlive hT ?_)
  simp only [Option.isNone_some, Bool.false_eq_true, if_false]
  refine wpAny_bind (wpAny_field hz rfl (x := .bool b) rfl ?_)
  cases b with
  | true =>
    rw [if_neg (by decide)]
    exact wpAny_pure (hQ _ hz (Heap.SameBut.refl ..))
  | false =>
    rw [if_pos (by decide)]
    exact wpAny_bind (wpAny_setField_rec hz (by simp) fun h' hz' hs' => wpAny_pure (hQ h' hz' hs'))
theorem zip_next_item2 {z TI TO i1 i2 l1 l2 T : Addr} {bb : Bool} {oT : Obj} {k1 k2 : Nat} {xs ys : Array Value} {x y : Value} {Q : Value → Shared → Prop} (D : ZipApart z TI TO i1 i2 l1 l2)
    (hz : IsZipK s.heap z TI TO T bb) (hT : s.heap.get? T = some oT) (hTI : IsPair s.heap TI (.ref i1) (.ref i2))
    (h1 : s.heap.IsListIter i1 l1 k1) (h2 : s.heap.IsListIter i2 l2 k2) (hl1 : s.heap.IsList l1 xs) (hl2 : s.heap.IsList l2 ys) (hx : xs[k1]? = some x) (hy : ys[k2]? = some y)
    (hQ : ∀ h', IsZipK h' z TI TO T true → h'.IsListIter i1 l1 (k1 + 1) → h'.IsListIter i2 l2 (k2 + 1) → IsPair h' s.heap.objs.size x y → h'.objs.size = s.heap.objs.size + 1 →
      (∀ c o, c ≠ z → c ≠ i1 → c ≠ i2 → s.heap.get? c = some o → h'.get? c = some o) → Q (.ref s.heap.objs.size) { s with heap := h' }) :
    wpAny (model prog w) A (Builtin.«zip.__next__» ⟨[.ref z], []⟩) (fun fin s' => ∃ v, fin = .done (.ret v) ∧ Q v s') E s := by
  show wpAny _ _ (field (.ref z) 2 >>= _) _ _ _
  refine wpAny_bind (wpAny_field hz rfl (x := .bool false) rfl ?_)
  show wpAny _ _ (field (.ref z) 3 >>= _) _ _ _
  refine wpAny_bind (wpAny_field hz rfl (x := .ref TI) rfl ?_)
  refine wpAny_bind (wpAny_seqItems hTI rfl ?_)
  show wpAny _ _ (Builtin.SmallTypes.ownedTupleIsFree (.ref z) >>= _) _ _ _
  refine wpAny_bind (zip_notFree hz hT fun h₁ hz₁ hs₁ => ?_)
  simp only [Bool.false_eq_true, if_false]
  show wpAny _ _ (forIn (#[Value.ref i1, Value.ref i2] : Array Value) _ _ >>= _) _ _ _
  rw [← Array.forIn_toList]
  simp only [List.forIn_cons, List.forIn_nil]
  refine wpAny_bind (wpAny_bind (wpAny_bind (wpAny_holding ?_)))
  show wpAny _ _ (Builtin.SmallTypes.nextOf (.ref i1) >>= _) _ _ _
  refine wpAny_bind (wpAny_nextOf_list_item (h1.extBut hs₁.extBut D.i1z) (hl1.extBut hs₁.extBut D.l1z) hx fun h₂ h1₂ hs₂ => wpAny_pure (wpAny_pure ?_))
  refine wpAny_bind (wpAny_bind (wpAny_holding ?_))
  show wpAny _ _ (Builtin.SmallTypes.nextOf (.ref i2) >>= _) _ _ _
  refine wpAny_bind (wpAny_nextOf_list_item ((h2.extBut hs₁.extBut D.i2z).extBut hs₂.extBut D.i12.symm) ((hl2.extBut hs₁.extBut D.l2z).extBut hs₂.extBut D.l2i1) hy fun h₄ h2₄ hs₄ => wpAny_pure (wpAny_pure (wpAny_pure ?_)))
  show wpAny _ _ (newTuple [x, y] >>= _) _ _ _
  refine wpAny_bind (wpAny_newTuple ?_)
  have hsz : h₄.objs.size = s.heap.objs.size := by rw [hs₄.1, hs₂.1, hs₁.1]
  have hk₄ : ∀ c o, c ≠ z → c ≠ i1 → c ≠ i2 → s.heap.get? c = some o → h₄.get? c = some o := fun c o c1 c3 c4 e =>
    hs₄.extBut _ _ c4 (hs₂.extBut _ _ c3 (hs₁.extBut _ _ c1 e))
  have up : ∀ c o, h₄.get? c = some o → (h₄.push { cls := .type "tuple", data := .seq ([x, y] : List Value).toArray }).get? c = some o := fun c o e => Heap.get?_push_of_some _ e
  refine wpAny_pure ⟨_, rfl, ?_⟩
  show Q (.ref h₄.objs.size) _
  rw [hsz]
  exact hQ _ (up _ _ (hs₄.extBut _ _ D.i2z.symm (hs₂.extBut _ _ D.i1z.symm hz₁))) ((h1₂.extBut hs₄.extBut D.i12).at fun o e => up _ o e) (h2₄.at fun o e => up _ o e) (hsz ▸ Heap.get?_push_size _ rfl) (by rw [Heap.size_push, hsz]) fun c o c1 c2 c3 e => up c o (hk₄ c o c1 c2 c3 e)
theorem zip_next_end2 {z TI TO i1 i2 l1 l2 T : Addr} {bb : Bool} {oT : Obj} {k1 : Nat} {xs : Array Value} {Q : PySem.Fin → Shared → Prop} (hh : A.handled = none) (D : ZipApart z TI TO i1 i2 l1 l2)
    (hz : IsZipK s.heap z TI TO T bb) (hT : s.heap.get? T = some oT) (hTI : IsPair s.heap TI (.ref i1) (.ref i2))
    (h1 : s.heap.IsListIter i1 l1 k1) (hl1 : s.heap.IsList l1 xs) (hend : xs[k1]? = none)
    (hE : ∀ h' e, (∀ c o, c ≠ z → c ≠ i1 → s.heap.get? c = some o → h'.get? c = some o) → (∃ o, h'.get? e = some o ∧ o.cls = .type "StopIteration") → E (.ref e) { s with heap := h' }) :
    wpAny (model prog w) A (Builtin.«zip.__next__» ⟨[.ref z], []⟩) Q E s := by
  show wpAny _ _ (field (.ref z) 2 >>= _) _ _ _
  refine wpAny_bind (wpAny_field hz rfl (x := .bool false) rfl ?_)
  show wpAny _ _ (field (.ref z) 3 >>= _) _ _ _
  refine wpAny_bind (wpAny_field hz rfl (x := .ref TI) rfl ?_)
  refine wpAny_bind (wpAny_seqItems hTI rfl ?_)
  show wpAny _ _ (Builtin.SmallTypes.ownedTupleIsFree (.ref z) >>= _) _ _ _
  refine wpAny_bind (zip_notFree hz hT fun h₁ hz₁ hs₁ => ?_)
  simp only [Bool.false_eq_true, if_false]
  show wpAny _ _ (forIn (#[Value.ref i1, Value.ref i2] : Array Value) _ _ >>= _) _ _ _
  rw [← Array.forIn_toList]
  simp only [List.forIn_cons, List.forIn_nil]
  refine wpAny_bind (wpAny_bind (wpAny_bind (wpAny_holding ?_)))
  show wpAny _ _ (Builtin.SmallTypes.nextOf (.ref i1) >>= _) _ _ _
  exact wpAny_bind (wpAny_nextOf_list_end hh (h1.extBut hs₁.extBut D.i1z) (hl1.extBut hs₁.extBut D.l1z) hend fun h₂ e hs₂ he => hE h₂ e (fun c o c1 c3 x => hs₂ _ _ c3 (hs₁.extBut _ _ c1 x)) he)
structure ZSt (S z TI TO i1 i2 l1 l2 : Addr) (xs ys : Array Value) (h0 h : Heap) (i : Nat) : Prop where
  zz : (IsZip h z TI TO .none ∧ ∃ a b, IsPair h TO a b) ∨ ∃ T b oT, IsZipK h z TI TO T b ∧ h.get? T = some oT ∧ h0.get? T = none
  ti : IsPair h TI (.ref i1) (.ref i2)
  a1 : h.IsListIter i1 l1 i
  a2 : h.IsListIter i2 l2 i
  b1 : h.IsList l1 xs
  b2 : h.IsList l2 ys
  keep : ∀ c o, c ≠ S → c ≠ z → c ≠ TO → c ≠ i1 → c ≠ i2 → h0.get? c = some o → h.get? c = some o
  size : h0.objs.size ≤ h.objs.size
noncomputable def ZAcc (xs ys : Array Value) (h0 h : Heap) (acc : Array Value) (i : Nat) : Prop := acc.size = i ∧ ∀ j, j < i → ∃ T x y, acc[j]? = some (.ref T) ∧ xs[j]? = some x ∧ ys[j]? = some y ∧ IsPair h T x y ∧ h0.get? T = none
variable {S z TI TO i1 i2 l1 l2 : Addr} {xs ys : Array Value} {h0 : Heap}
structure ZOut (S z TI TO i1 i2 : Addr) (h0 : Heap) : Prop where
  oS : ∃ o, h0.get? S = some o
  oz : ∃ o, h0.get? z = some o
  oTO : ∃ o, h0.get? TO = some o
  oi1 : ∃ o, h0.get? i1 = some o
  oi2 : ∃ o, h0.get? i2 = some o
  sz : S ≠ z
  sti : S ≠ TI
  sto : S ≠ TO
  s1 : S ≠ i1
  s2 : S ≠ i2
theorem new_ne {h0 : Heap} {T c : Addr} (h : h0.get? T = none) (hc : ∃ o, h0.get? c = some o) : T ≠ c := fun e => by
  obtain ⟨o, hc⟩ := hc
  rw [e, hc] at h; cases h
theorem ZSt.push {h h' : Heap} {i : Nat} (Z : ZSt S z TI TO i1 i2 l1 l2 xs ys h0 h i) (O : ZOut S z TI TO i1 i2 h0) (h1 : l1 ≠ S) (h2 : l2 ≠ S) (hs : Heap.SameBut S h h') : ZSt S z TI TO i1 i2 l1 l2 xs ys h0 h' i := by
  refine ⟨?_, hs.extBut _ _ O.sti.symm Z.ti, Z.a1.extBut hs.extBut O.s1.symm, Z.a2.extBut hs.extBut O.s2.symm, Z.b1.extBut hs.extBut h1, Z.b2.extBut hs.extBut h2, fun c o c1 c2 c3 c4 c5 e => hs.extBut _ _ c1 (Z.keep c o c1 c2 c3 c4 c5 e), by rw [hs.1]; exact Z.size⟩
  rcases Z.zz with ⟨q1, a, b, q2⟩ | ⟨T, b, oT, q1, q2, q3⟩
  · exact .inl ⟨hs.extBut _ _ O.sz.symm q1, a, b, hs.extBut _ _ O.sto.symm q2⟩
  · exact .inr ⟨T, b, oT, hs.extBut _ _ O.sz.symm q1, hs.extBut _ _ (new_ne q3 O.oS) q2, q3⟩
theorem zip_next_any {i : Nat} {x y : Value} {Q : Value → Shared → Prop} (D : ZipApart z TI TO i1 i2 l1 l2) (O : ZOut S z TI TO i1 i2 h0) (Z : ZSt S z TI TO i1 i2 l1 l2 xs ys h0 s.heap i) (hx : xs[i]? = some x) (hy : ys[i]? = some y)
    (hQ : ∀ h' T, ZSt S z TI TO i1 i2 l1 l2 xs ys h0 h' (i + 1) → IsPair h' T x y → h0.get? T = none → s.heap.get? T = none → (∀ c o, c ≠ z → c ≠ TO → c ≠ i1 → c ≠ i2 → s.heap.get? c = some o → h'.get? c = some o) → Q (.ref T) { s with heap := h' }) :
    wpAny (model prog w) A (Builtin.«zip.__next__» ⟨[.ref z], []⟩) (fun fin s' => ∃ v, fin = .done (.ret v) ∧ Q v s') E s := by
  have hn : s.heap.get? s.heap.objs.size = none := Heap.get?_none_of_le (Nat.le_refl _)
  have hn0 : h0.get? s.heap.objs.size = none := Heap.get?_none_of_le Z.size
  rcases Z.zz with ⟨q1, a, b, q2⟩ | ⟨T, b, oT, q1, q2, q3⟩
  · refine zip_next_item D q1 Z.ti q2 Z.a1 Z.a2 Z.b1 Z.b2 hx hy fun h' r1 r2 r3 r4 r5 r6 r7 => hQ h' _ ⟨.inr ⟨s.heap.objs.size, false, _, r1, r5, hn0⟩, r7 _ _ D.TIz D.TITO D.TIi1 D.TIi2 Z.ti, r3, r4, Z.b1.at fun o e => r7 _ o D.l1z D.l1TO D.l1i1 D.l1i2 e, Z.b2.at fun o e => r7 _ o D.l2z D.l2TO D.l2i1 D.l2i2 e, fun c o c1 c2 c3 c4 c5 e => r7 c o c2 c3 c4 c5 (Z.keep c o c1 c2 c3 c4 c5 e), by rw [r6]; exact Nat.le_succ_of_le Z.size⟩ r5 hn0 hn r7
  · refine zip_next_item2 D q1 q2 Z.ti Z.a1 Z.a2 Z.b1 Z.b2 hx hy fun h' r1 r3 r4 r5 r6 r7 => hQ h' _ ⟨.inr ⟨T, true, oT, r1, r7 _ _ (new_ne q3 O.oz) (new_ne q3 O.oi1) (new_ne q3 O.oi2) q2, q3⟩, r7 _ _ D.TIz D.TIi1 D.TIi2 Z.ti, r3, r4, Z.b1.at fun o e => r7 _ o D.l1z D.l1i1 D.l1i2 e, Z.b2.at fun o e => r7 _ o D.l2z D.l2i1 D.l2i2 e, fun c o c1 c2 c3 c4 c5 e => r7 c o c2 c4 c5 (Z.keep c o c1 c2 c3 c4 c5 e), by rw [r6]; exact Nat.le_succ_of_le Z.size⟩ r5 hn0 hn fun c o c1 _ c3 c4 e => r7 c o c1 c3 c4 e
theorem zip_typeIs {h : Heap} {i : Nat} (Z : ZSt S z TI TO i1 i2 l1 l2 xs ys h0 h i) : ∃ o, h.get? z = some o ∧ o.cls = .type "zip" := by
  rcases Z.zz with ⟨q1, _⟩ | ⟨T, b, oT, q1, _⟩
  · exact ⟨_, q1, rfl⟩
  · exact ⟨_, q1, rfl⟩
theorem pyNext_zip_any {i : Nat} {x y : Value} {Q : Option Value → Shared → Prop} (D : ZipApart z TI TO i1 i2 l1 l2) (O : ZOut S z TI TO i1 i2 h0) (Z : ZSt S z TI TO i1 i2 l1 l2 xs ys h0 s.heap i) (hx : xs[i]? = some x) (hy : ys[i]? = some y)
    (hQ : ∀ h' T, ZSt S z TI TO i1 i2 l1 l2 xs ys h0 h' (i + 1) → IsPair h' T x y → h0.get? T = none → s.heap.get? T = none → (∀ c o, c ≠ z → c ≠ TO → c ≠ i1 → c ≠ i2 → s.heap.get? c = some o → h'.get? c = some o) → Q (some (.ref T)) { s with heap := h' }) :
    wpAny (model prog w) A (pyNext (.ref z)) Q E s := by
  have hT : s.TypeIs (.ref z) "zip" := zip_typeIs Z
  unfold pyNext
  exact wpAny_bind (wpAny_attempt (wpAny_callSpecial?_slot (name := Str.ofString "__next__") hT F.slot_zip_next
    (wpAny_call_entry F.slot_zip_next hT F.entry_zip_next
      (zip_next_any D O Z hx hy fun h' T a1 a2 a3 a4 a5 => wpAny_pure (hQ h' T a1 a2 a3 a4 a5)) (F.args_zip_next_1 _))))
theorem pyNext_zip_stop {i : Nat} {Q : Option Value → Shared → Prop} (hh : A.handled = none) (D : ZipApart z TI TO i1 i2 l1 l2) (O : ZOut S z TI TO i1 i2 h0) (Z : ZSt S z TI TO i1 i2 l1 l2 xs ys h0 s.heap i) (hx : xs[i]? = none)
    (hQ : ∀ h', (∀ c o, c ≠ z → c ≠ TO → c ≠ i1 → c ≠ i2 → s.heap.get? c = some o → h'.get? c = some o) → Q none { s with heap := h' }) :
    wpAny (model prog w) A (pyNext (.ref z)) Q E s := by
  have hT : s.TypeIs (.ref z) "zip" := zip_typeIs Z
  rcases Z.zz with ⟨q1, a, b, q2⟩ | ⟨T, b, oT, q1, q2, q3⟩
  · exact wpAny_pyNext_zip_end hh D q1 Z.ti q2 Z.a1 Z.a2 Z.b1 Z.b2 (.inl hx) hQ
  · unfold pyNext
    refine wpAny_bind (wpAny_attempt (wpAny_callSpecial?_slot (name := Str.ofString "__next__") hT F.slot_zip_next
      (wpAny_call_entry F.slot_zip_next hT F.entry_zip_next (zip_next_end2 hh D q1 q2 Z.ti Z.a1 Z.b1 hx fun h' e hk he => ?_) (F.args_zip_next_1 _))))
    obtain ⟨o, ho, hc⟩ := he
    refine wpAny_bind (wpAny_isInstance (T := "StopIteration") (b := true) ⟨o, ho, hc⟩ isSubtype_stop ?_)
    exact wpAny_pure (hQ _ fun c o c1 _ c3 _ e => hk c o c1 c3 e)
theorem ZAcc.keep {h h' : Heap} {acc : Array Value} {i : Nat} (a : ZAcc xs ys h0 h acc i) (hk : ∀ T o, h0.get? T = none → h.get? T = some o → h'.get? T = some o) : ZAcc xs ys h0 h' acc i :=
  ⟨a.1, fun j hj => let ⟨T, x, y, e1, e2, e3, e4, e5⟩ := a.2 j hj; ⟨T, x, y, e1, e2, e3, hk _ _ e5 e4, e5⟩⟩
theorem ZAcc.snoc {h : Heap} {acc : Array Value} {i : Nat} {T : Addr} {x y : Value} (a : ZAcc xs ys h0 h acc i) (hx : xs[i]? = some x) (hy : ys[i]? = some y) (hT : IsPair h T x y) (hn : h0.get? T = none) : ZAcc xs ys h0 h (acc.push (.ref T)) (i + 1) := by
  refine ⟨by rw [Array.size_push, a.1], fun j hj => ?_⟩
  by_cases e : j = i
  · subst e
    exact ⟨T, x, y, by rw [← a.1]; simp, hx, hy, hT, hn⟩
  · obtain ⟨T', x', y', e1, e2⟩ := a.2 j (by lia)
    refine ⟨T', x', y', ?_, e2⟩
    rw [Array.getElem?_push, if_neg (by rw [a.1]; exact e)]
    exact e1
theorem zip_ext_loop {R : Result → Shared → Prop} {res : Value} (hh : A.handled = none) (D : ZipApart z TI TO i1 i2 l1 l2) (O : ZOut S z TI TO i1 i2 h0) (h1 : l1 ≠ S) (h2 : l2 ≠ S) (hxy : xs.size = ys.size) (hn : xs.size ≤ 100000) :
    ∀ (k i : Nat) (s : Shared) (acc : Array Value) (c : Nat), xs.size - i = k → i ≤ xs.size → ZSt S z TI TO i1 i2 l1 l2 xs ys h0 s.heap i → s.heap.get? S = some { cls := .type "list", dict := none, data := .seq acc c, slots := #[] } → ZAcc xs ys h0 s.heap acc i →
    (∀ h' acc' c', (∀ c o, c ≠ S → c ≠ z → c ≠ TO → c ≠ i1 → c ≠ i2 → h0.get? c = some o → h'.get? c = some o) → h'.get? S = some { cls := .type "list", dict := none, data := .seq acc' c', slots := #[] } → ZAcc xs ys h0 h' acc' xs.size → R (.ok (.ret res)) { s with heap := h' }) →
    codeAny (model prog w) A (.builtin "list.extend.loop" ⟨[.ref S, .ref z, res], []⟩) R s := by
  intro k
  induction k with
  | zero =>
    intro i s acc c hk hi Z hS ha hR
    have hin : i = xs.size := by lia
    subst hin
    refine codeAny_builtin F.entry_extend_loop ?_
    rw [Around.under_plainId F.plain_extend_loop _]
    show wpAny _ A.in1 (pyNext (.ref z) >>= _) _ _ s
    refine wpAny_bind (pyNext_zip_stop hh D O Z (by simp) fun h' hk => ?_)
    exact wpAny_pure (hR h' acc c (fun c o c1 c2 c3 c4 c5 e => hk c o c2 c3 c4 c5 (Z.keep c o c1 c2 c3 c4 c5 e)) (hk _ _ O.sz O.sto O.s1 O.s2 hS) (ha.keep fun T o q e => hk T o (new_ne q O.oz) (new_ne q O.oTO) (new_ne q O.oi1) (new_ne q O.oi2) e))
  | succ k ih =>
    intro i s acc c hk hi Z hS ha hR
    have hlt : i < xs.size := by lia
    refine codeAny_builtin F.entry_extend_loop ?_
    rw [Around.under_plainId F.plain_extend_loop _]
    show wpAny _ A.in1 (pyNext (.ref z) >>= _) _ _ s
    refine wpAny_bind (pyNext_zip_any D O Z (Array.getElem?_eq_getElem hlt) (Array.getElem?_eq_getElem (by lia)) fun h' T Z' hT hT0 hTn hk' => ?_)
    have hS' := hk' _ _ O.sz O.sto O.s1 O.s2 hS
    show wpAny _ A.in1 (updateSeq S (·.push (.ref T)) >>= _) _ _ _
    refine wpAny_bind ?_
    have hsb : Heap.SameBut S h' (h'.update S (Obj.mapSeq (·.push (.ref T)))) := Heap.SameBut.update ..
    have nT : ∀ {T}, h0.get? T = none → T ≠ S := fun q => new_ne q O.oS
    have hsl : acc.size ≤ 100000 := by rw [ha.1]; lia
    refine wpAny_updateSeq hS' rfl (wpAny_pure ⟨plainId_quiet F.plain_extend_loop _, ih (i + 1) _ (acc.push (.ref T)) _ (by lia) (by lia) (Z'.push O h1 h2 hsb) (Heap.get?_update_self _ hS' rfl) ?_ fun h'' acc' c' q1 q2 q3 => hR h'' acc' c' q1 q2 q3⟩) (fitsSz (by lia)) (by show (acc.push (.ref T)).size ≤ sizeLine + 1; rw [Array.size_push]; exact Nat.le_succ_of_le (fitsSz (by lia)))
    exact ZAcc.keep (h := h') (ZAcc.snoc (ha.keep fun T o q e => hk' T o (new_ne q O.oz) (new_ne q O.oTO) (new_ne q O.oi1) (new_ne q O.oi2) e) (Array.getElem?_eq_getElem hlt) (Array.getElem?_eq_getElem (by lia)) hT hT0) fun T o q e => hsb.extBut _ _ (nT q) e
theorem zip_no_len : typeLookup (.type "zip") "__len__" = pure none := by rw [typeLookup_type, builtinLookup_eq_fast]; kernel_rfl
theorem zip_no_hint : typeLookup (.type "zip") "__length_hint__" = pure none := by rw [typeLookup_type, builtinLookup_eq_fast]; kernel_rfl
theorem call_list_zip {Q : Value → Shared → Prop} (hh : A.handled = none) (D : ZipApart z TI TO i1 i2 l1 l2) (hz : IsZip s.heap z TI TO .none) (hTI : IsPair s.heap TI (.ref i1) (.ref i2)) (hTO : ∃ a b, IsPair s.heap TO a b)
    (h1 : s.heap.IsListIter i1 l1 0) (h2 : s.heap.IsListIter i2 l2 0) (hl1 : s.heap.IsList l1 xs) (hl2 : s.heap.IsList l2 ys) (hxy : xs.size = ys.size) (hn : xs.size ≤ 100000)
    (hQ : ∀ h' acc c', (∀ c o, c ≠ z → c ≠ TO → c ≠ i1 → c ≠ i2 → s.heap.get? c = some o → h'.get? c = some o) → h'.get? s.heap.objs.size = some { cls := .type "list", dict := none, data := .seq acc c', slots := #[] } → ZAcc xs ys s.heap h' acc xs.size → Q (.ref s.heap.objs.size) { s with heap := h' }) :
    wpAny (model prog w) A (call (.type "list") [.ref z]) Q E s := by
  have hsz : s.heap.get? s.heap.objs.size = none := Heap.get?_none_of_le (Nat.le_refl _)
  have ne : ∀ {c}, (∃ o, s.heap.get? c = some o) → s.heap.objs.size ≠ c := fun h => new_ne hsz h
  have up : ∀ c o, s.heap.get? c = some o → (s.heap.push { cls := .type "list", data := .seq #[] }).get? c = some o := fun c o e => Heap.get?_push_of_some _ e
  have x1 : ∃ o, s.heap.get? i1 = some o := h1.imp fun o q => q.1
  have x2 : ∃ o, s.heap.get? i2 = some o := h2.imp fun o q => q.1
  have y1 : ∃ o, s.heap.get? l1 = some o := hl1.imp fun o q => q.1
  have y2 : ∃ o, s.heap.get? l2 = some o := hl2.imp fun o q => q.1
  have xO : ∃ o, s.heap.get? TO = some o := let ⟨_, _, q⟩ := hTO; ⟨_, q⟩
  refine callType_codes (Q₁ := fun obj s₁ => obj = .ref s.heap.objs.size ∧ s₁ = { s with heap := s.heap.push { cls := .type "list", data := .seq #[] } }) F.called_list (F.typeCall_list_1 _) F.entry_list_init
    (code_list_new _ ⟨rfl, rfl⟩) fun obj s₁ h₁ => ?_
  obtain ⟨rfl, rfl⟩ := h₁
  have hS : (s.heap.push { cls := .type "list", data := .seq #[] }).get? s.heap.objs.size = some { cls := .type "list", data := .seq #[] } := Heap.get?_push_size _ rfl
  generalize hhp : s.heap.push { cls := .type "list", data := .seq #[] } = hp at *
  clear hhp
  generalize hgS : s.heap.objs.size = S at *
  have O : ZOut S z TI TO i1 i2 hp := ⟨⟨_, hS⟩, ⟨_, up _ _ hz⟩, xO.imp fun o q => up _ _ q, x1.imp fun o q => up _ _ q, x2.imp fun o q => up _ _ q, ne ⟨_, hz⟩, ne ⟨_, hTI⟩, ne xO, ne x1, ne x2⟩
  refine ⟨⟨_, hS, rfl⟩, F.args_list_init_2 _ _, ?_⟩
  show wpAny _ _ (do let old ← Builtin.List.listItems (.ref S); Builtin.List.listUpdate (.ref S) (fun _ => #[]); letGo old.toList.reverse; Builtin.List.listExtendWith (.ref S) (.ref z) .none) _ _ _
  refine wpAny_bind ?_
  unfold Builtin.List.listItems
  refine wpAny_bind (wpAny_seqItems hS rfl (wpAny_pure ?_))
  show wpAny _ _ (updateSeq S (fun _ => #[]) >>= fun _ => letGo (#[] : Array Value).toList.reverse >>= fun _ => Builtin.List.listExtendWith (.ref S) (.ref z) .none) _ _ _
  refine wpAny_bind (wpAny_updateSeq hS rfl ?_)
  have hS₂ := Heap.get?_update_self (Obj.mapSeq (fun _ => (#[] : Array Value))) hS rfl
  have hsb : Heap.SameBut S hp (hp.update S (Obj.mapSeq (fun _ => (#[] : Array Value)))) := Heap.SameBut.update ..
  generalize hp.update S (Obj.mapSeq (fun _ => (#[] : Array Value))) = h2' at *
  have hz₂ : IsZip h2' z TI TO .none := hsb.extBut _ _ O.sz.symm (up _ _ hz)
  refine wpAny_bind (wpAny_letGo ?_)
  unfold Builtin.List.listExtendWith
  refine wpAny_bind (wpAny_typeOf (T := "zip") ⟨_, hz₂, rfl⟩ ?_)
  have g1 : Builtin.List.listSameRef (.ref S) (.ref z) = false := by simp [Builtin.List.listSameRef, O.sz]
  have g2 : (Value.type "zip" == Value.type "list") = false := by decide
  have g3 : (Value.type "zip" == Value.type "tuple") = false := by decide
  simp only [g1, g2, g3, Bool.or_false, Bool.false_eq_true, if_false]
  refine wpAny_bind (wpAny_pyIter_zip hz₂ ?_)
  refine wpAny_bind (wpAny_holding ?_)
  unfold Builtin.List.listLengthHint
  refine wpAny_bind (wpAny_specialOf ⟨_, hz₂, rfl⟩ zip_no_len ?_)
  show wpAny _ _ (specialOf (Value.ref z) (Str.ofString "__length_hint__") >>= _) _ _ _
  refine wpAny_bind (wpAny_specialOf ⟨_, hz₂, rfl⟩ zip_no_hint ?_)
  refine wpAny_pure ?_
  show wpAny _ _ (rule "list.extend.makes-room" >>= fun _ => Builtin.List.listTouch (.ref S) >>= fun _ => again (.builtin "list.extend.loop" ⟨[.ref S, .ref z, .none], []⟩)) _ _ _
  refine wpAny_bind (wpAny_rule ?_)
  refine wpAny_bind ?_
  show wpAny _ _ (updateSeq S (·.push .none) >>= fun _ => updateSeq S (·.pop)) _ _ _
  refine wpAny_bind (wpAny_updateSeq hS₂ rfl ?_)
  have hS₃ := Heap.get?_update_self (Obj.mapSeq (·.push Value.none)) hS₂ rfl
  refine wpAny_updateSeq (hz := by seq_fits) hS₃ rfl ?_
  have hS₄ := Heap.get?_update_self (Obj.mapSeq (·.pop)) hS₃ rfl
  have hsb2 : Heap.SameBut S h2' ((h2'.update S (Obj.mapSeq (·.push Value.none))).update S (Obj.mapSeq (·.pop))) := (Heap.SameBut.update ..).trans (Heap.SameBut.update ..)
  generalize (h2'.update S (Obj.mapSeq (·.push Value.none))).update S (Obj.mapSeq (·.pop)) = h4 at *
  have hsb4 := hsb.trans hsb2
  have Z0 : ZSt S z TI TO i1 i2 l1 l2 xs ys hp hp 0 := ⟨.inl ⟨up _ _ hz, let ⟨a, b, q⟩ := hTO; ⟨a, b, up _ _ q⟩⟩, up _ _ hTI, h1.at fun o e => up _ o e, h2.at fun o e => up _ o e, hl1.at fun o e => up _ o e, hl2.at fun o e => up _ o e, fun c o _ _ _ _ _ e => e, Nat.le_refl _⟩
  refine wpAny_pure ⟨plainId_quiet F.plain_extend_loop _, zip_ext_loop (h0 := hp) (by exact hh) D O (ne y1).symm (ne y2).symm hxy hn xs.size 0 _ _ _ rfl (Nat.zero_le _) (Z0.push O (ne y1).symm (ne y2).symm hsb4) hS₄ ⟨rfl, fun j hj => absurd hj (Nat.not_lt_zero _)⟩ fun h' acc' c' r1 r2 r3 => ?_⟩
  refine ⟨rfl, hQ h' acc' c' (fun c o c2 c3 c4 c5 e => r1 c o (ne ⟨o, e⟩).symm c2 c3 c4 c5 (up _ _ e)) r2 ?_⟩
  refine ⟨r3.1, fun j hj => ?_⟩
  obtain ⟨T, x, y, e1, e2, e3, e4, e5⟩ := r3.2 j hj
  refine ⟨T, x, y, e1, e2, e3, e4, ?_⟩
  cases q : s.heap.get? T with
  | none => rfl
  | some o => rw [up _ _ q] at e5; cases e5
end
end Mine
end

section
open PySem PySem.W PySem.W.X PyProof.Rows PySem.Spec PySem.Calls
set_option Elab.async false
set_option maxRecDepth 100000
theorem Mine.st1 : isSubtype (.type "tuple") (.type "tuple") = pure true := by rw [isSubtype_type]; kernel_rfl
theorem Mine.st2 : isSubtype (.type "dict") (.type "dict") = pure true := by rw [isSubtype_type]; kernel_rfl
theorem Mine.st3 : isSubtype (.type "type") (.type "type") = pure true := by rw [isSubtype_type]; kernel_rfl
theorem Mine.it1 : isType (.type "object") = pure true := by rfl
theorem Mine.to1 : typeOf (.type "object") = pure (.type "type") := by kernel_rfl
theorem Mine.no1 : Builtin.notOverATurnedClass [Value.type "object"] = pure () := by kernel_rfl
theorem Mine.eb1 : Builtin.extendedBase [Value.type "object"] = pure (Value.type "object") := by kernel_rfl
theorem Mine.forIn_one {α β : Type} {M : Model} {A : Around} {E : Value → Shared → Prop} {s : Shared} {x : α} {b : β} {f : α → β → Sem (ForInStep β)} {Q : β → Shared → Prop}
    (h : wpAny M A (f x b) (fun r s' => match r with | .yield c => Q c s' | .done c => Q c s') E s) : wpAny M A (forIn [x] b f) Q E s := by
  rw [List.forIn_cons]
  refine wpAny_bind (wpAny_mono h (fun r s' h' => ?_) fun _ _ e => e)
  cases r with
  | done c => exact wpAny_pure h'
  | yield c =>
    dsimp only
    rw [List.forIn_nil]
    exact wpAny_pure h'
theorem Mine.forIn_next {α β : Type} {M : Model} {A : Around} {E : Value → Shared → Prop} {s : Shared} {x : α} {l : List α} {b : β} {f : α → β → Sem (ForInStep β)} {Q : β → Shared → Prop}
    (h : wpAny M A (f x b) (fun r s' => match r with | .yield c => wpAny M A (forIn l c f) Q E s' | .done c => Q c s') E s) : wpAny M A (forIn (x :: l) b f) Q E s := by
  rw [List.forIn_cons]
  refine wpAny_bind (wpAny_mono h (fun r s' h' => ?_) fun _ _ e => e)
  cases r with
  | done c => exact wpAny_pure h'
  | yield c => exact h'
theorem Mine.forIn_none {α β : Type} {M : Model} {A : Around} {E : Value → Shared → Prop} {s : Shared} {b : β} {f : α → β → Sem (ForInStep β)} {Q : β → Shared → Prop} (h : Q b s) : wpAny M A (forIn [] b f) Q E s := by
  rw [List.forIn_nil]
  exact wpAny_pure h
theorem Mine.lk1 : typeLookup (.type "dict") "__iter__" = pure (some (.builtin "dict.__iter__")) := by rw [typeLookup_type, builtinLookup_eq_fast]; kernel_rfl
section
variable {M : Model} {A : Around} {E : Value → Shared → Prop} {s : Shared}
theorem Mine.newObj_abs {T : String} {data : Data} {Q : Value → Shared → Prop} (hd : sizeOk data) (hf : Obj.isFreed { cls := .type T, dict := none, data } = false)
    (h : ∀ N H, H.get? N = some { cls := .type T, dict := none, data } → (∀ b o, s.heap.get? b = some o → H.get? b = some o) → s.heap.get? N = none → Q (.ref N) { s with heap := H }) : wpAny M A (newObj (.type T) data) Q E s :=
  wpAny_newObj_type (h _ _ (Heap.get?_push_size _ hf) (fun b o e => Heap.get?_push_of_some _ e) (Heap.get?_none_of_le (Nat.le_refl _))) hd
theorem Mine.alloc_abs {o : Obj} {Q : Addr → Shared → Prop} (hf : o.isFreed = false)
    (h : ∀ N H, H.get? N = some o → (∀ b o, s.heap.get? b = some o → H.get? b = some o) → s.heap.get? N = none → Q N { s with heap := H }) : wpAny M A (alloc o) Q E s :=
  wpAny_alloc (h _ _ (Heap.get?_push_size _ hf) (fun b o e => Heap.get?_push_of_some _ e) (Heap.get?_none_of_le (Nat.le_refl _)))
end
section
variable {M : Model} {A : Around} {E : Value → Shared → Prop} {s : Shared}
theorem Mine.setSlot_abs {a : Addr} {i : Nat} {v : Option Value} {o o' : Obj} {Q : Unit → Shared → Prop} (ho : s.heap.get? a = some o) (hi : i < 100) (ho' : { o with slots := (o.slots ++ Array.replicate (i + 1 - o.slots.size) none).setIfInBounds i v } = o') (hf : o'.isFreed = false)
    (h : ∀ H, H.get? a = some o' → Heap.SameBut a s.heap H → Q () { s with heap := H }) : wpAny M A (setSlotAt a i v) Q E s := by
  subst ho'
  unfold setSlotAt
  refine wpAny_ite_false (by rw [decide_eq_false_iff_not, sizeLine_eq]; lia) ?_
  exact wpAny_updatePart ho (h _ (Heap.get?_update_self _ ho hf) (Heap.SameBut.update ..))
theorem Mine.updateCls_abs {a : Addr} {f : ClassData → ClassData} {o o' : Obj} {c : ClassData} {Q : Unit → Shared → Prop} (ho : s.heap.get? a = some o) (hd : o.data = .cls c) (ho' : Obj.mapCls f o = o') (hf : o'.isFreed = false) (hp : o'.data.pastItsLine = none)
    (h : ∀ H, H.get? a = some o' → Heap.SameBut a s.heap H → Q () { s with heap := H }) : wpAny M A (updateCls a f) Q E s := by
  subst ho'
  unfold updateCls
  refine wpAny_bind (wpAny_load ho ?_)
  rw [hd]
  have hg := Heap.get?_update_self (Obj.mapCls f) ho hf
  exact wpAny_bind (wpAny_update ho (wpAny_lookBehind hg hp (h _ hg (Heap.SameBut.update ..))))
end
noncomputable def Mine.A0 : Around := { handled := none, depth := 800, frames := none, guards := none, units := 5000 }
theorem Mine.wp_room {α : Type} {M : Model} {A : Around} {E : Value → Shared → Prop} {s : Shared} {t : Sem α} {Q : α → Shared → Prop} (hh : A.handled = none) (hd : A.depth ≤ 800) (hu : A.units ≤ 5000) (h : wpAny M Mine.A0 t Q E s) : wpAny M A t Q E s :=
  fun Γ p hΓ => h Γ p ⟨hΓ.1.trans hh, Nat.le_trans hΓ.2.1 hd, (fun l e => by cases e), (fun l e => by cases e), Nat.le_trans hΓ.2.2.2.2 hu⟩
end

section
open PySem PySem.W PySem.W.X PyProof.Rows PySem.Spec PySem.Calls
set_option Elab.async false
set_option maxRecDepth 100000
theorem Mine.sr1 : Builtin.Slots.bestBase [Value.type "object"] = pure (Value.type "object") := by kernel_rfl
theorem Mine.sr2 : Builtin.Slots.slotNamesOf (Value.type "object") = pure [] := by kernel_rfl
theorem Mine.sr3 : Builtin.Slots.givesDict (Value.type "object") = pure false := by kernel_rfl
theorem Mine.sr4 : Builtin.Slots.givesWeak (Value.type "object") = pure false := by kernel_rfl
theorem Mine.sr5 : Builtin.Slots.varSize (Value.type "object") = pure false := by kernel_rfl
theorem Mine.mg1 : Builtin.Slots.mangle (Str.ofString "K") (Str.ofString "obj") = Str.ofString "obj" := by kernel_rfl
theorem Mine.slots_read (prog : Program) (w : World) (A : Around) (s : Shared) (lA : Addr) (es : Array DictEntry) (e : DictEntry) (ot : Tok) (E : Value → Shared → Prop) (Q : Builtin.Slots.Plan → Shared → Prop)
   (ln : Nat) (h3 : s.heap.get? lA = some (seqObj "list" [Value.str "obj" ot].toArray ln)) (he : es.find? (·.key.isStr "__slots__") = some e) (hv : e.val = .ref lA) (hno : es.any (·.key.isStr "obj") = false) 
   (hQ : ∀ X, (∀ b o, s.heap.get? b = some o → X.get? b = some o) → Q { names := ["obj"], dict := false, weak := false, inherited := [] } { s with heap := X }) : wpAny (model prog w) A (Builtin.Slots.read "K" [Value.type "object"] es) Q E s := by
  unfold Builtin.Slots.read
  refine wpAny_bind (wpAny_of_eq Mine.sr1 (wpAny_bind (wpAny_of_eq Mine.sr2 (wpAny_bind (wpAny_of_eq Mine.sr3 (wpAny_bind (wpAny_of_eq Mine.sr4 (wpAny_bind (wpAny_of_eq Mine.sr5 ?_)))))))))
  dsimp only
  rw [he]
  dsimp only
  refine wpAny_bind (wpAny_rule ?_)
  rw [hv]
  refine wpAny_bind (m := asStr? _) (wpAny_bind (wpAny_load h3 (wpAny_pure ?_)))
  refine wpAny_ite_false rfl ?_
  refine wpAny_bind (collect_list ⟨_, h3, rfl, _, rfl⟩ ?_ (by size_fits))
  refine wpAny_ite_true rfl ?_
  refine wpAny_bind (wpAny_of_eq Mine.sr5 ?_)
  refine wpAny_ite_false rfl ?_
  refine wpAny_bind (m := forIn _ _ _) (Mine.forIn_one (x := Value.str "obj" ot) ?_)
  refine wpAny_bind (m := asStr? _) (wpAny_pure ?_)
  refine wpAny_of_eq (a := ForInStep.yield (false, false, #[Str.ofString "obj"], [])) (by kernel_rfl) ?_
  dsimp only
  rw [← Array.forIn_toList]
  refine wpAny_bind (m := forIn _ _ _) (Mine.forIn_one (x := Str.ofString "obj") ?_)
  dsimp only
  rw [Mine.mg1, hno]
  refine wpAny_ite_false (by kernel_rfl) (wpAny_ite_false rfl (wpAny_ite_false (by kernel_rfl) (wpAny_pure ?_)))
  dsimp only
  refine wpAny_bind (m := forIn _ _ _) (Mine.forIn_one (x := Value.type "object") (wpAny_ite_false (by kernel_rfl) (wpAny_pure ?_)))
  exact wpAny_pure (hQ _ fun b o e => (Heap.get?_update_other _ _ (fun h => Nat.lt_irrefl _ (h ▸ Heap.lt_size e))).trans (Heap.get?_push_of_some _ e))
noncomputable def Mine.kcls (N : Addr) (qn : Str) (mro : List Value) (slots : Array (Option Value)) (hasDict : Bool) (sn : List Str) : Obj :=
  { cls := .type "type", dict := none, data := .cls { name := "K", bases := [.type "object"], mro, ns := N, qualname := qn, hasDict, slotNames := sn }, slots }
theorem Mine.mh1 : Builtin.mroHook? (.type "type") = pure none := by kernel_rfl
theorem Mine.ln1 : Builtin.linearize [Value.type "object"] mroOf = pure [Value.type "object"] := by kernel_rfl
theorem Mine.hfl (a : Addr) : List.filter (fun x => x != Value.ref a) [Value.ref a, Value.type "object"] = [Value.type "object"] := by
  rw [List.filter_cons, if_neg (by simp), List.filter_cons, if_pos (by rfl)]; rfl
theorem Mine.mb1 : Bind.madeBy (.type "object") = pure (some "object.__new__") := by kernel_rfl
end

section
open PySem PySem.W PySem.W.X PyProof.Rows PySem.Spec PySem.Calls
set_option Elab.async false
set_option maxRecDepth 100000
theorem Mine.k_mro {M : Model} {A : Around} {E : Value → Shared → Prop} {s : Shared} {a N : Addr} {qn : Str} {mro : List Value} {sl : Array (Option Value)} {hd : Bool} {sn : List Str} {Q : List Value → Shared → Prop}
    (ha : s.heap.get? a = some (Mine.kcls N qn mro sl hd sn)) (h : Q mro s) : wpAny M A (mroOf (.ref a)) Q E s := by
  show wpAny M A (do return (← classData a).mro) Q E s
  exact wpAny_bind (m := classData a) (wpAny_bind (wpAny_load ha (wpAny_pure (wpAny_pure h))))
theorem Mine.k_lookup {M : Model} {A : Around} {E : Value → Shared → Prop} {s : Shared} {a N : Addr} {qn name : Str} {m : Str → Option Value} {sl : Array (Option Value)} {hd : Bool} {sn : List Str} {Q : Option Value → Shared → Prop}
    (ha : s.heap.get? a = some (Mine.kcls N qn [.ref a, .type "object"] sl hd sn)) (hn : s.heap.Ns N m) (h : Q (match m name with | some v => some v | none => builtinOwn "object" name) s) : wpAny M A (typeLookup (.ref a) name) Q E s := by
  unfold typeLookup
  refine wpAny_bind (Mine.k_mro ha ?_)
  refine wpAny_bind (m := forIn _ _ _) (Mine.forIn_next ?_)
  refine wpAny_bind (m := classOwn _ _) (wpAny_bind (m := classData a) (wpAny_bind (wpAny_load ha (wpAny_pure ?_))))
  refine wpAny_nsGet hn ?_
  cases e : m name with
  | some v =>
    rw [e] at h
    exact wpAny_pure (wpAny_pure h)
  | none =>
    rw [e] at h
    refine wpAny_pure (Mine.forIn_one ?_)
    refine wpAny_bind (m := classOwn _ _) (wpAny_pure ?_)
    dsimp only at h
    cases e2 : builtinOwn "object" name with
    | some v =>
      rw [e2] at h
      exact wpAny_pure (wpAny_pure h)
    | none =>
      rw [e2] at h
      exact wpAny_pure (wpAny_pure h)
theorem Mine.bo1 : builtinOwn "object" "__new__" = some (.builtin "object.__new__") := by kernel_rfl
theorem Mine.slotAt_abs {M : Model} {A : Around} {E : Value → Shared → Prop} {s : Shared} {a : Addr} {i : Nat} {o : Obj} {Q : Option Value → Shared → Prop} (ho : s.heap.get? a = some o) (h : Q (o.slots[i]?).join s) : wpAny M A (slotAt a i) Q E s := by
  unfold slotAt
  exact wpAny_bind (wpAny_loadPart ho (wpAny_pure h))
theorem Mine.drop_size (name : Str) (m : Str → Option Value) (o : Obj) (es : Array DictEntry) (ep : Nat) (hd : o.data = .dict es ep) (hk : StrKeys es) (hm : ∀ x, nsFind es x = m x) :
    ∃ es' ep' v, (Obj.dropName name o).data = .dict es' ep' ∧ (Obj.dropName name o).isFreed = false ∧ es'.size ≤ es.size ∧ (∀ e ∈ es', e ∈ es) ∧ StrKeys es' ∧ ∀ x, nsFind es' x = if x = name then v else m x := by
  obtain ⟨c, d, dt, sl⟩ := o
  subst hd
  cases hi : es.findIdx? (·.key.isStr name) with
  | some i =>
    refine ⟨es.eraseIdxIfInBounds i, ep + 1, nsFind (es.eraseIdxIfInBounds i) name, by simp only [Obj.dropName_eq, Obj.dropNameByArray, hi], by simp only [Obj.dropName_eq, Obj.dropNameByArray, hi] <;> rfl, ?_, fun e he => ?_, hk.erase i, fun x => ?_⟩
    · unfold Array.eraseIdxIfInBounds
      split
      · rw [Array.size_eraseIdx]; lia
      · exact Nat.le_refl _
    · unfold Array.eraseIdxIfInBounds at he
      split at he
      · exact Array.mem_of_mem_eraseIdx he
      · exact he
    · by_cases hx : x = name
      · rw [if_pos hx, hx]
      · rw [if_neg hx, nsFind_erase_other hi hx, hm]
  | none => exact ⟨es, ep, m name, by simp only [Obj.dropName_eq, Obj.dropNameByArray, hi], by simp only [Obj.dropName_eq, Obj.dropNameByArray, hi] <;> rfl, Nat.le_refl _, fun _ he => he, hk, fun x => by by_cases hx : x = name <;> simp [hx, hm]⟩
theorem Mine.nsDel_le {M : Model} {A : Around} {E : Value → Shared → Prop} {s : Shared} {a : Addr} {m : Str → Option Value} {k : Nat} {name : Str} {P : Value → Prop} {Q : Bool → Shared → Prop} (hn : s.heap.Ns a m) (hz : s.heap.DictLe a k) (hP : s.heap.ValsAll a P)
    (hQ : ∀ b h' v, h'.Ns a (fun x => if x = name then v else m x) → Heap.SameBut a s.heap h' → h'.DictLe a k → h'.ValsAll a P → Q b { s with heap := h' }) : wpAny M A (nsDel a name) Q E s := by
  obtain ⟨o, es, ep, ho, hd, hk, hm⟩ := id hn
  have hle := hz o es ep ho hd
  have hb : ∃ b, nsHas name o = pure b := by
    rw [nsHas_eq]; unfold nsHasByArray; rw [hd]
    have hany : es.any (·.refKey) = false := by
      rw [Array.any_eq_false']
      intro e he
      obtain ⟨n, t, h⟩ := hk e he
      simp [DictEntry.refKey, h]
    cases hx : es.any fun x => x.key.isStr name with
    | true => exact ⟨true, by simp only [hx, if_true]⟩
    | false => exact ⟨false, by simp only [hx, hany, Bool.false_eq_true, if_false]⟩
  obtain ⟨b, hb⟩ := hb
  unfold nsDel
  refine wpAny_bind (wpAny_loadPart ho ?_)
  rw [hb]
  refine wpAny_bind (wpAny_pure ?_)
  cases b with
  | false => exact wpAny_pure (hQ false s.heap (m name) ⟨o, es, ep, ho, hd, hk, fun x => by by_cases hx : x = name <;> simp [hx, hm]⟩ (.refl ..) hz hP)
  | true =>
    refine wpAny_bind (wpAny_updatePart ho (wpAny_pure ?_))
    obtain ⟨es', ep', v, h3, hf, h4, h45, h5, h6⟩ := Mine.drop_size name m o es ep hd hk hm
    have hg := Heap.get?_update_self (Obj.dropName name) ho hf
    refine hQ true _ v ⟨_, es', ep', hg, h3, h5, h6⟩ (Heap.SameBut.update ..) (fun o2 es2 ep2 q1 q2 => ?_) fun o2 es2 ep2 q1 q2 e he => ?_
    · rw [hg] at q1
      cases q1
      rw [h3] at q2
      cases q2
      lia
    · rw [hg] at q1
      cases q1
      rw [h3] at q2
      cases q2
      exact hP o es ep ho hd e (h45 e he)
theorem Mine.nsSetByValue_abs {M : Model} {A : Around} {E : Value → Shared → Prop} {s : Shared} {a : Addr} {m : Str → Option Value} {k : Nat} {name : Str} {v : Value} {P : Value → Prop} {Q : Unit → Shared → Prop} (hn : s.heap.Ns a m) (hz : s.heap.DictLe a k) (hk : k ≤ 1000) (hV : s.heap.ValsAll a P) (hv : P v)
    (h : ∀ h', h'.Ns a (fun x => if x = name then some v else m x) → Heap.SameBut a s.heap h' → h'.ValsAll a P → Q () { s with heap := h', toks := s.toks + 1 }) : wpAny M A (nsSetByValue a name v) Q E s := by
  obtain ⟨o, es, ep, ho, hd, _, _⟩ := id hn
  have hle := hz o es ep ho hd
  unfold nsSetByValue
  refine wpAny_bind (wpAny_loadPart ho ?_)
  rw [hd]
  refine wpAny_ite_false ?_ (wpAny_nsSetV hn hV hv h)
  rw [decide_eq_false_iff_not, Bool.and_eq_true, decide_eq_true_eq, sizeLine_eq]
  rintro ⟨h1, _⟩
  lia
theorem Mine.ns1 (a : Addr) : Builtin.noteSubclassOfBuiltin "object" a = pure () := by kernel_rfl
theorem Mine.forIn_all {α β : Type} {M : Model} {A : Around} {E : Value → Shared → Prop} {s : Shared} {b : β} {f : α → β → Sem (ForInStep β)} {Q : β → Shared → Prop} : ∀ {l : List α}, (∀ x ∈ l, wpAny M A (f x b) (fun r s' => r = .yield b ∧ s' = s) E s) → Q b s → wpAny M A (forIn l b f) Q E s
  | [], _, h => Mine.forIn_none h
  | x :: l, hf, h => Mine.forIn_next (wpAny_mono (hf x (.head _)) (fun r s' hr => by
      obtain ⟨rfl, rfl⟩ := hr
      exact Mine.forIn_all (fun y hy => hf y (.tail _ hy)) h) fun _ _ e => e)
theorem Mine.forIn_arr {α β : Type} {M : Model} {A : Around} {E : Value → Shared → Prop} {s : Shared} {b : β} {f : α → β → Sem (ForInStep β)} {Q : β → Shared → Prop} {l : Array α} (hf : ∀ x ∈ l, wpAny M A (f x b) (fun r s' => r = .yield b ∧ s' = s) E s) (h : Q b s) : wpAny M A (forIn l b f) Q E s := by
  rw [← Array.forIn_toList]
  exact Mine.forIn_all (fun x hx => hf x (by simpa using hx)) h
noncomputable def Mine.vok (h : Heap) (v : Value) : Prop := (∃ x t, v = .str x t) ∨ (∃ i t, v = .int i t) ∨ v = .none ∨ ∃ b o T, v = .ref b ∧ h.get? b = some o ∧ o.cls = .type T ∧ typeLookup (.type T) "__set_name__" = pure none
theorem Mine.vok.mono {h h' : Heap} {v : Value} (x : Mine.vok h v) (hk : ∀ b o, h.get? b = some o → h'.get? b = some o) : Mine.vok h' v := by
  rcases x with x | x | x | ⟨b, o, T, e1, e2, e3, e4⟩
  · exact .inl x
  · exact .inr (.inl x)
  · exact .inr (.inr (.inl x))
  · exact .inr (.inr (.inr ⟨b, o, T, e1, hk _ _ e2, e3, e4⟩))
theorem Mine.sn1 : typeLookup (.type "str") "__set_name__" = pure none := by rw [typeLookup_type, builtinLookup_eq_fast]; kernel_rfl
theorem Mine.sn2 : typeLookup (.type "int") "__set_name__" = pure none := by rw [typeLookup_type, builtinLookup_eq_fast]; kernel_rfl
theorem Mine.sn3 : typeLookup (.type "NoneType") "__set_name__" = pure none := by rw [typeLookup_type, builtinLookup_eq_fast]; kernel_rfl
theorem Mine.sn4 : typeLookup (.type "member_descriptor") "__set_name__" = pure none := by rw [typeLookup_type, builtinLookup_eq_fast]; kernel_rfl
theorem Mine.vok_special {M : Model} {A : Around} {E : Value → Shared → Prop} {s : Shared} {v : Value} {Q : Option Value → Shared → Prop} (hv : Mine.vok s.heap v) (h : Q none s) : wpAny M A (specialOf v "__set_name__") Q E s := by
  rcases hv with ⟨x, t, rfl⟩ | ⟨x, t, rfl⟩ | rfl | ⟨b, o, T, rfl, e2, e3, e4⟩
  · exact wpAny_bind (m := typeOf _) (wpAny_pure (wpAny_of_eq Mine.sn1 h))
  · exact wpAny_bind (m := typeOf _) (wpAny_pure (wpAny_of_eq Mine.sn2 h))
  · exact wpAny_bind (m := typeOf _) (wpAny_pure (wpAny_of_eq Mine.sn3 h))
  · exact wpAny_specialOf (T := T) ⟨o, e2, e3⟩ e4 h
theorem Mine.vok_held {h : Heap} {v : Value} (hv : Mine.vok h v) (k : Value) : Builtin.laidUnderItsOwnName k v = false := by
  rcases hv with ⟨x, t, rfl⟩ | ⟨x, t, rfl⟩ | rfl | ⟨b, o, T, rfl, e2, e3, e4⟩ <;> cases k <;> rfl
theorem Mine.vals_same {h h' : Heap} {a : Addr} {P : Value → Prop} (V : h.ValsAll a P) (e : h'.get? a = h.get? a) : h'.ValsAll a P := fun o es ep q => V o es ep (e ▸ q)
theorem Mine.vals_mono {h : Heap} {a : Addr} {P P' : Value → Prop} (V : h.ValsAll a P) (hp : ∀ v, P v → P' v) : h.ValsAll a P' := fun o es ep q r e he => hp _ (V o es ep q r e he)
end

section
open PySem PySem.W PySem.W.X PyProof.Rows PySem.Spec PySem.Calls
set_option Elab.async false
set_option maxRecDepth 100000
theorem Mine.mem_all {h0 h : Heap} {news : List (Addr × Obj)} (D : Mem h0 h [] news) : ∀ b o, h0.get? b = some o → h.get? b = some o := fun b o e => D.keep b o e (by simp [away])
theorem Mine.mem_head {h0 h : Heap} {chg r : List (Addr × Obj)} {a : Addr} {o : Obj} (D : Mem h0 h chg ((a, o) :: r)) : h.get? a = some o := (D.nw (a, o) (.head _)).1
theorem Mine.mem_new {h0 h : Heap} {chg r : List (Addr × Obj)} {a : Addr} {o : Obj} (D : Mem h0 h chg ((a, o) :: r)) : h0.get? a = none := (D.nw (a, o) (.head _)).2
set_option hygiene false in
local macro_rules | `(tactic| x_close) => `(tactic| first | exact hQ _ _ _ (Mine.mem_all (by assumption)) (Mine.mem_head (by assumption)) (Mine.mem_new (by assumption)) | exact hQ _ _ (Mine.mem_all (by assumption)) | exact hQ _ _ (fun _ _ e => e))
section
variable (prog : Program) (w : World) (s : Shared) (hg : s.gens = #[]) (k n : Addr) (q : Str) (sl : Array (Option Value)) (E Q : Value → Shared → Prop)
set_option maxHeartbeats 8000000 in
include hg in
theorem Mine.cmg
   (h2 : s.heap.get? k = some ⟨.type "type", none, .cls { name := "K", bases := [.type "object"], mro := [.ref k, .type "object"], ns := n, qualname := q, hasDict := false, slotNames := ["obj"] }, sl⟩)
   (hQ : ∀ mo h' tk, (∀ b o, s.heap.get? b = some o → h'.get? b = some o) → h'.get? mo = some { cls := .type "builtin_function_or_method", data := .fields #[.builtin "object.__init_subclass__", .ref k] } → s.heap.get? mo = none → Q (.ref mo) ⟨h', #[], s.drawn, tk, s.os⟩) :
   wpAny (model prog w) Mine.A0 (call (.builtin "classmethod_descriptor.__get__") [.builtin "object.__init_subclass__", .none, .ref k]) Q E s := by
  x_run
set_option maxHeartbeats 8000000 in
include hg in
theorem Mine.sup1
   (h2 : s.heap.get? k = some ⟨.type "type", none, .cls { name := "K", bases := [.type "object"], mro := [.ref k, .type "object"], ns := n, qualname := q, hasDict := false, slotNames := ["obj"] }, sl⟩)
   (hQ : ∀ mo h' tk, (∀ b o, s.heap.get? b = some o → h'.get? b = some o) → h'.get? mo = some { cls := .type "super", data := .fields #[.ref k, .ref k, .ref k] } → s.heap.get? mo = none → Q (.ref mo) ⟨h', #[], s.drawn, tk, s.os⟩) :
   wpAny (model prog w) Mine.A0 (call (.type "super") [.ref k, .ref k]) Q E s := by
  x_run
set_option maxHeartbeats 8000000 in
include hg in
theorem Mine.isc (mo bA : Addr) (kt qt : Tok)
   (h2 : s.heap.get? k = some ⟨.type "type", none, .cls { name := "K", bases := [.type "object"], mro := [.ref k, .type "object"], ns := n, qualname := "cmp_to_key.<locals>.K", hasDict := false, slotNames := ["obj"] }, #[some (.ref bA), none, some (.str "K" kt), some (.str "cmp_to_key.<locals>.K" qt), some (.builtin "object.__new__"), some (.bool false)]⟩)
   (h3 : s.heap.get? mo = some ⟨.type "builtin_function_or_method", none, .fields #[.builtin "object.__init_subclass__", .ref k], #[]⟩)
   (hQ : ∀ h' tk, (∀ b o, s.heap.get? b = some o → h'.get? b = some o) → Q .none ⟨h', #[], s.drawn, tk, s.os⟩) :
   wpAny (model prog w) Mine.A0 (call (.ref mo) []) Q E s := by
  x_run
end
end

section
open PySem PySem.W PySem.W.X PyProof.Rows PySem.Spec PySem.Calls
set_option Elab.async false
set_option maxRecDepth 100000
theorem Mine.dw1 (a : Addr) : List.drop 1 (List.dropWhile (fun x => x != Value.ref a) [Value.ref a, Value.type "object"]) = [Value.type "object"] := by
  rw [List.dropWhile_cons, if_neg (by simp)]; rfl
theorem Mine.is1 : builtinOwn "object" "__init_subclass__" = some (.builtin "object.__init_subclass__") := by kernel_rfl
theorem Mine.is0 : classOwn (.type "object") "__init_subclass__" = pure (some (.builtin "object.__init_subclass__")) := congrArg pure Mine.is1
theorem Mine.is2 : typeOf (.builtin "object.__init_subclass__") = pure (.type "classmethod_descriptor") := by show builtinType _ = _; rw [builtinType_eq_fast]; kernel_rfl
theorem Mine.is3 : typeLookup (.type "classmethod_descriptor") "__get__" = pure (some (.builtin "classmethod_descriptor.__get__")) := by rw [typeLookup_type, builtinLookup_eq_fast]; kernel_rfl
theorem Mine.super_ga {prog : Program} {w : World} {A : Around} {s : Shared} {a N sp : Addr} {qn : Str} {sl : Array (Option Value)} {t : Tok} {E Q : Value → Shared → Prop} {ms : Str → Option Value}
    (hsp : s.heap.get? sp = some { cls := .type "super", dict := none, data := .fields #[.ref a, .ref a, .ref a], slots := #[] }) (ha : s.heap.get? a = some (Mine.kcls N qn [.ref a, .type "object"] sl false ["obj"]))
    (hA : A.handled = none) (hA2 : A.depth ≤ 800) (hA3 : A.units + 1 ≤ 5000) (hg : s.gens = #[])
    (hQ : ∀ mo h' tk, (∀ b o, s.heap.get? b = some o → h'.get? b = some o) → h'.get? mo = some { cls := .type "builtin_function_or_method", data := .fields #[.builtin "object.__init_subclass__", .ref a] } → Q (.ref mo) ⟨h', #[], s.drawn, tk, s.os⟩)
    (hst : s.heap.Ns cStatics ms) (htp : ms "thirdparty.any" = none) : wpAny (model prog w) A (call (.builtin "super.__getattribute__") [.ref sp, .str "__init_subclass__" t]) Q E s := by
  refine wpAny_call_entry PySem.F.ks_slot_super_ga ⟨_, hsp, rfl⟩ PySem.F.ks_entry_super_ga ?_ (PySem.F.ks_gaArgs_super _ _)
  unfold Builtin.«super.__getattribute__»
  refine wpAny_bind (m := asStr? _) (wpAny_pure ?_)
  refine wpAny_ite_false rfl ?_
  refine wpAny_bind (m := asStr? _) (wpAny_pure ?_)
  refine wpAny_bind (wpAny_field hsp rfl (x := .ref a) rfl ?_)
  refine wpAny_bind (wpAny_field hsp rfl (x := .ref a) rfl ?_)
  refine wpAny_bind (wpAny_field hsp rfl (x := .ref a) rfl ?_)
  refine wpAny_ite_false (by kernel_rfl) ?_
  refine wpAny_bind (m := notOfAnOpaqueClass _ _ _) ?_
  unfold notOfAnOpaqueClass
  refine wpAny_bind (m := opaqueClassAbove _) ?_
  unfold opaqueClassAbove
  refine wpAny_bind (m := anyOpaqueLoaded) (wpAny_bind (wpAny_nsGet hst (wpAny_pure ?_)))
  refine wpAny_ite_true (by rw [htp]; rfl) (wpAny_pure (wpAny_pure ?_))
  refine wpAny_ite_false (by kernel_rfl) ?_
  refine wpAny_bind (Mine.k_mro ha ?_)
  rw [Mine.dw1]
  refine wpAny_bind (m := forIn _ _ _) (Mine.forIn_one ?_)
  refine wpAny_bind (wpAny_of_eq Mine.is0 ?_)
  refine wpAny_bind (wpAny_of_eq Mine.is2 (wpAny_bind (wpAny_of_eq Mine.is3 ?_)))
  refine wpAny_bind (wpAny_holding ?_)
  rw [if_pos (by simp)]
  refine Mine.wp_room hA hA2 hA3 (Mine.cmg prog w s hg a N qn sl E _ ha fun mo h' tk k1 k2 _ => ?_)
  refine wpAny_bind (m := ret _) (wpAny_pure (wpAny_pure ?_))
  exact wpAny_pure ⟨_, rfl, hQ mo h' tk k1 k2⟩
theorem Mine.sga1 : typeLookup (.type "super") "__getattribute__" = pure (some (.builtin "super.__getattribute__")) := by rw [typeLookup_type, builtinLookup_eq_fast]; kernel_rfl
theorem Mine.super_attr {prog : Program} {w : World} {A : Around} {s : Shared} {a N sp : Addr} {qn : Str} {sl : Array (Option Value)} {E Q : Value → Shared → Prop} {ms : Str → Option Value}
    (hsp : s.heap.get? sp = some { cls := .type "super", dict := none, data := .fields #[.ref a, .ref a, .ref a], slots := #[] }) (ha : s.heap.get? a = some (Mine.kcls N qn [.ref a, .type "object"] sl false ["obj"]))
    (hA : A.handled = none) (hA2 : A.depth ≤ 800) (hA3 : A.units + 1 ≤ 5000) (hg : s.gens = #[])
    (hQ : ∀ mo h' tk, (∀ b o, s.heap.get? b = some o → h'.get? b = some o) → h'.get? mo = some { cls := .type "builtin_function_or_method", data := .fields #[.builtin "object.__init_subclass__", .ref a] } → Q (.ref mo) ⟨h', #[], s.drawn, tk, s.os⟩)
    (hst : s.heap.Ns cStatics ms) (htp : ms "thirdparty.any" = none) : wpAny (model prog w) A (getAttr (.ref sp) "__init_subclass__") Q E s := by
  unfold getAttr getAttrBy
  refine wpAny_bind (wpAny_mkText (wpAny_holding (wpAny_bind (wpAny_typeOf (T := "super") ⟨_, hsp, rfl⟩ (wpAny_bind (wpAny_of_eq Mine.sga1 ?_))))))
  refine wpAny_ite_false rfl ?_
  unfold getAttrByItsOwn hookBefore callGetattribute boundAndCalled
  refine wpAny_bind (wpAny_ite_false rfl (wpAny_pure ?_))
  refine wpAny_bind (wpAny_attempt (wpAny_holding ?_))
  refine wpAny_ite_false rfl ?_
  refine wpAny_bind (wpAny_of_eq (PySem.F.ks_slot_super_ga.bind _) ?_)
  refine Mine.super_ga hsp ha hA hA2 hA3 hg (fun mo h' tk k1 k2 => ?_) hst htp
  exact wpAny_pure (hQ mo h' tk k1 k2)
end

section
open PySem PySem.W PySem.W.X PyProof.Rows PySem.Spec PySem.Calls
set_option Elab.async false
set_option maxRecDepth 100000
theorem Mine.dec0 {b : Bool} (h : b = false) : decide (b = true) = false := by rw [h]; rfl
theorem Mine.nsGetE {M : Model} {A : Around} {E : Value → Shared → Prop} {s : Shared} {a : Addr} {m : Str → Option Value} {name : Str} {r : Option Value} {Q : Option Value → Shared → Prop} (hn : s.heap.Ns a m) (e : m name = r) (h : Q r s) : wpAny M A (nsGet a name) Q E s := wpAny_nsGet hn (e ▸ h)
theorem Mine.k_lookupN {M : Model} {A : Around} {E : Value → Shared → Prop} {s : Shared} {a N : Addr} {qn name : Str} {m : Str → Option Value} {sl : Array (Option Value)} {hd : Bool} {sn : List Str} {r : Option Value} {Q : Option Value → Shared → Prop}
    (ha : s.heap.get? a = some (Mine.kcls N qn [.ref a, .type "object"] sl hd sn)) (hn : s.heap.Ns N m) (e : m name = none) (er : builtinOwn "object" name = r) (h : Q r s) : wpAny M A (typeLookup (.ref a) name) Q E s :=
  Mine.k_lookup ha hn (by rw [e, er]; exact h)
theorem Mine.notAt {h : Heap} {m : Str → Option Value} {N d : Addr} (hn : h.Ns N m) (nd : h.get? d = none) : d ≠ N := fun q => by
  obtain ⟨o2, es2, ep2, q3, q4⟩ := hn
  rw [q] at nd; rw [nd] at q3; cases q3
theorem Mine.dictLe_keep {h h' : Heap} {m : Str → Option Value} {N : Addr} {k : Nat} (hn : h.Ns N m) (z : h.DictLe N k) (kH : ∀ b o, h.get? b = some o → h'.get? b = some o) : h'.DictLe N k := fun o' es' ep' q1 q2 => by
  obtain ⟨o2, es2, ep2, q3, q4⟩ := hn
  rw [kH _ _ q3] at q1; cases q1
  exact z _ _ _ q3 q2
theorem Mine.vals_keep {h h' : Heap} {m : Str → Option Value} {N : Addr} {P P' : Value → Prop} (hn : h.Ns N m) (z : h.ValsAll N P) (kH : ∀ b o, h.get? b = some o → h'.get? b = some o) (hp : ∀ v, P v → P' v) : h'.ValsAll N P' := by
  have hNs : ∃ o, h.get? N = some o := by obtain ⟨o2, es2, ep2, q3, q4⟩ := hn; exact ⟨o2, q3⟩
  obtain ⟨o2, q3⟩ := hNs
  exact Mine.vals_mono (Mine.vals_same z (by rw [kH _ _ q3, ← q3])) hp
section
variable {α β : Type} {M : Model} {A : Around} {E : Value → Shared → Prop} {s : Shared} {m : Sem α} {f : α → Sem β} {Q : β → Shared → Prop}
theorem Mine.bE {a : α} (e : m = pure a) (h : wpAny M A (f a) Q E s) : wpAny M A (m >>= f) Q E s := wpAny_bind (wpAny_of_eq e h)
theorem Mine.bP {a : α} (h : wpAny M A (f a) Q E s) : wpAny M A (pure a >>= f) Q E s := wpAny_bind (wpAny_pure h)
theorem Mine.bN {a : Addr} {g : Option Value → Sem β} {m : Str → Option Value} {name : Str} {r : Option Value} (hn : s.heap.Ns a m) (e : m name = r) (h : wpAny M A (g r) Q E s) : wpAny M A (nsGet a name >>= g) Q E s := wpAny_bind (Mine.nsGetE hn e h)
theorem Mine.bS {a : Addr} {g : Unit → Sem β} {i : Nat} {v : Option Value} {o o' : Obj} (ho : s.heap.get? a = some o) (hi : i < 100) (ho' : { o with slots := (o.slots ++ Array.replicate (i + 1 - o.slots.size) none).setIfInBounds i v } = o') (hf : o'.isFreed = false)
    (h : ∀ H, H.get? a = some o' → Heap.SameBut a s.heap H → wpAny M A (g ()) Q E { s with heap := H }) : wpAny M A (setSlotAt a i v >>= g) Q E s := wpAny_bind (Mine.setSlot_abs ho hi ho' hf h)
end
set_option maxHeartbeats 800000 in
theorem Mine.tn (prog : Program) (w : World) (A : Around) (s : Shared) (bA nA lA : Addr) (t ot qt : Tok) (veq vhash : Value) (es : Array DictEntry) (e : DictEntry) (ep n ln : Nat) (E : Value → Shared → Prop) (Q : PySem.Fin → Shared → Prop) (ms : Str → Option Value)
   (h1 : s.heap.get? bA = some ⟨.type "tuple", none, .seq #[.type "object"] n, #[]⟩)
   (h2 : s.heap.get? nA = some ⟨.type "dict", none, .dict es ep, #[]⟩) (hsm : (nA == sysModules) = false)
   (h3 : s.heap.get? lA = some (seqObj "list" [Value.str "obj" ot].toArray ln)) (he : es.find? (·.key.isStr "__slots__") = some e) (hv : e.val = .ref lA) (hno : es.any (·.key.isStr "obj") = false)
   (m0 : Str → Option Value) (hk0 : StrKeys es) (hm0 : ∀ name, nsFind es name = m0 name) (hq0 : m0 "__qualname__" = some (.str "cmp_to_key.<locals>.K" qt)) (hd0 : m0 "__doc__" = none) (hd1 : m0 "__new__" = none) (hd2 : m0 "__init_subclass__" = none) (hd3 : m0 "__class_getitem__" = none) (hd4 : m0 "__classcell__" = none) (hd5 : m0 "__classdictcell__" = none) (hdel : es.any (·.key.isStr "__del__") = false) (hob : m0 "obj" = none) (heq : m0 "__eq__" = some veq) (hhash : m0 "__hash__" = some vhash) (hvs : ∀ e ∈ es, Mine.vok s.heap e.val) (hes : es.size ≤ 100) (hmod : es.any (·.key.isStr "__module__") = true)
   (hA : A.handled = none) (hA2 : A.depth + 3 ≤ 800) (hA3 : A.units + 4 ≤ 5000) (hg : s.gens = #[]) (hst : s.heap.Ns cStatics ms) (htp : ms "thirdparty.any" = none)
   (hQ : ∀ a N d dt mf h' tk, h'.Ns N mf → mf "obj" = some (.ref d) → (∀ nm, nm ≠ Str.ofString "obj" → nm ≠ Str.ofString "__doc__" → nm ≠ Str.ofString "__qualname__" → mf nm = m0 nm) → h'.get? d = some { cls := .type "member_descriptor", data := .fields #[.str "obj" dt, .ref a, .builtin "proto.slot", .builtin "proto.slot#set", rawInt 0] } → s.heap.get? a = none → s.heap.get? N = none → (∀ b o, s.heap.get? b = some o → h'.get? b = some o) → h'.get? a = some (Mine.kcls N "cmp_to_key.<locals>.K" [.ref a, .type "object"] #[some (.ref bA), none, some (.str "K" t), some (.str "cmp_to_key.<locals>.K" qt), some (.builtin "object.__new__"), some (.bool false)] false ["obj"]) → Q (PySem.Fin.done (.ret (.ref a))) ⟨h', #[], s.drawn, tk, s.os⟩) : wpAny (model prog w) A (Builtin.«type.__new__» ⟨[.type "type", .str "K" t, .ref bA, .ref nA], []⟩) Q E s := by
  unfold Builtin.«type.__new__»
  refine Mine.bE (m := asStr? _) rfl ?_
  refine wpAny_bind (wpAny_isInstance (T := "tuple") ⟨_, h1, rfl⟩ Mine.st1 ?_)
  refine wpAny_bind (wpAny_isInstance (T := "dict") ⟨_, h2, rfl⟩ Mine.st2 ?_)
  refine wpAny_bind (m := seqItems? _) (wpAny_bind (wpAny_load h1 (wpAny_pure ?_)))
  refine wpAny_bind (m := forIn _ _ _) (Mine.forIn_one (x := Value.type "object") (wpAny_bind (wpAny_of_eq Mine.it1 (wpAny_pure ?_))))
  refine wpAny_bind (m := forIn _ _ _) (Mine.forIn_one (x := Value.type "object") (wpAny_bind (wpAny_of_eq Mine.to1 (wpAny_bind (wpAny_of_eq Mine.st3 (wpAny_pure ?_))))))
  refine wpAny_ite_false rfl ?_
  refine Mine.bE (show Builtin.notOverATurnedClass _ = pure () from Mine.no1) ?_
  refine Mine.bE (show Builtin.extendedBase _ = pure (Value.type "object") from Mine.eb1) ?_
  refine wpAny_ite_false (Mine.dec0 hsm) ?_
  refine wpAny_bind (wpAny_dictEntries h2 rfl ?_)
  refine wpAny_bind (wpAny_specialOf (T := "dict") ⟨_, h2, rfl⟩ Mine.lk1 ?_)
  refine wpAny_ite_true (by simp) (Mine.bP ?_)
  refine wpAny_bind (wpAny_holding (Mine.slots_read prog w A s lA es e ot E _ ln h3 he hv hno fun X kX => ?_))
  refine wpAny_bind (Mine.newObj_abs (show sizeOk (Data.dict es) by size_fits) rfl fun N H1 hN kH1 nN => ?_)
  have hN0 : H1.Ns N m0 := ⟨_, es, 0, hN, rfl, hk0, hm0⟩
  have k1 : ∀ b o, s.heap.get? b = some o → H1.get? b = some o := fun b o e => kH1 b o (kX b o e)
  refine wpAny_ite_false (Mine.dec0 (show (!es.any _) = false by rw [hmod]; rfl)) ?_
  refine wpAny_bind (wpAny_ite_false (by kernel_rfl) (wpAny_pure ?_))
  refine wpAny_ite_false (by kernel_rfl) ?_
  refine Mine.bN hN0 hq0 ?_
  refine Mine.bN hN0 hq0 ?_
  refine Mine.bE (m := asStr? _) rfl ?_
  refine Mine.bP ?_
  refine Mine.bN hN0 hd0 ?_
  refine wpAny_bind (Mine.alloc_abs rfl fun a H2 ha kH2 na => ?_)
  refine wpAny_ite_true rfl ?_
  have sub : ∀ {h h' : Heap} {a b : Addr} {o : Obj}, Heap.SameBut a h h' → b ≠ a → h.get? b = some o → h'.get? b = some o := fun hs hb e => (hs.2 _ hb).trans e
  have haN : N ≠ a := fun q => by rw [q] at hN; rw [hN] at na; cases na
  have ke : ∀ b o, s.heap.get? b = some o → b ≠ a := fun b o e q => by have := k1 b o e; rw [q, na] at this; cases this
  have k2 : ∀ b o, s.heap.get? b = some o → H2.get? b = some o := fun b o e => kH2 b o (k1 b o e)
  have hN2 : H2.Ns N m0 := hN0.keeps fun b o e => kH2 b o e
  replace ha : H2.get? a = some (Mine.kcls N "cmp_to_key.<locals>.K" [] #[] true []) := ha
  refine Mine.bS (o' := Mine.kcls N "cmp_to_key.<locals>.K" [] #[some (.ref bA)] true []) ha (by decide) rfl rfl fun H3 ha3 s3 => ?_
  refine Mine.bS (o' := Mine.kcls N "cmp_to_key.<locals>.K" [] #[some (.ref bA), none, some (.str "K" t)] true []) ha3 (by decide) rfl rfl fun H4 ha4 s4 => ?_
  refine Mine.bS (o' := Mine.kcls N "cmp_to_key.<locals>.K" [] #[some (.ref bA), none, some (.str "K" t), some (.str "cmp_to_key.<locals>.K" qt)] true []) ha4 (by decide) rfl rfl fun H5 ha5 s5 => ?_
  have k5 : ∀ b o, s.heap.get? b = some o → H5.get? b = some o := fun b o e => sub s5 (ke b o e) (sub s4 (ke b o e) (sub s3 (ke b o e) (k2 b o e)))
  have hN5 : H5.Ns N m0 := ((hN2.sameBut s3 haN).sameBut s4 haN).sameBut s5 haN
  have nN' : ∀ b o, s.heap.get? b = some o → b ≠ N := fun b o e q => by have := kX b o e; rw [q, nN] at this; cases this
  have z5 : H5.DictLe N 100 := fun o' es' ep' q1 q2 => by
    rw [sub s5 haN (sub s4 haN (sub s3 haN (kH2 _ _ hN)))] at q1
    cases q1; cases q2; exact hes
  have V5 : H5.ValsAll N (Mine.vok s.heap) := fun o' es' ep' q1 q2 => by
    rw [sub s5 haN (sub s4 haN (sub s3 haN (kH2 _ _ hN)))] at q1
    cases q1; cases q2; exact hvs
  refine wpAny_bind (Mine.nsDel_le hN5 z5 V5 fun bq H6 vq hN6 s6 z6 V6 => ?_)
  have k6 : ∀ b o, s.heap.get? b = some o → H6.get? b = some o := fun b o e => sub s6 (nN' b o e) (k5 b o e)
  have ha6 := sub s6 (Ne.symm haN) ha5
  refine Mine.bN hN6 ((if_neg (by decide)).trans hd1) ?_
  refine wpAny_bind (m := forIn _ _ _) (Mine.forIn_next ?_)
  refine Mine.bN hN6 ((if_neg (by decide)).trans hd2) ?_
  refine wpAny_pure (Mine.forIn_one ?_)
  refine Mine.bN hN6 ((if_neg (by decide)).trans hd3) ?_
  refine wpAny_pure ?_
  refine Mine.bN hN6 ((if_neg (by decide)).trans hd4) ?_
  refine Mine.bN hN6 ((if_neg (by decide)).trans hd5) ?_
  refine Mine.bE Mine.mh1 ?_
  refine Mine.bE (show Builtin.linearize _ mroOf = _ from Mine.ln1) ?_
  refine Mine.bP ?_
  refine Mine.bE (a := false) (by rw [Mine.hfl]; kernel_rfl) ?_
  refine wpAny_bind (Mine.updateCls_abs (o' := Mine.kcls N "cmp_to_key.<locals>.K" [.ref a, .type "object"] #[some (.ref bA), none, some (.str "K" t), some (.str "cmp_to_key.<locals>.K" qt)] true []) ha6 rfl (by
    show Obj.mk _ _ _ _ = _
    dsimp only
    rw [hdel]
    rfl) rfl rfl fun H7 ha7 s7 => ?_)
  refine Mine.bE Mine.mb1 ?_
  refine Mine.bS (o' := Mine.kcls N "cmp_to_key.<locals>.K" [.ref a, .type "object"] #[some (.ref bA), none, some (.str "K" t), some (.str "cmp_to_key.<locals>.K" qt), some (.builtin "object.__new__")] true []) ha7 (by decide) rfl rfl fun H8 ha8 s8 => ?_
  have k8 : ∀ b o, s.heap.get? b = some o → H8.get? b = some o := fun b o e => sub s8 (ke b o e) (sub s7 (ke b o e) (k6 b o e))
  have hN8 := (hN6.sameBut s7 haN).sameBut s8 haN
  refine wpAny_bind (m := Bind.refreshMaker a) ?_
  unfold Bind.refreshMaker
  refine wpAny_bind (Mine.slotAt_abs ha8 ?_)
  refine wpAny_ite_false rfl ?_
  refine wpAny_bind (Mine.k_lookupN ha8 hN8 ((if_neg (by decide)).trans hd1) Mine.bo1 ?_)
  refine wpAny_ite_false (by kernel_rfl) (wpAny_pure ?_)
  refine wpAny_bind (m := Builtin.Slots.install _ _ _ _) ?_
  unfold Builtin.Slots.install
  dsimp only
  have z8 : H8.DictLe N 100 := (z6.sameBut s7 haN).sameBut s8 haN
  refine wpAny_bind (m := forIn _ _ _) (Mine.forIn_one (x := Str.ofString "obj") ?_)
  refine Mine.bN hN8 ((if_neg (by decide)).trans hob) ?_
  refine wpAny_ite_true rfl ?_
  refine wpAny_bind (wpAny_mkStr ?_)
  refine wpAny_bind (m := newFields _ _) (Mine.newObj_abs (by size_fits) rfl fun d H9 hd9 kH9 nd => ?_)
  have hN9 := hN8.keeps kH9
  have z9 : H9.DictLe N 100 := Mine.dictLe_keep hN8 z8 kH9
  have V9 : H9.ValsAll N (fun v => Mine.vok s.heap v ∨ v = .ref d) := Mine.vals_keep hN8 (Mine.vals_same V6 ((s8.2 _ haN).trans (s7.2 _ haN))) kH9 fun v h => .inl h
  refine wpAny_bind (Mine.nsSetByValue_abs hN9 z9 (by decide) V9 (.inr rfl) fun H10 hN10 s10 V10 => ?_)
  refine wpAny_pure ?_
  refine wpAny_bind (m := forIn _ _ _) (Mine.forIn_one (x := Value.type "object") (wpAny_bind (wpAny_of_eq Mine.sr3 (wpAny_pure ?_))))
  refine wpAny_ite_false (by kernel_rfl) ?_
  have ha10 := sub s10 (Ne.symm haN) (kH9 _ _ ha8)
  refine Mine.updateCls_abs (o' := Mine.kcls N "cmp_to_key.<locals>.K" [.ref a, .type "object"] #[some (.ref bA), none, some (.str "K" t), some (.str "cmp_to_key.<locals>.K" qt), some (.builtin "object.__new__")] false ["obj"]) ha10 rfl rfl rfl rfl fun H11 ha11 s11 => ?_
  refine Mine.bE Mine.sr4 ?_
  refine Mine.bS (o' := Mine.kcls N "cmp_to_key.<locals>.K" [.ref a, .type "object"] #[some (.ref bA), none, some (.str "K" t), some (.str "cmp_to_key.<locals>.K" qt), some (.builtin "object.__new__"), some (.bool false)] false ["obj"]) ha11 (by decide) rfl rfl fun H12 ha12 s12 => ?_
  have hN12 := (hN10.sameBut s11 haN).sameBut s12 haN
  have k12 : ∀ b o, s.heap.get? b = some o → H12.get? b = some o := fun b o e => sub s12 (ke b o e) (sub s11 (ke b o e) (sub s10 (nN' b o e) (kH9 b o (k8 b o e))))
  refine Mine.bN hN12 ((if_neg (by decide)).trans ((if_neg (by decide)).trans hd0)) ?_
  refine wpAny_ite_true rfl ?_
  have V12 : H12.ValsAll N (fun v => Mine.vok s.heap v ∨ v = .ref d) := Mine.vals_same V10 (by rw [s12.2 _ haN, s11.2 _ haN])
  refine wpAny_bind (wpAny_nsSetV hN12 V12 (.inl (.inr (.inr (.inl rfl)))) fun H13 hN13 s13 V13 => ?_)
  have k13 : ∀ b o, s.heap.get? b = some o → H13.get? b = some o := fun b o e => sub s13 (nN' b o e) (k12 b o e)
  have ha13 := sub s13 (Ne.symm haN) ha12
  refine Mine.bN hN13 ((if_neg (by decide)).trans ((if_neg (by decide)).trans ((if_neg (by decide)).trans heq))) ?_
  refine wpAny_ite_true rfl ?_
  refine Mine.bN hN13 ((if_neg (by decide)).trans ((if_neg (by decide)).trans ((if_neg (by decide)).trans hhash))) ?_
  refine wpAny_ite_false rfl ?_
  refine wpAny_bind (m := forIn _ _ _) (Mine.forIn_one (x := Value.type "object") ?_)
  refine wpAny_bind (wpAny_of_eq (Mine.ns1 a) (wpAny_pure ?_))
  have hdN : d ≠ N := Mine.notAt hN8 nd
  have hda : d ≠ a := fun q => by rw [q] at nd; rw [nd] at ha8; cases ha8
  have hd13 : H13.get? d = _ := sub s13 hdN (sub s12 hda (sub s11 hda (sub s10 hdN hd9)))
  have W13 : H13.ValsAll N (Mine.vok H13) := Mine.vals_mono V13 fun v h => by
    rcases h with h | rfl
    · exact h.mono k13
    · exact .inr (.inr (.inr ⟨d, _, "member_descriptor", rfl, hd13, rfl, Mine.sn4⟩))
  refine wpAny_bind (wpAny_tryCatch ?_)
  refine wpAny_holding ?_
  refine Classical.byContradiction fun hG => ?_
  obtain ⟨oN, eN, pN, q1, q2, q3, q4⟩ := id hN13
  refine hG ?_
  clear hG
  have q5 := W13 oN eN pN q1 q2
  refine wpAny_bind (wpAny_dictEntries q1 q2 ?_)
  refine wpAny_bind (m := forIn _ _ _) (Mine.forIn_arr (fun x hx => ?_) ?_)
  · obtain ⟨kn, kt, hkk⟩ := q3 x hx
    rw [hkk]
    exact wpAny_bind (m := asStr? _) (wpAny_pure (wpAny_ite_false rfl (wpAny_pure ⟨rfl, rfl⟩)))
  refine wpAny_ite_false rfl ?_
  refine wpAny_bind (wpAny_dictEntries q1 q2 ?_)
  refine wpAny_bind (m := forIn _ _ _) (Mine.forIn_arr (fun x hx => ?_) ?_)
  · refine wpAny_ite_false (Mine.dec0 (Mine.vok_held (q5 x hx) _)) ?_
    exact wpAny_bind (Mine.vok_special (q5 x hx) (wpAny_pure ⟨rfl, rfl⟩))
  refine wpAny_bind (Mine.wp_room hA (by lia) (by lia) (Mine.sup1 prog w ⟨H13, _, _, _, _⟩ (by exact hg) a N _ _ _ _ (by exact ha13) fun sp h' tk j1 j2 j3 => ?_))
  refine wpAny_bind (wpAny_holding (Mine.super_attr j2 (j1 _ _ ha13) hA (by lia) (by lia) rfl (fun mo h2 tk2 u1 u2 => ?_) (hst.keeps fun b o e => j1 b o (k13 b o e)) htp))
  refine wpAny_bind (Mine.wp_room hA (by lia) (by lia) (Mine.isc prog w ⟨h2, _, _, _, _⟩ rfl a N _ _ mo bA t qt (by exact u1 _ _ (j1 _ _ ha13)) (by exact u2) fun h3 tk3 v1 => ?_))
  refine wpAny_pure ?_
  exact wpAny_pure (hQ a N d _ _ h3 tk3 (hN13.keeps fun b o e => v1 _ _ (u1 _ _ (j1 _ _ e))) (by rw [if_neg (by decide), if_pos rfl]) (fun nm e1 e2 e3 => by rw [if_neg e2, if_neg e1, if_neg e3]) (by exact v1 _ _ (u1 _ _ (j1 _ _ hd13))) (Option.eq_none_iff_forall_ne_some.2 fun o e => ke _ _ e rfl) (Option.eq_none_iff_forall_ne_some.2 fun o e => nN' _ _ e rfl) (fun b o e => v1 _ _ (u1 _ _ (j1 _ _ (k13 _ _ e)))) (v1 _ _ (u1 _ _ (j1 _ _ ha13))))
end

section
open PySem PySem.W PySem.W.X PyProof.Rows PySem.Spec PySem.Calls
set_option Elab.async false
set_option maxRecDepth 100000
set_option hygiene false in
local macro_rules | `(tactic| x_close) => `(tactic| first | exact hQ _ _ (Mine.mem_all (by assumption)) | exact hQ _ _ (fun _ _ e => e))
set_option maxHeartbeats 8000000 in
theorem Mine.tinit (prog : Program) (w : World) (s : Shared) (hg : s.gens = #[]) (k n bA nA : Addr) (sl : Array (Option Value)) (t : Tok) (E Q : Value → Shared → Prop)
   (h2 : s.heap.get? k = some ⟨.type "type", none, .cls { name := "K", bases := [.type "object"], mro := [.ref k, .type "object"], ns := n, qualname := "cmp_to_key.<locals>.K", hasDict := false, slotNames := ["obj"] }, sl⟩)
   (hQ : ∀ h' tk, (∀ b o, s.heap.get? b = some o → h'.get? b = some o) → Q .none ⟨h', #[], s.drawn, tk, s.os⟩) :
   wpAny (model prog w) Mine.A0 (call (.builtin "type.__init__") [.ref k, .str "K" t, .ref bA, .ref nA]) Q E s := by
  x_run
theorem Mine.mb0 : Bind.madeBy (.type "type") = pure (some "type.__new__") := by kernel_rfl
theorem Mine.mr0 : mroOf (.type "type") = pure [.type "type", .type "object"] := by kernel_rfl
theorem Mine.te : entryFor table "type.__new__" = some Builtin.«type.__new__» := entryFor_of_tree (by kernel_rfl)
theorem Mine.cb0 (t : Tok) (bA nA : Addr) : checkBuiltinCall "type.__new__" ⟨[.type "type", .str "K" t, .ref bA, .ref nA], []⟩ = pure () := by kernel_rfl
theorem Mine.tcall (prog : Program) (w : World) (A : Around) (s : Shared) (bA nA : Addr) (t : Tok) (E Q : Value → Shared → Prop)
   (hn : wpAny (model prog w) A.in1.in1 (Builtin.«type.__new__» ⟨[.type "type", .str "K" t, .ref bA, .ref nA], []⟩) (fun f s' => ∃ v, f = .done (.ret v) ∧ s'.TypeIs v "type" ∧ wpAny (model prog w) A.in1 (call (.builtin "type.__init__") [v, .str "K" t, .ref bA, .ref nA]) (fun r s2 => r = .none ∧ Q v s2) E s') E s) :
   wpAny (model prog w) A (call (.type "type") [.str "K" t, .ref bA, .ref nA]) Q E s := by
  refine wpAny_call (codeAny_of_tree ?_)
  show wpAny _ _ (callAny (.type "type") _) _ _ _
  refine wpAny_pure ⟨Code.quiet_builtin _ (by decide +kernel), codeAny_builtin F.entry_type_call ?_⟩
  rw [Around.under_plain (weight_type_call_type _ _ []) (units_type_call_type _ _ [])]
  unfold Builtin.«type.__call__»
  refine wpAny_ite_true rfl ?_
  refine wpAny_ite_false rfl ?_
  refine wpAny_ite_false rfl ?_
  refine wpAny_ite_false (by decide +kernel) ?_
  refine wpAny_bind (wpAny_of_eq (a := ()) (by kernel_rfl) ?_)
  refine wpAny_bind (wpAny_of_eq Mine.mr0 ?_)
  refine wpAny_ite_false rfl ?_
  refine wpAny_bind (wpAny_of_eq Mine.mb0 (wpAny_bind (wpAny_pure ?_)))
  refine wpAny_bind (wpAny_holding (wpAny_call (codeAny_call_builtin (by decide +kernel) Mine.te (wpAny_of_eq (Mine.cb0 t bA nA) ?_))))
  refine wpAny_mono hn (fun f s1 hf => ?_) fun _ _ z => ?_
  · obtain ⟨v, rfl, hT, hi⟩ := hf
    refine wpAny_bind (wpAny_isInstance (b := true) hT (by rw [isSubtype_type]; kernel_rfl) (wpAny_ite_false rfl ?_))
    refine wpAny_bind (wpAny_holding (wpAny_callSpecial?_slot (id := "type.__init__") hT (.of (owner := "type") (n := "__init__") (by rw [typeLookup_type, builtinLookup_eq_fast]; kernel_rfl) (by decide +kernel) (by decide +kernel) (by decide +kernel) (by first | exact .inl (by decide +kernel) | exact .inr (by decide +kernel)) (by rw [isSubtype_type]; kernel_rfl)) ?_))
    refine wpAny_mono hi (fun r s2 hr => ?_) fun _ _ z => z
    obtain ⟨rfl, hq⟩ := hr
    exact wpAny_ite_false rfl (wpAny_pure hq)
  · exact z
end

section
open PySem PySem.W PySem.W.X PyProof.Rows PySem.Spec PySem.Calls
set_option Elab.async false
set_option maxRecDepth 100000
theorem Mine.mkK (prog : Program) (w : World) (A : Around) (s : Shared) (bA nA lA : Addr) (t ot qt : Tok) (veq vhash : Value) (es : Array DictEntry) (e : DictEntry) (ep n ln : Nat) (E : Value → Shared → Prop) (Q : Value → Shared → Prop) (ms : Str → Option Value)
   (h1 : s.heap.get? bA = some ⟨.type "tuple", none, .seq #[.type "object"] n, #[]⟩)
   (h2 : s.heap.get? nA = some ⟨.type "dict", none, .dict es ep, #[]⟩) (hsm : (nA == sysModules) = false)
   (h3 : s.heap.get? lA = some (seqObj "list" [Value.str "obj" ot].toArray ln)) (he : es.find? (·.key.isStr "__slots__") = some e) (hv : e.val = .ref lA) (hno : es.any (·.key.isStr "obj") = false)
   (m0 : Str → Option Value) (hk0 : StrKeys es) (hm0 : ∀ name, nsFind es name = m0 name) (hq0 : m0 "__qualname__" = some (.str "cmp_to_key.<locals>.K" qt)) (hd0 : m0 "__doc__" = none) (hd1 : m0 "__new__" = none) (hd2 : m0 "__init_subclass__" = none) (hd3 : m0 "__class_getitem__" = none) (hd4 : m0 "__classcell__" = none) (hd5 : m0 "__classdictcell__" = none) (hdel : es.any (·.key.isStr "__del__") = false) (hob : m0 "obj" = none) (heq : m0 "__eq__" = some veq) (hhash : m0 "__hash__" = some vhash) (hvs : ∀ e ∈ es, Mine.vok s.heap e.val) (hes : es.size ≤ 100) (hmod : es.any (·.key.isStr "__module__") = true)
   (hA : A.handled = none) (hA2 : A.depth + 6 ≤ 800) (hA3 : A.units + 8 ≤ 5000) (hg : s.gens = #[]) (hst : s.heap.Ns cStatics ms) (htp : ms "thirdparty.any" = none)
   (hQ : ∀ a N d dt mf h' tk, (h'.Ns N mf) → mf "obj" = some (.ref d) → (∀ nm, nm ≠ Str.ofString "obj" → nm ≠ Str.ofString "__doc__" → nm ≠ Str.ofString "__qualname__" → mf nm = m0 nm) → h'.get? d = some { cls := .type "member_descriptor", data := .fields #[.str "obj" dt, .ref a, .builtin "proto.slot", .builtin "proto.slot#set", rawInt 0] } → s.heap.get? a = none → s.heap.get? N = none → (∀ b o, s.heap.get? b = some o → h'.get? b = some o) → h'.get? a = some (Mine.kcls N "cmp_to_key.<locals>.K" [.ref a, .type "object"] #[some (.ref bA), none, some (.str "K" t), some (.str "cmp_to_key.<locals>.K" qt), some (.builtin "object.__new__"), some (.bool false)] false ["obj"]) → Q (.ref a) ⟨h', #[], s.drawn, tk, s.os⟩) : wpAny (model prog w) A (call (.type "type") [.str "K" t, .ref bA, .ref nA]) Q E s :=
  Mine.tcall prog w A s bA nA t E Q (Mine.tn prog w A.in1.in1 s bA nA lA t ot qt veq vhash es e ep n ln E _ ms h1 h2 hsm h3 he hv hno m0 hk0 hm0 hq0 hd0 hd1 hd2 hd3 hd4 hd5 hdel hob heq hhash hvs hes hmod
    hA (by simp only [Around.in1]; lia) (by simp only [Around.in1]; lia) hg hst htp
    fun a N d dt mf h' tk x1 x2 x3 x4 x5 x5' x6 x7 => ⟨_, rfl, ⟨_, x7, rfl⟩,
      Mine.wp_room (A := A.in1) hA (by simp only [Around.in1]; lia) (by simp only [Around.in1]; lia) (Mine.tinit prog w _ rfl a N bA nA _ t E _ x7 fun h2 tk2 k => ⟨rfl, hQ a N d dt mf h2 tk2 (x1.keeps k) x2 x3 (k _ _ x4) x5 x5' (fun b o e => k _ _ (x6 b o e)) (k _ _ x7)⟩)⟩)
end

section
open PySem PySem.W PySem.W.X PyProof.Rows PySem.Spec PySem.Calls
set_option Elab.async false
set_option maxRecDepth 100000
set_option hygiene false in
local macro_rules | `(tactic| x_close) => `(tactic| first | exact hQ _ _ _ (Mine.mem_all (by assumption)) (Mine.mem_head (by assumption)))
set_option hygiene false in
local macro_rules | `(tactic| x_close) => `(tactic| first | exact hR _ _ _ (Mine.mem_all (by assumption)) (Mine.mem_head (by assumption)) (Mine.mem_new (by assumption)))
set_option maxHeartbeats 8000000 in
theorem Mine.prepC (prog : Program) (w : World) (s : Shared) (hg : s.gens = #[]) (mo bA : Addr) (kt : Tok) (n : Nat) (E Q : Value → Shared → Prop)
   (h1 : s.heap.get? bA = some ⟨.type "tuple", none, .seq #[.type "object"] n, #[]⟩)
   (h3 : s.heap.get? mo = some ⟨.type "builtin_function_or_method", none, .fields #[.builtin "type.__prepare__", .type "type"], #[]⟩)
   (hR : ∀ d h' tk, (∀ b o, s.heap.get? b = some o → h'.get? b = some o) → h'.get? d = some ⟨.type "dict", none, .dict #[] 0, #[]⟩ → s.heap.get? d = none → Q (.ref d) ⟨h', #[], s.drawn, tk, s.os⟩) :
   wpAny (model prog w) Mine.A0 (call (.ref mo) [.str "K" kt, .ref bA]) Q E s := by
  x_run
set_option hygiene false in
local macro_rules | `(tactic| x_close) => `(tactic| first | exact hS _ _ _ (Mine.mem_all (by assumption)) (Mine.mem_head (by assumption)))
set_option maxHeartbeats 8000000 in
theorem Mine.prepG (prog : Program) (w : World) (s : Shared) (hg : s.gens = #[]) (t : Tok) (E Q : Value → Shared → Prop)
   (hS : ∀ mo h' tk, (∀ b o, s.heap.get? b = some o → h'.get? b = some o) → h'.get? mo = some { cls := .type "builtin_function_or_method", data := .fields #[.builtin "type.__prepare__", .type "type"] } → Q (.ref mo) ⟨h', #[], s.drawn, tk, s.os⟩) :
   wpAny (model prog w) Mine.A0 (call (.builtin "type.__getattribute__") [.type "type", .str "__prepare__" t]) Q E s := by
  x_run
end

section
open PySem PySem.W PySem.W.X PyProof.Rows PySem.Spec PySem.Calls
set_option Elab.async false
set_option maxRecDepth 100000
theorem Mine.pa1 : typeOf (.type "type") = pure (.type "type") := by kernel_rfl
theorem Mine.pa2 : typeLookup (.type "type") "__getattribute__" = pure (some (.builtin "type.__getattribute__")) := by rw [typeLookup_type, builtinLookup_eq_fast]; kernel_rfl
theorem Mine.pa4 : typeOf (.builtin "type.__getattribute__") = pure (.type "wrapper_descriptor") := by show builtinType _ = _; rw [builtinType_eq_fast]; kernel_rfl
theorem Mine.pa3 : bindSpecial (.builtin "type.__getattribute__") (.type "type") = pure (.builtin "type.__getattribute__", [.type "type"]) := by
  unfold bindSpecial; rw [Mine.pa4]; rfl
theorem Mine.prep_attr {prog : Program} {w : World} {A : Around} {s : Shared} {E : Value → Shared → Prop} {Q : Option Value → Shared → Prop}
    (hA : A.handled = none) (hA2 : A.depth ≤ 800) (hA3 : A.units + 1 ≤ 5000) (hg : s.gens = #[])
    (hQ : ∀ mo h' tk, (∀ b o, s.heap.get? b = some o → h'.get? b = some o) → h'.get? mo = some { cls := .type "builtin_function_or_method", data := .fields #[.builtin "type.__prepare__", .type "type"] } → Q (some (.ref mo)) ⟨h', #[], s.drawn, tk, s.os⟩)
    : wpAny (model prog w) A (getAttr? (.type "type") "__prepare__") Q E s := by
  unfold getAttr? getAttrBy? getAttrBy
  refine wpAny_bind (wpAny_mkText (wpAny_bind (wpAny_attempt (wpAny_holding (wpAny_bind (wpAny_of_eq Mine.pa1 (wpAny_bind (wpAny_of_eq Mine.pa2 ?_))))))))
  refine wpAny_ite_false rfl ?_
  unfold getAttrByItsOwn hookBefore callGetattribute boundAndCalled
  refine wpAny_bind (wpAny_ite_false rfl (wpAny_pure ?_))
  refine wpAny_bind (wpAny_attempt (wpAny_holding ?_))
  refine wpAny_ite_false rfl ?_
  refine wpAny_bind (wpAny_of_eq Mine.pa3 ?_)
  refine Mine.wp_room hA hA2 (by lia) (Mine.prepG prog w ⟨s.heap, s.gens, s.drawn, s.toks + 1, s.os⟩ hg _ _ _ fun mo h' tk k1 k2 => ?_)
  exact wpAny_pure (wpAny_pure (hQ mo h' tk k1 k2))
end

section
open PySem PySem.W PySem.W.X PyProof.Rows PySem.Spec PySem.Calls
set_option Elab.async false
set_option maxRecDepth 100000
noncomputable def Mine.Bd (h : Heap) (a : Addr) (m : Str → Option Value) (k : Nat) : Prop :=
  ∃ es ep, h.get? a = some ⟨.type "dict", none, .dict es ep, #[]⟩ ∧ StrKeys es ∧ (∀ x, nsFind es x = m x) ∧ es.size ≤ k ∧ ∀ e ∈ es, Mine.vok h e.val
theorem Mine.Bd.ns {h : Heap} {a : Addr} {m : Str → Option Value} {k : Nat} (x : Mine.Bd h a m k) : h.Ns a m := by
  obtain ⟨es, ep, h1, h2, h3, _⟩ := x
  exact ⟨_, es, ep, h1, rfl, h2, h3⟩
theorem Mine.Bd.keeps {h h' : Heap} {a : Addr} {m : Str → Option Value} {k : Nat} (x : Mine.Bd h a m k) (hk : ∀ b o, h.get? b = some o → h'.get? b = some o) : Mine.Bd h' a m k := by
  obtain ⟨es, ep, h1, h2, h3, h4, h5⟩ := x
  exact ⟨es, ep, hk _ _ h1, h2, h3, h4, fun e he => (h5 e he).mono hk⟩
noncomputable def Mine.up (m : Str → Option Value) (n : Str) (v : Value) : Str → Option Value := fun x => if x = n then some v else m x
theorem Mine.vok.but {h h' : Heap} {v : Value} {P : Addr} (x : Mine.vok h v) (hk : ∀ b o, b ≠ P → h.get? b = some o → h'.get? b = some o) (hP : ∀ o T, h.get? P = some o → o.cls ≠ .type T) : Mine.vok h' v := by
  rcases x with x | x | x | ⟨b, o, T, e1, e2, e3, e4⟩
  · exact .inl x
  · exact .inr (.inl x)
  · exact .inr (.inr (.inl x))
  · exact .inr (.inr (.inr ⟨b, o, T, e1, hk _ _ (fun q => hP o T (q ▸ e2) e3) e2, e3, e4⟩))
theorem Mine.Bd.but {h h' : Heap} {a : Addr} {m : Str → Option Value} {k : Nat} {P : Addr} (x : Mine.Bd h a m k) (hk : ∀ b o, b ≠ P → h.get? b = some o → h'.get? b = some o) (hP : ∀ o T, h.get? P = some o → o.cls ≠ .type T) : Mine.Bd h' a m k := by
  obtain ⟨es, ep, h1, h2, h3, h4, h5⟩ := x
  exact ⟨es, ep, hk _ _ (fun q => hP _ "dict" (q ▸ h1) rfl) h1, h2, h3, h4, fun e he => (h5 e he).but hk hP⟩
theorem Mine.vok.same {h h' : Heap} {v : Value} {a : Addr} (x : Mine.vok h v) (hs : Heap.SameBut a h h') (hl : ∃ o o', h.get? a = some o ∧ h'.get? a = some o' ∧ o'.cls = o.cls) : Mine.vok h' v := by
  rcases x with x | x | x | ⟨b, o, T, e1, e2, e3, e4⟩
  · exact .inl x
  · exact .inr (.inl x)
  · exact .inr (.inr (.inl x))
  · by_cases hb : b = a
    · subst hb
      obtain ⟨o1, o2, q1, q2, q3⟩ := hl
      rw [q1] at e2; cases e2
      exact .inr (.inr (.inr ⟨_, o2, T, e1, q2, q3.trans e3, e4⟩))
    · exact .inr (.inr (.inr ⟨b, o, T, e1, (hs.2 b hb).trans e2, e3, e4⟩))
section
open Sem (wp)
theorem Mine.wp_bd (M : Model) (Γ : PySem.Ctx) (E : Value → Pos → Shared → Prop) (p : Pos) (s : Shared) {a : Addr} {m : Str → Option Value} {k : Nat} {name : Str} {v : Value} {Q : Unit → Pos → Shared → Prop} (hb : Mine.Bd s.heap a m k) (hv : Mine.vok s.heap v)
    (h : ∀ h', Mine.Bd h' a (Mine.up m name v) (k + 1) → Heap.SameBut a s.heap h' → Q () p { s with heap := h', toks := s.toks + 1 }) : wp M Γ (nsSet a name v) Q E p s := by
  obtain ⟨es, ep, ho, hk, hm, hz, hV⟩ := hb
  simp only [nsSet, strHash, Sem.wp_bind', Sem.wp_cmd_ask, Sem.wp_pure', Sem.wp_cmd_mkText]
  rw [Sem.wp_loadPart_of M Γ E p { s with toks := s.toks + 1 } (o := _) _ ho]
  have hany : es.any (·.refKey) = false := by
    rw [Array.any_eq_false']; intro e he; obtain ⟨n, t, h⟩ := hk e he; simp [DictEntry.refKey, h]
  simp only [aRefKeyMayBeTheName_eq, aRefKeyMayBeTheNameByArray, hany, Bool.and_false, Bool.false_eq_true, if_false, Sem.wp_cmd_updatePart]
  refine ⟨by rw [ho]; rfl, h _ ?_ (Heap.SameBut.update ..)⟩
  cases hi : es.findIdx? (·.key.isStr name) with
  | some i =>
    have hg : ∀ (hh : Int) (key : Value), (s.heap.update a (Obj.putName name hh key v)).get? a = some ⟨.type "dict", none, .dict (es.modify i fun e => { e with val := v }) ep, #[]⟩ := fun hh key => (Heap.get?_update_self (h := s.heap) (Obj.putName name hh key v) ho (by simp only [Obj.putName_eq, Obj.putNameByArray, hi]; rfl)).trans (by simp only [Obj.putName_eq, Obj.putNameByArray, hi])
    have hs := fun (hh : Int) (key : Value) => Heap.SameBut.update s.heap a (Obj.putName name hh key v)
    refine ⟨_, ep, hg _ _, hk.modify _ _, fun x => ?_, by simp; lia, fun e he => ?_⟩
    · show _ = if x = name then some v else m x
      rw [← hm]; exact findBy_modify (fun n v => v.isStr n) Value.isStr_inj es name x v i hi
    · refine Mine.vok.same ?_ (hs _ _) ⟨_, _, ho, hg _ _, rfl⟩
      obtain ⟨j, hj, rfl⟩ := Array.mem_iff_getElem.mp he
      rw [Array.getElem_modify]
      split
      · exact hv
      · exact hV _ (Array.getElem_mem _)
  | none =>
    have hg : ∀ (hh : Int) (key : Value), (s.heap.update a (Obj.putName name hh key v)).get? a = some ⟨.type "dict", none, .dict (es.push ⟨hh, key, v⟩) (ep + 1), #[]⟩ := fun hh key => (Heap.get?_update_self (h := s.heap) (Obj.putName name hh key v) ho (by simp only [Obj.putName_eq, Obj.putNameByArray, hi]; rfl)).trans (by simp only [Obj.putName_eq, Obj.putNameByArray, hi])
    have hs := fun (hh : Int) (key : Value) => Heap.SameBut.update s.heap a (Obj.putName name hh key v)
    refine ⟨_, ep + 1, hg _ _, hk.push _ _ _ _, fun x => ?_, by simp; lia, fun e he => ?_⟩
    · show _ = if x = name then some v else m x
      rw [← hm]
      exact findBy_push (fun n v => v.isStr n) es name x _ _ v (fun y => by
        show (name == y) = decide (y = name)
        by_cases h : y = name
        · subst h; simp
        · have : ¬ name = y := fun e => h e.symm
          simp [h, this]) hi
    · refine Mine.vok.same ?_ (hs _ _) ⟨_, _, ho, hg _ _, rfl⟩
      rcases Array.mem_push.mp he with he | rfl
      · exact hV e he
      · exact hv
theorem Mine.bd_set {M : Model} {A : Around} {E : Value → Shared → Prop} {s : Shared} {a : Addr} {m : Str → Option Value} {k : Nat} {name : Str} {v : Value} {Q : Unit → Shared → Prop} (hb : Mine.Bd s.heap a m k) (hv : Mine.vok s.heap v)
    (h : ∀ h', Mine.Bd h' a (Mine.up m name v) (k + 1) → Heap.SameBut a s.heap h' → Q () { s with heap := h', toks := s.toks + 1 }) : wpAny M A (nsSet a name v) Q E s :=
  fun Γ p _ => Mine.wp_bd M Γ _ p s hb hv h
end
end

section
open PySem PySem.W PySem.W.X PyProof.Rows PySem.Spec PySem.Calls
set_option Elab.async false
set_option maxRecDepth 100000
theorem Mine.sn5 : typeLookup (.type "function") "__set_name__" = pure none := by rw [typeLookup_type, builtinLookup_eq_fast]; kernel_rfl
theorem Mine.sn6 : typeLookup (.type "list") "__set_name__" = pure none := by rw [typeLookup_type, builtinLookup_eq_fast]; kernel_rfl
theorem Mine.sn7 : typeLookup (.type "tuple") "__set_name__" = pure none := by rw [typeLookup_type, builtinLookup_eq_fast]; kernel_rfl
structure Mine.CB0 (mg : Str → Option Value) (h0 : Heap) (nA P c : Addr) : Prop where
  g : h0.Ns mainGlobals mg
  bm : ∃ bm o, mg "__builtins__" = some (.ref bm) ∧ bm ≠ builtinsNs ∧ bm ≠ mainGlobals ∧ h0.get? bm = some o ∧ o.cls = .type "module" ∧ o.dict = some builtinsNs ∧ o.data = .plain
  hd : CodeHd h0 c P
  n1 : mainGlobals ≠ nA
  n2 : mainGlobals ≠ P
  n3 : c ≠ nA
  n4 : nA ≠ P
  dA : ∃ o, h0.get? nA = some o ∧ o.cls = .type "dict"
  dP : ∃ o, h0.get? P = some o ∧ o.cls = .none
structure Mine.CodeK (h : Heap) (nA P : Addr) (v : Value) (q : Str) : Prop where
  ex : ∃ c, v = .ref c ∧ c ≠ nA ∧ c ≠ P
  rc : h.CodeRec v q
noncomputable def Mine.NewC (h0 : Heap) (P : Addr) (v : Value) : Prop := ∀ c, v = .ref c → h0.get? c = none ∨ ∃ ps0 pos0, h0.get? P = some (tabObj ps0) ∧ codeAmong pos0 ps0.toList = some v
structure Mine.CB (h0 : Heap) (nA P : Addr) (qf : Nat → Str) (m : Str → Option Value) (k : Nat) (h : Heap) : Prop where
  keep : ∀ b o, b ≠ nA → b ≠ P → h0.get? b = some o → h.get? b = some o
  bd : Mine.Bd h nA m k
  tab : ∃ ps, h.get? P = some (tabObj ps) ∧ TriplesOk ps.toList ∧ ∀ pos v, codeAmong pos ps.toList = some v → Mine.CodeK h nA P v (qf pos.line) ∧ Mine.NewC h0 P v
noncomputable def Mine.Kp (nA P : Addr) (h h' : Heap) : Prop := ∀ b o, b ≠ nA → b ≠ P → h.get? b = some o → h'.get? b = some o
theorem Mine.CodeK.kp {h h' : Heap} {nA P : Addr} {v : Value} {q : Str} (x : Mine.CodeK h nA P v q) (hk : Mine.Kp nA P h h') : Mine.CodeK h' nA P v q := by
  obtain ⟨⟨c, e1, e2, e3⟩, c', o, vs, t, e4, e5, e6⟩ := x
  rw [e1] at e4; cases e4
  exact ⟨⟨c, e1, e2, e3⟩, c, o, vs, t, e1, hk _ _ e2 e3 e5, e6⟩
noncomputable def Mine.FnAt (h : Heap) (nA P f : Addr) (name qual : Str) (params : Arguments) (body : List Stmt) (scope : Scope) (clos : List (Str × Addr)) : Prop :=
  f ≠ nA ∧ f ≠ P ∧ ∃ doc pm cv ctv, Mine.CodeK h nA P cv qual ∧ h.get? f = some { cls := .type "function", data := .func (kdv_fn name qual params (.stmts body) scope clos .none doc pm cv ctv) }
theorem Mine.FnAt.kp {h h' : Heap} {nA P f : Addr} {name qual : Str} {params : Arguments} {body : List Stmt} {scope : Scope} {clos : List (Str × Addr)} (x : Mine.FnAt h nA P f name qual params body scope clos) (hk : Mine.Kp nA P h h') : Mine.FnAt h' nA P f name qual params body scope clos := by
  obtain ⟨n1, n2, doc, pm, cv, ctv, e1, e2⟩ := x
  exact ⟨n1, n2, doc, pm, cv, ctv, e1.kp hk, hk _ _ n1 n2 e2⟩
theorem Mine.FnAt.vok {h : Heap} {nA P f : Addr} {name qual : Str} {params : Arguments} {body : List Stmt} {scope : Scope} {clos : List (Str × Addr)} (x : Mine.FnAt h nA P f name qual params body scope clos) : Mine.vok h (.ref f) := by
  obtain ⟨n1, n2, doc, pm, cv, ctv, e1, e2⟩ := x
  exact .inr (.inr (.inr ⟨f, _, "function", rfl, e2, rfl, Mine.sn5⟩))

theorem Mine.codeAmong_snoc' {p p' : Pos} {c v : Value} (l : List Value) (h : TriplesOk l) (hf : codeAmong p' (l ++ [rawInt p.line, rawInt p.col, c]) = some v) : codeAmong p' l = some v ∨ (v = c ∧ p'.line = p.line) := by
  fun_induction TriplesOk l with
  | case1 =>
    simp only [List.nil_append, codeAmong, rawInt] at hf
    split at hf
    · cases hf
      rename_i hc
      refine .inr ⟨rfl, ?_⟩
      simp at hc
      lia
    · cases hf
  | case2 a t b u x rest ih =>
    simp only [List.cons_append, codeAmong] at hf ⊢
    split at hf
    · rename_i hc; rw [if_pos hc]; exact .inl hf
    · rename_i hc; rw [if_neg hc]; exact ih h hf
  | case3 l h1 h2 => exact h.elim

section
variable {M : Model} {A : Around} {E : Value → Shared → Prop} {s : Shared} {env : Env} {mg : Str → Option Value} {h0 : Heap} {nA P c : Addr} {qf : Nat → Str} {m : Str → Option Value} {k : Nat} {name : Str}
theorem Mine.cs_store {v : Value} {Q : Unit → Shared → Prop} (hk : env.scope.kind = .class) (hl : env.locals = nA) (hn : env.kindOf name = some .local ∨ (env.kindOf name = none ∧ compilersOwnNames.contains name = true)) (C : Mine.CB h0 nA P qf m k s.heap) (C0 : Mine.CB0 mg h0 nA P c)
    (hv : Mine.vok s.heap v) (h : ∀ h', Mine.CB h0 nA P qf (Mine.up m name v) (k + 1) h' → Mine.Kp nA P s.heap h' → Q () ⟨h', s.gens, s.drawn, s.toks + 1, s.os⟩) : wpAny M A (storeName env name v) Q E s := by
  have main : wpAny M A (localSet env name v) Q E s := by
    unfold localSet
    obtain ⟨es, ep, ho, _⟩ := id C.bd
    rw [hl]
    refine wpAny_bind (wpAny_load ho (wpAny_ite_true rfl (Mine.bd_set C.bd hv fun h' b' hs => h h' ⟨?_, b', ?_⟩ ?_)))
    · exact fun b o n1 n2 e => (hs.2 b n1).trans (C.keep b o n1 n2 e)
    · obtain ⟨ps, e1, e2, e3⟩ := C.tab
      exact ⟨ps, (hs.2 P C0.n4.symm).trans e1, e2, fun pos v e => ⟨(e3 pos v e).1.kp fun b o n1 n2 e => (hs.2 b n1).trans e, (e3 pos v e).2⟩⟩
    · exact fun b o n1 n2 e => (hs.2 b n1).trans e
  unfold storeName
  rcases hn with hn | ⟨hn, hn2⟩
  · rw [hn]
    rw [if_neg (by rw [show (some NameKind.local == some NameKind.globalImplicit) = false from rfl]; simp)]
    show wpAny M A (if _ then _ else _) _ _ _
    exact wpAny_ite_true (by rw [hk]; rfl) main
  · rw [hn]
    rw [if_neg (by rw [show ((none : Option NameKind) == some NameKind.globalImplicit) = false from rfl]; simp)]
    have e1 : env.blockKind = .class := by unfold Env.blockKind; rw [hk]; rfl
    refine wpAny_ite_false (by rw [e1, hk, hn2]; rfl) ?_
    exact wpAny_ite_true (by rw [hk]; rfl) main
theorem Mine.cb_make {params : Arguments} {body : List Stmt} {scope : Scope} {pos : Pos} {clos : List (Str × Addr)} {Q : Value → Shared → Prop} {qual : Str} {ln : Nat} (hk0 : env.globals = mainGlobals) (hcode : env.code = .ref c) (hcl : closureFor scope env = pure clos) (C0 : Mine.CB0 mg h0 nA P c) (C : Mine.CB h0 nA P qf m k s.heap) (hq : qf pos.line = qual)
    (h : ∀ f h' tk, Mine.FnAt h' nA P f name qual params body scope clos → Mine.CB h0 nA P qf m k h' → Mine.Kp nA P s.heap h' → Q (.ref f) ⟨h', s.gens, s.drawn, tk, s.os⟩) :
    wpAny M A (makeFunction name qual params (.stmts body) scope env [] [] [] pos ln) Q E s := by
  rw [makeFunction_eq]
  simp only [List.zip_nil_right, List.filterMap_nil, List.isEmpty_nil, if_true, pure_bind]
  obtain ⟨oA, hA1, hA2⟩ := C0.dA
  obtain ⟨oP, hP1, hP2⟩ := C0.dP
  have hns : s.heap.Ns mainGlobals mg := by
    obtain ⟨o, es, ep, e, r⟩ := C0.g
    exact ⟨o, es, ep, C.keep _ _ C0.n1 C0.n2 e, r⟩
  have hhd : CodeHd s.heap c P := by
    obtain ⟨o, vs, file, tf, flags, tg, inF, text, tt, e, r⟩ := C0.hd
    refine ⟨o, vs, file, tf, flags, tg, inF, text, tt, C.keep _ _ C0.n3 ?_ e, r⟩
    exact r.2.2.2.2.2.2.2.2
  have hbm : s.heap.BuiltinsAt mg P := by
    obtain ⟨bm, o, b1, b2, b3, b4, b5, b6⟩ := C0.bm
    have n1 : bm ≠ P := fun q => by rw [q, hP1] at b4; cases b4; rw [hP2] at b5; cases b5
    have n2 : bm ≠ nA := fun q => by rw [q, hA1] at b4; cases b4; rw [hA2] at b5; simp at b5
    exact ⟨bm, o, b1, b2, b3, n1, C.keep _ _ n2 n1 b4, b5, b6⟩
  obtain ⟨ps, p1, p2, p3⟩ := C.tab
  obtain ⟨es, ep, ho, hbr⟩ := id C.bd
  cases hf : codeAmong pos ps.toList with
  | some cv =>
    refine kdv_makeTailHit hcl hk0 hns hcode hhd p1 p2 hf hbm fun ctv doc h' tk hk1 hsz => ?_
    have hk2 : ∀ b o, s.heap.get? b = some o → (h'.push { cls := .type "function", data := .func (kdv_fn name qual params (.stmts body) scope clos .none doc ((mg "__name__").getD .none) cv ctv) }).get? b = some o := fun b o e => Heap.get?_push_of_some _ (hk1 b o e)
    refine h h'.objs.size _ tk ⟨?_, ?_, doc, _, cv, ctv, ((hq ▸ (p3 pos cv hf).1).kp fun b o _ _ e => hk2 b o e), Heap.get?_push_size _ rfl⟩ ⟨fun b o n1 n2 e => hk2 _ _ (C.keep b o n1 n2 e), C.bd.keeps hk2, ps, hk2 _ _ p1, p2, fun pos v e => ⟨(p3 pos v e).1.kp fun b o _ _ e => hk2 b o e, (p3 pos v e).2⟩⟩ fun b o _ _ e => hk2 b o e
    · exact fun q => Nat.lt_irrefl _ (q ▸ Heap.lt_size (hk1 _ _ ho))
    · exact fun q => Nat.lt_irrefl _ (q ▸ Heap.lt_size (hk1 _ _ p1))
  | none =>
    refine kdv_makeTail hcl hk0 hns hcode hhd p1 p2 hf C0.n2 hbm fun c' ctv doc h' tk hx hge hlt hrec htb => ?_
    have hk2 : ∀ b o, b ≠ P → s.heap.get? b = some o → (h'.push (kdv_obj name qual params (.stmts body) scope clos .none doc ((mg "__name__").getD .none) c' ctv)).get? b = some o := fun b o n e => Heap.get?_push_of_some _ (hx b o n e)
    have nc1 : c' ≠ nA := fun q => Nat.lt_irrefl c' (Nat.lt_of_lt_of_le (q ▸ Heap.lt_size ho) hge)
    have nc2 : c' ≠ P := fun q => Nat.lt_irrefl c' (Nat.lt_of_lt_of_le (q ▸ Heap.lt_size p1) hge)
    have hbd : Mine.Bd (h'.push (kdv_obj name qual params (.stmts body) scope clos .none doc ((mg "__name__").getD .none) c' ctv)) nA m k := C.bd.but hk2 fun o T e q => by rw [p1] at e; cases e; cases q
    have hnc : Mine.CodeK (h'.push (kdv_obj name qual params (.stmts body) scope clos .none doc ((mg "__name__").getD .none) c' ctv)) nA P (.ref c') qual := ⟨⟨c', rfl, nc1, nc2⟩, hrec.push _⟩
    have lt1 : nA < h'.objs.size := Heap.lt_size (hx _ _ C0.n4 ho)
    have lt2 : P < h'.objs.size := Heap.lt_size htb
    refine h h'.objs.size _ tk ⟨Nat.ne_of_gt lt1, Nat.ne_of_gt lt2, doc, _, _, ctv, hnc, Heap.get?_push_size _ rfl⟩ ⟨fun b o n1 n2 e => hk2 _ _ n2 (C.keep b o n1 n2 e), hbd, _, Heap.get?_push_of_some _ htb, ?_, ?_⟩ fun b o _ n e => hk2 b o n e
    · rw [Array.toList_append]; exact TriplesOk_snoc _ _ _ _ p2
    · intro pos' v e
      rw [Array.toList_append] at e
      rcases Mine.codeAmong_snoc' _ p2 e with q | ⟨q1, q2⟩
      · exact ⟨(p3 pos' v q).1.kp fun b o _ n e => hk2 b o n e, (p3 pos' v q).2⟩
      · refine ⟨by rw [q1, q2, hq]; exact hnc, fun c2 e2 => .inl ?_⟩
        rw [q1] at e2; cases e2
        cases q0 : h0.get? c' with
        | none => rfl
        | some o => exact absurd (Heap.lt_size (C.keep _ _ nc1 nc2 q0)) (Nat.not_lt.mpr hge)
theorem Mine.cb_def {params : Arguments} {body : List Stmt} {scope : Scope} {pos : Pos} {clos : List (Str × Addr)} {Q : Flow → Shared → Prop} (hk : env.scope.kind = .class) (hl : env.locals = nA) (hn : env.kindOf name = some .local) (hk0 : env.globals = mainGlobals) (hcode : env.code = .ref c) (hcl : closureFor scope env = pure clos)
    (hd : params.defaults = []) (hd2 : params.kw_defaults = []) (ha : annTrees params none env = []) (C0 : Mine.CB0 mg h0 nA P c) (C : Mine.CB h0 nA P qf m k s.heap) (hq : qf pos.line = qualnameIn env name name)
    (h : ∀ f h' tk, Mine.FnAt h' nA P f name (qualnameIn env name name) params body scope clos → Mine.CB h0 nA P qf (Mine.up m name (.ref f)) (k + 1) h' → Mine.Kp nA P s.heap h' → Q .next ⟨h', s.gens, s.drawn, tk, s.os⟩) :
    wpAny M A (exec (.FunctionDef name params body [] none [] scope none name pos) env) Q E s := by
  rw [exec_def]
  refine wpAny_bind (wpAny_standAt (wpAny_bind (wpAny_holding ?_)))
  rw [defaultsOf_eq, hd, hd2, ha]
  refine wpAny_bind (evalAll_nil (wpAny_bind (wpAny_holding (wpAny_pure ?_))))
  refine wpAny_holding (wpAny_bind (wpAny_pure ?_))
  refine Mine.cb_make hk0 hcode hcl C0 C hq fun f h1 tk hf C1 k1 => ?_
  refine wpAny_bind (wpAny_standAt (wpAny_bind (wpAny_bindName ?_)))
  exact Mine.cs_store (s := ⟨h1, s.gens, s.drawn, tk, s.os⟩) hk hl (.inl hn) C1 C0 hf.vok fun h2 C2 k2 => wpAny_pure (h f h2 _ (hf.kp k2) C2 fun b o n1 n2 e => k2 b o n1 n2 (k1 b o n1 n2 e))
theorem Mine.cb_new {Q : Value → Shared → Prop} {T : String} {data : Data} (hz : sizeOk data) (ho : Obj.isFreed { cls := .type T, dict := none, data } = false) (C : Mine.CB h0 nA P qf m k s.heap)
    (h : ∀ b h', h'.get? b = some { cls := .type T, dict := none, data } → b ≠ nA → b ≠ P → Mine.CB h0 nA P qf m k h' → Mine.Kp nA P s.heap h' → Q (.ref b) ⟨h', s.gens, s.drawn, s.toks, s.os⟩) : wpAny M A (newObj (.type T) data) Q E s := by
  refine Mine.newObj_abs hz ho fun b H1 hb kH1 nb => ?_
  obtain ⟨es, ep, hA, _⟩ := id C.bd
  obtain ⟨ps, hP, p2, p3⟩ := C.tab
  refine h b H1 hb (fun q => by rw [q, hA] at nb; cases nb) (fun q => by rw [q, hP] at nb; cases nb) ⟨fun b o n1 n2 e => kH1 b o (C.keep b o n1 n2 e), C.bd.keeps kH1, ps, kH1 _ _ hP, p2, fun pos v e => ⟨(p3 pos v e).1.kp fun b o _ _ e => kH1 b o e, (p3 pos v e).2⟩⟩ fun b o _ _ e => kH1 b o e
end
end

section
open PySem PySem.W PySem.W.X PyProof.Rows PySem.Spec PySem.Calls
set_option Elab.async false
set_option maxRecDepth 100000
noncomputable def Mine.BTab (h0 h : Heap) (P : Addr) (qf : Nat → Str) : Prop :=
  ∃ ps, h.get? P = some (tabObj ps) ∧ TriplesOk ps.toList ∧ ∀ pos v, codeAmong pos ps.toList = some v → (∃ c, v = .ref c ∧ c ≠ P) ∧ h.CodeRec v (qf pos.line) ∧ Mine.NewC h0 P v
noncomputable def Mine.OPre (h : Heap) (P1 : Addr) (ps : Array Value) (pos : Pos) (qf : Nat → Str) : Option (Addr × Addr) → Prop
  | none => codeAmong pos ps.toList = none
  | some q => codeAmong pos ps.toList = some (.ref q.1) ∧ CodeHd h q.1 q.2 ∧ q.2 ≠ P1 ∧ Mine.BTab h h q.2 qf
section
variable {M : Model} {A : Around} {E : Value → Shared → Prop} {s : Shared} {env : Env} {c P : Addr} {ps : Array Value} {pos : Pos} {ln : Nat} {name qual : Str} {scope : Scope} {Q : Value → Shared → Prop}
theorem Mine.cc_new (hc : env.code = .ref c) (C : CodeHd s.heap c P) (hP : s.heap.get? P = some (tabObj ps)) (ht : TriplesOk ps.toList) (hnf : codeAmong pos ps.toList = none)
    (h : ∀ c' P' h' tk, Heap.ExtBut P s.heap h' → s.heap.objs.size ≤ c' → s.heap.objs.size ≤ P' → CodeHd h' c' P' → h'.get? P' = some (tabObj #[]) → h'.CodeRec (.ref c') qual →
      h'.get? P = some (tabObj (ps ++ #[rawInt pos.line, rawInt pos.col, .ref c'])) → Q (.ref c') { s with heap := h', toks := tk }) :
    wpAny M A (classCode env pos ln name qual scope) Q E s := by
  obtain ⟨o, vs, file, tf, flags, tg, inF, text, tt, op, ho, hd, h11, h2, h7, h9, h10, hop, hpd, htr, hne⟩ := C.code hP ht
  have e1 : op = tabObj ps := Option.some.inj (hop.symm.trans hP)
  subst e1
  unfold classCode codeAt
  rw [hc, if_neg (show ¬ ((Value.ref c == Value.none) = true) from Bool.false_ne_true)]
  refine wpAny_bind (wpAny_fieldsOf ho hd ?_)
  rw [h11]
  refine wpAny_bind (wpAny_fieldsOf hop rfl ?_)
  rw [hnf, h2, h7, h9, h10]
  refine wpAny_bind (wpAny_newCodeX fun c' P' h' tk hk hc' hP' hcode' htab' hrec' => ?_)
  have hop' := hk _ _ hop
  refine wpAny_bind (wpAny_updateFieldsOfTheText hop' rfl ?_)
  have hnew : Obj.mapFields (fun vs => if (codeAmong pos vs.toList).isSome = true then vs else vs ++ #[rawInt pos.line, rawInt pos.col, .ref c']) (tabObj ps) = tabObj (ps ++ #[rawInt pos.line, rawInt pos.col, .ref c']) := by
    simp only [tabObj, Obj.mapFields, hnf]; rfl
  have hget := Heap.get?_update_self (h := h') (fun o => Obj.mapFields (fun vs => if (codeAmong pos vs.toList).isSome = true then vs else
    vs ++ #[rawInt pos.line, rawInt pos.col, .ref c']) o) hop' (by rw [hnew]; rfl)
  rw [hnew] at hget
  refine wpAny_bind (wpAny_fieldsOf hget rfl ?_)
  rw [Array.toList_append, codeAmong_snoc _ htr hnf]
  have hs : Heap.SameBut P h' _ := Heap.SameBut.update h' P fun o => Obj.mapFields (fun vs => if (codeAmong pos vs.toList).isSome = true then vs else vs ++ #[rawInt pos.line, rawInt pos.col, .ref c']) o
  have hcP : c' ≠ P := Nat.ne_of_gt (Nat.lt_of_lt_of_le (Heap.lt_size hop) hc')
  have hPP : P' ≠ P := Nat.ne_of_gt (Nat.lt_of_lt_of_le (Heap.lt_size hop) hP')
  refine wpAny_pure (h c' P' _ _ (fun b o' hb e => hs.extBut b o' hb (hk b o' e)) hc' hP' ?_ ((hs.2 _ hPP).trans htab'.2) ?_ hget)
  · obtain ⟨o1, vs1, file1, tf1, flags1, tg1, inF1, text1, tt1, q1, q2⟩ := CodeHd.of hcode' htab'
    exact ⟨o1, vs1, file1, tf1, flags1, tg1, inF1, text1, tt1, (hs.2 _ hcP).trans q1, q2⟩
  · obtain ⟨c₂, o₂, vs₂, t₂, e₂, g₂, r₂⟩ := hrec'
    cases e₂
    exact ⟨_, o₂, vs₂, t₂, rfl, (hs.2 _ hcP).trans g₂, r₂⟩
theorem Mine.cc_hit {v : Value} (hc : env.code = .ref c) (C : CodeHd s.heap c P) (hP : s.heap.get? P = some (tabObj ps)) (ht : TriplesOk ps.toList) (hf : codeAmong pos ps.toList = some v) (h : Q v s) :
    wpAny M A (classCode env pos ln name qual scope) Q E s := wpAny_codeAt_hit hc (C.code hP ht) hf h
theorem Mine.cc_any {oP : Option (Addr × Addr)} {qf : Nat → Str} (hc : env.code = .ref c) (C : CodeHd s.heap c P) (hP : s.heap.get? P = some (tabObj ps)) (ht : TriplesOk ps.toList) (hO : Mine.OPre s.heap P ps pos qf oP)
    (h : ∀ c' P' h' tk ps', (∀ b o, b ≠ P → s.heap.get? b = some o → h'.get? b = some o) → CodeHd h' c' P' → Mine.BTab s.heap h' P' qf → (s.heap.get? P' = none ∨ oP = some (c', P')) → (s.heap.get? c' = none ∨ oP = some (c', P')) →
      h'.get? P = some (tabObj ps') → TriplesOk ps'.toList → codeAmong pos ps'.toList = some (.ref c') → P' ≠ P → Q (.ref c') { s with heap := h', toks := tk }) :
    wpAny M A (classCode env pos ln name qual scope) Q E s := by
  cases oP with
  | none =>
    refine Mine.cc_new hc C hP ht hO fun c' P' h' tk x gc gP hd hP' hr hP1 => ?_
    refine h c' P' h' tk _ x hd ⟨#[], hP', trivial, fun pos v e => (by cases e)⟩ (.inl (Heap.get?_none_of_le gP)) (.inl (Heap.get?_none_of_le gc)) hP1 (by rw [Array.toList_append]; exact TriplesOk_snoc _ _ _ _ ht) (by rw [Array.toList_append]; exact codeAmong_snoc _ ht hO) ?_
    rintro rfl
    exact absurd (Heap.lt_size hP) (Nat.not_lt.mpr gP)
  | some q =>
    obtain ⟨c', P'⟩ := q
    obtain ⟨h1, h2, h3, h4⟩ := hO
    exact Mine.cc_hit hc C hP ht h1 (h c' P' s.heap s.toks ps (fun _ _ _ e => e) h2 h4 (.inr rfl) (.inr rfl) hP ht h1 h3)
end
end

section
set_option Elab.async false
set_option linter.unusedVariables false
set_option linter.unusedSimpArgs false
set_option maxRecDepth 100000
namespace Mine
open PySem PySem.W PyProof.Rows PySem.Calls

noncomputable def nthSt (n : Nat) : Stmt := (PySem.Challenge.pw_sn0003_01.main.body[n]?).getD (.Pass ⟨0, 0, 0, 0⟩)
noncomputable def pa (n : Nat) : Arguments := match nthSt n with | .FunctionDef _ a _ _ _ _ _ _ _ _ => a | _ => { posonlyargs := [], args := [], vararg := none, kwonlyargs := [], kw_defaults := [], kwarg := none, defaults := [] }
noncomputable def bo (n : Nat) : List Stmt := match nthSt n with | .FunctionDef _ _ b _ _ _ _ _ _ _ => b | _ => []
noncomputable def sc (n : Nat) : Scope := match nthSt n with | .FunctionDef _ _ _ _ _ _ s _ _ _ => s | _ => { kind := .function, names := [], isGenerator := false, isCoroutine := false }
noncomputable abbrev fdN (n : Nat) (name qual : Str) (dV kV doc pm : Value) (an : Option Addr) (cdv ct : Value) : FuncData := fnX name qual (pa n) (bo n) (sc n) [] dV kV doc pm an cdv ct

section
variable {G : Gx} {f : Addr} {name qual : Str} {dV kV doc pm cdv ct : Value} {an : Option Addr}

theorem reduce_ok {T : Addr} {o : Obj} {m : Value} {n : Nat} (ho : G.hb.get? T = some o) (hs : o.data = .seq #[m] n) : FnOk G (fdN 3 name qual (.ref T) .none doc pm an cdv ct) (bo 3) ["function", "sequence", "initial"] 3 :=
  ⟨rfl, fun s vs hb h => by
    match vs, h with
    | [a, b, c], _ => exact BindsTo.of_defaults (T := T) (o := o) rfl (hb _ _ ho) hs rfl rfl, by decide, rfl, rfl, rfl, rfl, rfl⟩

theorem Ev.use {C : Cx} {σ : St} {e : Expr} {d : D} (h : Ev C σ e d) {K F : Fz} {s : Shared} {Q : Value → Shared → Prop} {E : Value → Shared → Prop} (X : Mo C K σ F s) (hQ : ∀ F' v s', Mo C K σ F' s' → Fle F F' → Rep F' v d → Q v s') : wpAny C.G.M C.A (eval e C.env) Q E s := h K F s Q E X hQ
theorem EvT.use {C : Cx} {σ : St} {e : Expr} {d : Bool} (h : EvT C σ e d) {K F : Fz} {s : Shared} {Q : Bool → Shared → Prop} {E : Value → Shared → Prop} (X : Mo C K σ F s) (hQ : ∀ F' s', Mo C K σ F' s' → Fle F F' → Q d s') : wpAny C.G.M C.A (isTrue e C.env (eval e C.env)) Q E s := h K F s Q E X hQ
theorem WP.use {C : Cx} {σ : St} {ss : List Stmt} {Φ : Out → St → Prop} (h : WP C σ ss Φ) {K F : Fz} {s : Shared} {Q : Flow → Shared → Prop} {E : Value → Shared → Prop} (X : Mo C K σ F s) (hQ : ∀ f o F' s' σ', OutIs F' f o → Mo C K σ' F' s' → Fle F F' → Φ o σ' → Q f s') : wpAny C.G.M C.A (execs ss C.env) Q E s := h K F s Q E X hQ
structure RedG (G : Gx) (mi : Addr) (om : Obj) : Prop where
  it1 : G.mg "iter" = none
  it2 : G.mb "iter" = some (.builtin "iter")
  m1 : G.mg "_initial_missing" = some (.ref mi)
  m2 : G.hb.get? mi = some om
  m3 : om.cls ≠ .type "list"
  m4 : om.cls ≠ .type "tuple"
noncomputable def IsCont (d : D) : Prop := (∃ ds, d = .list ds) ∨ ∃ ds, d = .tup ds
theorem is_miss {M : Model} {A : Around} {s : Shared} {Q : Value → Shared → Prop} {E : Value → Shared → Prop} {x y : Addr} {ox oy : Obj} (hxy : x ≠ y) (hx : s.heap.get? x = some ox) (hy : s.heap.get? y = some oy) (hnt : oy.cls ≠ .type "tuple")
    (h : Q (.bool false) s) : wpAny M A (compareOp .Is (.ref x) (.ref y)) Q E s := by
  show wpAny M A (do return .bool (← isSame (.ref x) (.ref y))) Q E s
  refine wpAny_bind ?_
  show wpAny M A (if (x == y) = true then pure true else _) _ E s
  rw [if_neg (by simpa using hxy)]
  refine wpAny_bind (wpAny_load hx (wpAny_bind (wpAny_load hy ?_)))
  split
  · rename_i h1 _ _; exact absurd h1 hnt
  · exact wpAny_pure (wpAny_pure h)
theorem EvT.miss {C : Cx} {σ : St} {x y : Str} {p q r : Pos} {d : D} {mi : Addr} {om : Obj} (hx : Ev C σ (.Name x p) d) (hd : IsCont d) (hk : C.env.kindOf y = some .globalImplicit) (hy : (y == ("__debug__" : Str)) = false) (h1 : C.G.mg y = some (.ref mi)) (h2 : C.G.hb.get? mi = some om) (h3 : om.cls ≠ .type "list") (h4 : om.cls ≠ .type "tuple") :
    EvT C σ (.Compare (.Name x p) [.Is] [.Name y q] r) false := fun K F s Q E X hQ => by
  refine wpAny_isTrue_Compare1 (hx K F s _ E X fun F1 v s1 X1 g1 r1 => gName X1 hk h1 ?_ hy) rfl
  have hm := X1.am.base _ _ h2
  rcases hd with ⟨ds, rfl⟩ | ⟨ds, rfl⟩
  · obtain ⟨a, o, vs, rfl, e1, ⟨e2, n, rfl⟩, e3⟩ := r1.list_inv
    refine is_miss (fun e => ?_) (X1.am.frz _ _ e1) (X1.am.frz _ _ hm) h4 (wpAny_truthy_bool (hQ F1 s1 X1 g1))
    subst e
    rw [hm] at e1
    cases e1
    exact h3 rfl
  · obtain ⟨a, o, vs, rfl, e1, ⟨e2, n, rfl⟩, e3⟩ := r1.tup_inv
    refine is_miss (fun e => ?_) (X1.am.frz _ _ e1) (X1.am.frz _ _ hm) h4 (wpAny_truthy_bool (hQ F1 s1 X1 g1))
    subst e
    rw [hm] at e1
    cases e1
    exact h4 rfl


noncomputable abbrev rdCx (G : Gx) (A : Around) (name qual : Str) (doc pm cdv ct : Value) (an : Option Addr) (T f L : Addr) (n : Nat) (P : Pred) : Cx := fnCx G A (fdN 3 name qual (.ref T) .none doc pm an cdv ct) f L n P
theorem reduce_body {A : Around} {L mi g : Addr} {om : Obj} {n m : Nat} {P : Pred} {ds : List D} {acc : Nat → D} {T : Addr} (RG : RedG G mi om) (h0 : IsCont (acc 0)) (hm : m ≤ n)
    (hg : ∀ k d, ds[k]? = some d → CallSem G m P g [] [acc k, d] (Pure (acc (k + 1)))) :
    WP (rdCx G A name qual doc pm cdv ct an T f L n P) { vars := [("function", .ref g), ("sequence", .list ds), ("initial", acc 0)], mu := [] } (bo 3) (Fin (Pure (acc ds.length))) := by
  intro K F s Q E X hQ
  refine wpAny_execs_cons (wpAny_Assign_Name (Call_Name1 (bName X rfl RG.it1 RG.it2 (callWith_bt (.inl ⟨_, rfl⟩) rfl (Calls.evalArgs_plain (Calls.spliced_cons (Ev.use (d := .list ds) (Ev.name rfl) X fun F1 v s1 X1 g1 r1 => Calls.spliced_nil ?_)))))))
  obtain ⟨a, o, vs, rfl, e1, e2, e3⟩ := r1.list_inv
  refine call_iter (G := G) X.ok.rm.hh (.list (.inl e1) e2 e3) X1.am.frz X1.am.keep fun oi PO hf hPO IT => ?_
  have X2 := X1.allocMu oi (.obj (PO 0)) s1.toks ⟨oi, Heap.get?_push_size _ hf, hPO⟩
  refine sto (.inl rfl) X2 (.ref _) fun s3 X3 => ?_
  refine wpAny_execs_cons (wpAny_If (EvT.use (EvT.miss (Ev.name rfl) h0 rfl rfl RG.m1 RG.m2 RG.m3 RG.m4) X3 fun F4 s4 X4 g4 => ?_))
  simp only [Bool.false_eq_true, if_false]
  refine WP.use (WP.set (x := "value") (.inl rfl) (Ev.name (d := acc 0) rfl) (WP.nil (Φ := fun o σ' => o = .next ∧ σ' = _) ⟨rfl, rfl⟩)) X4 fun f o F5 s5 σ5 ho X5 g5 hΦ => ?_
  obtain ⟨rfl, rfl⟩ := hΦ
  cases f <;> first | exact ho.elim | skip
  refine WP.forIt (Φ := Fin (Pure (acc ds.length))) (σ := { vars := [("value", acc 0), ("it", .ref s1.heap.objs.size), ("function", .ref g), ("sequence", .list ds), ("initial", acc 0)], mu := [] }) (it := s1.heap.objs.size) (PO := PO) (ds := ds)
    (fun k σ => σ.mu = [] ∧ σ.v "it" = some (.ref s1.heap.objs.size) ∧ σ.v "function" = some (.ref g) ∧ σ.v "value" = some (acc k))
    (fun σ k h => h.2.1) ⟨rfl, rfl, rfl, rfl⟩ (fun σ k h => h.1) (fun d σ => σ.set "element" d) (fun _ _ _ => rfl) (fun _ _ => rfl) (fun d σ => Asg.local rfl) (fun k d σ hk ⟨h1, h2, h3, h4⟩ => ?_) (fun σ ⟨h1, h2, h3, h4⟩ => ?_)
    (hX := X5) (IT := fun F' h => IT F' ((g4.trans g5).trans h)) (hQ := fun f o F' s' σ' ho X' g' hΦ => hQ f o F' s' σ' ho X' (((g1.trans g4).trans g5).trans g') hΦ)
  · have e1 : (σ.set "element" d).vars.lookup ("function" : Str) = some (.ref g) := h3
    have e2 : (σ.set "element" d).v "value" = some (acc k) := h4
    refine WP.set (.inl rfl) (Ev.call (d := acc (k + 1)) (Ev.name e1) (EvL.cons (Ev.name e2) (EvL.cons (Ev.name (d := d) rfl) EvL.nil)) (hg k d hk) hm fun K F s X => X.preFull (by simp)) (WP.nil ⟨h1, h2, h3, rfl⟩)
  · exact WP.nil (WP.ret (Ev.name h4) ⟨rfl, h1⟩)
theorem reduce_sem {mi g : Addr} {om : Obj} {n m : Nat} {P : Pred} {ds : List D} {acc : Nat → D} {T : Addr} {oT : Obj} {mm : Value} {nT : Nat} (RG : RedG G mi om) (hT : G.hb.get? T = some oT) (hT2 : oT.data = .seq #[mm] nT) (hF : FnF G.hb.get? f (fdN 3 name qual (.ref T) .none doc pm an cdv ct)) (h0 : IsCont (acc 0)) (hm : m ≤ n) (hmon : P.Mon)
    (hg : ∀ k d, ds[k]? = some d → CallSem G m P g [] [acc k, d] (Pure (acc (k + 1)))) : CallSem G (n + 1) P f [] [.ref g, .list ds, acc 0] (Pure (acc ds.length)) := by
  refine call_fn (fd := fdN 3 name qual (.ref T) .none doc pm an cdv ct) hmon (reduce_ok hT hT2) (fun K F hb _ => hF.mono hb) (show ∀ x ∈ (sc 3).names, _ by decide) (show ∀ x ∈ (["function", "sequence", "initial"] : List Str), (sc 3).names.lookup x = _ by decide) [] (fun K F _ => ⟨fun x hx => (nomatch hx), fun x d h => (nomatch h)⟩) List.Pairwise.nil (by simp) fun A L hr => ?_
  exact reduce_body RG h0 hm hg
end
end Mine
end

section
open PySem PySem.W PySem.W.X PyProof.Rows PySem.Spec PySem.Calls
set_option Elab.async false
set_option maxRecDepth 100000
noncomputable def Mine.kBody : List Stmt := match Mine.bo 1 with | .ClassDef _ _ _ b _ _ _ _ _ _ _ :: _ => b | _ => []
noncomputable def Mine.kSc : Scope := match Mine.bo 1 with | .ClassDef _ _ _ _ _ _ s _ _ _ _ :: _ => s | _ => Mine.sc 1
noncomputable def Mine.kPos : Pos := match Mine.bo 1 with | .ClassDef _ _ _ _ _ _ _ _ _ _ p :: _ => p | _ => ⟨0, 0, 0, 0⟩
noncomputable def Mine.kSt (n : Nat) : Stmt := (Mine.kBody[n]?).getD (.Pass ⟨0, 0, 0, 0⟩)
noncomputable def Mine.kPa (n : Nat) : Arguments := match Mine.kSt n with | .FunctionDef _ a _ _ _ _ _ _ _ _ => a | _ => Mine.pa 1
noncomputable def Mine.kBo (n : Nat) : List Stmt := match Mine.kSt n with | .FunctionDef _ _ b _ _ _ _ _ _ _ => b | _ => []
noncomputable def Mine.kFs (n : Nat) : Scope := match Mine.kSt n with | .FunctionDef _ _ _ _ _ _ s _ _ _ => s | _ => Mine.sc 1
noncomputable def Mine.kQ : Str := "cmp_to_key.<locals>.K"
noncomputable def Mine.kEnv (nA c fr cl : Addr) : Env := { scope := Mine.kSc, locals := nA, globals := mainGlobals, cells := [("mycmp", cl)], qual := Mine.kQ ++ ".", code := .ref c, frame := some fr, builtins := builtinsNs }
noncomputable def Mine.qf (l : Nat) : Str := if l = 8 then "cmp_to_key.<locals>.K.__init__" else if l = 11 then "cmp_to_key.<locals>.K.__lt__" else if l = 14 then "cmp_to_key.<locals>.K.__gt__" else if l = 17 then "cmp_to_key.<locals>.K.__eq__" else if l = 20 then "cmp_to_key.<locals>.K.__le__" else "cmp_to_key.<locals>.K.__ge__"
noncomputable def Mine.kMap (m : Str → Option Value) (md : Value) (lA f2 f3 f4 f5 f6 f7 : Addr) : Str → Option Value :=
  Mine.up (Mine.up (Mine.up (Mine.up (Mine.up (Mine.up (Mine.up (Mine.up (Mine.up m "__module__" md) "__slots__" (.ref lA)) "__init__" (.ref f2)) "__lt__" (.ref f3)) "__gt__" (.ref f4)) "__eq__" (.ref f5)) "__le__" (.ref f6)) "__ge__" (.ref f7)) "__hash__" .none
section
variable {M : Model} {A : Around} {E : Value → Shared → Prop} {s : Shared} {mg : Str → Option Value} {h0 : Heap} {nA P c fr cl : Addr} {m : Str → Option Value} {k : Nat} {name : Str}
theorem Mine.kcl (nA c fr cl : Addr) : closureFor (Mine.kFs 3) (Mine.kEnv nA c fr cl) = pure [(("mycmp" : Str), cl)] := by rfl
theorem Mine.kcl0 (nA c fr cl : Addr) : closureFor (Mine.kFs 2) (Mine.kEnv nA c fr cl) = pure [] := by rfl
theorem Mine.kp_trans {nA P : Addr} {h h' h'' : Heap} (x : Mine.Kp nA P h h') (y : Mine.Kp nA P h' h'') : Mine.Kp nA P h h'' := fun b o n1 n2 e => y b o n1 n2 (x b o n1 n2 e)
noncomputable def Mine.FnK (h : Heap) (nA P f cl : Addr) (n : Nat) (name qual : Str) : Prop := Mine.FnAt h nA P f name qual (Mine.kPa n) (Mine.kBo n) (Mine.kFs n) (if n = 2 then [] else [("mycmp", cl)])
set_option maxHeartbeats 4000000 in
theorem Mine.kbody {Q : Flow → Shared → Prop} (C0 : Mine.CB0 mg h0 nA P c) (C : Mine.CB h0 nA P Mine.qf m k s.heap)
   (h : ∀ lA f2 f3 f4 f5 f6 f7 md ot h' tk, (∃ x t, md = .str x t) → h'.get? lA = some (seqObj "list" [Value.str "obj" ot].toArray 0) → lA ≠ nA → lA ≠ P → Mine.FnK h' nA P f2 cl 2 "__init__" "cmp_to_key.<locals>.K.__init__" → Mine.FnK h' nA P f3 cl 3 "__lt__" "cmp_to_key.<locals>.K.__lt__" →
     Mine.CB h0 nA P Mine.qf (Mine.kMap m md lA f2 f3 f4 f5 f6 f7) (k + 9) h' → Mine.Kp nA P s.heap h' → Q .next ⟨h', s.gens, s.drawn, tk, s.os⟩) :
   wpAny M A (execs Mine.kBody (Mine.kEnv nA c fr cl)) Q E s := by
  refine wpAny_execs_cons (wpAny_Assign_Name (wpAny_mkText ?_))
  refine Mine.cs_store (s := ⟨s.heap, s.gens, s.drawn, s.toks + 1, s.os⟩) rfl rfl (.inl rfl) C C0 (.inl ⟨_, _, rfl⟩) fun h1 C1 k1 => ?_
  refine wpAny_execs_cons (wpAny_Assign_Name ?_)
  rw [arm_eval_List]
  refine wpAny_bind (wpAny_standAt (wpAny_bind (Calls.spliced_cons (wpAny_mkText (Calls.spliced_nil ?_)))))
  refine Mine.cb_new (s := ⟨h1, s.gens, s.drawn, s.toks + 1 + 1 + 1, s.os⟩) (T := "list") (data := .seq #[_]) (by size_fits) rfl C1 fun lA h2 l2 n1 n2 C2 k2 => ?_
  refine Mine.cs_store (s := ⟨h2, s.gens, s.drawn, s.toks + 1 + 1 + 1, s.os⟩) rfl rfl (.inl rfl) C2 C0 (.inr (.inr (.inr ⟨lA, _, "list", rfl, l2, rfl, Mine.sn6⟩))) fun h3 C3 k3 => ?_
  refine wpAny_execs_cons (Mine.cb_def (s := ⟨h3, s.gens, s.drawn, s.toks + 1 + 1 + 1 + 1, s.os⟩) rfl rfl rfl rfl rfl (Mine.kcl0 nA c fr cl) rfl rfl rfl C0 C3 rfl fun f2 h4 t4 F2 C4 k4 => ?_)
  refine wpAny_execs_cons (Mine.cb_def (s := ⟨h4, s.gens, s.drawn, t4, s.os⟩) rfl rfl rfl rfl rfl (Mine.kcl nA c fr cl) rfl rfl rfl C0 C4 rfl fun f3 h5 t5 F3 C5 k5 => ?_)
  refine wpAny_execs_cons (Mine.cb_def (s := ⟨h5, s.gens, s.drawn, t5, s.os⟩) rfl rfl rfl rfl rfl (Mine.kcl nA c fr cl) rfl rfl rfl C0 C5 rfl fun f4 h6 t6 F4 C6 k6 => ?_)
  refine wpAny_execs_cons (Mine.cb_def (s := ⟨h6, s.gens, s.drawn, t6, s.os⟩) rfl rfl rfl rfl rfl (Mine.kcl nA c fr cl) rfl rfl rfl C0 C6 rfl fun f5 h7 t7 F5 C7 k7 => ?_)
  refine wpAny_execs_cons (Mine.cb_def (s := ⟨h7, s.gens, s.drawn, t7, s.os⟩) rfl rfl rfl rfl rfl (Mine.kcl nA c fr cl) rfl rfl rfl C0 C7 rfl fun f6 h8 t8 F6 C8 k8 => ?_)
  refine wpAny_execs_cons (Mine.cb_def (s := ⟨h8, s.gens, s.drawn, t8, s.os⟩) rfl rfl rfl rfl rfl (Mine.kcl nA c fr cl) rfl rfl rfl C0 C8 rfl fun f7 h9 t9 F7 C9 k9 => ?_)
  refine wpAny_execs_cons (wpAny_Assign_Name (wpAny_pure ?_))
  refine Mine.cs_store (s := ⟨h9, s.gens, s.drawn, t9, s.os⟩) rfl rfl (.inl rfl) C9 C0 (.inr (.inr (.inl rfl))) fun h10 C10 k10 => ?_
  have q4 := Mine.kp_trans (Mine.kp_trans (Mine.kp_trans (Mine.kp_trans (Mine.kp_trans (Mine.kp_trans k5 k6) k7) k8) k9) k10) (fun _ _ _ _ e => e)
  have q5 := Mine.kp_trans (Mine.kp_trans (Mine.kp_trans (Mine.kp_trans k6 k7) k8) k9) k10
  refine wpAny_execs_nil (h lA f2 f3 f4 f5 f6 f7 _ _ h10 _ ⟨_, _, rfl⟩ (q4 _ _ n1 n2 (k4 _ _ n1 n2 (k3 _ _ n1 n2 l2))) n1 n2 (F2.kp q4) (F3.kp q5) C10 ?_)
  exact Mine.kp_trans (Mine.kp_trans (Mine.kp_trans k1 k2) (Mine.kp_trans k3 k4)) q4
end
end

section
open PySem PySem.W PySem.W.X PyProof.Rows PySem.Spec PySem.Calls
set_option Elab.async false
set_option maxRecDepth 100000
theorem Mine.k_name {M : Model} {A : Around} {E : Value → Shared → Prop} {s : Shared} {mg m : Str → Option Value} {k : Nat} {nA c fr cl : Addr} {v : Value} {Q : Value → Shared → Prop} (hb : Mine.Bd s.heap nA m k) (hm : m "__name__" = none) (hg : s.heap.Ns mainGlobals mg) (hv : mg "__name__" = some v) (h : Q v s) :
    wpAny M A (loadName (Mine.kEnv nA c fr cl) "__name__") Q E s := by
  unfold loadName
  refine wpAny_ite_false (by kernel_rfl) ?_
  refine wpAny_ite_false (by kernel_rfl) ?_
  refine wpAny_bind (m := localGet _ _) ?_
  unfold localGet
  obtain ⟨es, ep, ho, _⟩ := id hb
  refine wpAny_bind (wpAny_load ho (wpAny_ite_true rfl ?_))
  refine wpAny_nsGet (a := nA) hb.ns ?_
  rw [hm]
  dsimp only
  unfold loadGlobal
  refine wpAny_bind (wpAny_nsGet hg ?_)
  rw [hv]
  exact wpAny_pure h
theorem Mine.nf_some {es : Array DictEntry} {x : Str} {v : Value} (h : nsFind es x = some v) : ∃ e, es.find? (·.key.isStr x) = some e ∧ e.val = v := by
  unfold nsFind findBy at h
  cases q : es.find? (·.key.isStr x) with
  | none => rw [q] at h; cases h
  | some e => rw [q] at h; exact ⟨e, rfl, Option.some.inj h⟩
theorem Mine.nf_none {es : Array DictEntry} {x : Str} (h : nsFind es x = none) : es.any (·.key.isStr x) = false := by
  unfold nsFind findBy at h
  cases q : es.find? (·.key.isStr x) with
  | some e => rw [q] at h; cases h
  | none =>
    rw [Array.any_eq_false']
    rw [Array.find?_eq_none] at q
    intro e he
    simpa using q e he
theorem Mine.nf_any {es : Array DictEntry} {x : Str} {v : Value} (h : nsFind es x = some v) : es.any (·.key.isStr x) = true := by
  obtain ⟨e, h1, _⟩ := Mine.nf_some h
  rw [Array.any_eq_true']
  exact ⟨e, Array.mem_of_find?_eq_some h1, by simpa using Array.find?_some h1⟩

noncomputable def Mine.kNames : List Str := ["obj", "__doc__", "__qualname__", "__module__", "__firstlineno__", "__slots__", "__init__", "__lt__", "__gt__", "__eq__", "__le__", "__ge__", "__hash__", "__static_attributes__"]
noncomputable def Mine.kSlots (bA : Addr) (t qt : Tok) : Array (Option Value) := #[some (.ref bA), none, some (.str "K" t), some (.str Mine.kQ qt), some (.builtin "object.__new__"), some (.bool false)]
structure Mine.KCls (h : Heap) (a cl N : Addr) : Prop where
  ex : ∃ (dm bA f2 f3 nA P : Addr) (dt t qt : Tok) (mf : Str → Option Value),
    h.get? a = some (Mine.kcls N Mine.kQ [.ref a, .type "object"] (Mine.kSlots bA t qt) false ["obj"]) ∧ h.Ns N mf ∧
    mf "obj" = some (.ref dm) ∧ h.get? dm = some { cls := .type "member_descriptor", data := .fields #[.str "obj" dt, .ref a, .builtin "proto.slot", .builtin "proto.slot#set", rawInt 0] } ∧
    mf "__init__" = some (.ref f2) ∧ Mine.FnK h nA P f2 cl 2 "__init__" "cmp_to_key.<locals>.K.__init__" ∧
    mf "__lt__" = some (.ref f3) ∧ Mine.FnK h nA P f3 cl 3 "__lt__" "cmp_to_key.<locals>.K.__lt__" ∧
    ∀ nm, nm ∉ Mine.kNames → mf nm = none
end

section
open PySem PySem.W PySem.W.X PyProof.Rows PySem.Spec PySem.Calls
set_option Elab.async false
set_option maxRecDepth 100000
theorem Mine.bc_gi : typeLookup (.type "dict") "__getitem__" = pure (some (.builtin "dict.__getitem__")) := by rw [typeLookup_type, builtinLookup_eq_fast]; kernel_rfl
theorem Mine.ntm {who : String} {d : Addr} (h : d ≠ sysModules) : notTheModulesDict who d = pure () := by
  unfold notTheModulesDict
  rw [if_neg (by simpa using h)]
theorem Mine.ne_of_new {h : Heap} {a b : Addr} (x : ∃ o, h.get? a = some o) (y : h.get? b = none) : a ≠ b := by
  rintro rfl
  obtain ⟨o, e⟩ := x
  rw [e] at y; cases y
theorem Mine.get_none {h h' : Heap} (hk : ∀ b o, h.get? b = some o → h'.get? b = some o) {d : Addr} (x : h'.get? d = none) : h.get? d = none := by
  cases e : h.get? d with
  | none => rfl
  | some o => rw [hk _ _ e] at x; cases x
theorem Mine.newObjAsIs_abs {M : Model} {A : Around} {E : Value → Shared → Prop} {s : Shared} {T : String} {data : Data} {Q : Value → Shared → Prop} (hf : Obj.isFreed { cls := .type T, dict := none, data } = false)
    (h : ∀ b h', h'.get? b = some { cls := .type T, dict := none, data } → (∀ c o, s.heap.get? c = some o → h'.get? c = some o) → s.heap.get? b = none → Q (.ref b) { s with heap := h' }) : wpAny M A (newObjAsIs (.type T) data) Q E s :=
  wpAny_newObjAsIs_type (h _ _ (Heap.get?_push_size _ hf) (fun c o e => Heap.get?_push_of_some _ e) (Heap.get?_none_of_le (Nat.le_refl _)))
structure Mine.KTab (h h' : Heap) (P1 c P : Addr) (pos : Pos) (oP : Option (Addr × Addr)) : Prop where
  top : ∃ ps, h'.get? P1 = some (tabObj ps) ∧ TriplesOk ps.toList ∧ codeAmong pos ps.toList = some (.ref c)
  hd : CodeHd h' c P
  ne : P ≠ P1
  body : Mine.BTab h h' P Mine.qf
  newP : h.get? P = none ∨ oP = some (c, P)
  newC : h.get? c = none ∨ oP = some (c, P)
theorem Mine.OPre.keeps {h h' : Heap} {P1 : Addr} {ps : Array Value} {pos : Pos} {qf : Nat → Str} {oP : Option (Addr × Addr)} (x : Mine.OPre h P1 ps pos qf oP) (k : ∀ b o, h.get? b = some o → h'.get? b = some o) : Mine.OPre h' P1 ps pos qf oP := by
  cases oP with
  | none => exact x
  | some q =>
    obtain ⟨h1, h2, h3, ps', h4, h5, h6⟩ := x
    refine ⟨h1, h2.keeps k, h3, ps', k _ _ h4, h5, fun pos v e => ?_⟩
    obtain ⟨q1, ⟨c, o, vs, t, e1, e2, e3⟩, q3⟩ := h6 pos v e
    exact ⟨q1, ⟨c, o, vs, t, e1, k _ _ e2, e3⟩, fun c e => .inr ⟨ps', pos, k _ _ h4, ‹_›⟩⟩
set_option maxHeartbeats 1600000 in
theorem Mine.bc (oP : Option (Addr × Addr)) (prog : Program) (w : World) (A : Around) (s : Shared) (env : Env) (ln c1 P1 cl : Addr) (pos : Pos) (ps : Array Value) (mg ms : Str → Option Value) (nm : Str) (nt : Tok) (E Q : Value → Shared → Prop)
   (hA : A.handled = none) (hA2 : A.depth + 7 ≤ 800) (hA3 : A.units + 20 ≤ 5000) (hg : s.gens = #[])
   (hmg : s.heap.Ns mainGlobals mg) (hbm : ∃ bm o, mg "__builtins__" = some (.ref bm) ∧ bm ≠ builtinsNs ∧ bm ≠ mainGlobals ∧ s.heap.get? bm = some o ∧ o.cls = .type "module" ∧ o.dict = some builtinsNs ∧ o.data = .plain)
   (hnm : mg "__name__" = some (.str nm nt)) (hst : s.heap.Ns cStatics ms) (htp : ms "thirdparty.any" = none) (hrl : ms "sys.recursionlimit" = none) (hsys : ∃ o, s.heap.get? sysModules = some o)
   (hcode : env.code = .ref c1) (hC1 : CodeHd s.heap c1 P1) (hP1 : s.heap.get? P1 = some (tabObj ps)) (hps : TriplesOk ps.toList) (hnf : Mine.OPre s.heap P1 ps pos Mine.qf oP)
   (hgl : env.globals = mainGlobals) (hcl : closureFor Mine.kSc env = pure [(("mycmp" : Str), cl)])
   (hQ : ∀ a N c P h' tk, Mine.KCls h' a cl N → s.heap.get? a = none → s.heap.get? N = none → (∀ b o, b ≠ P1 → b ≠ P → s.heap.get? b = some o → h'.get? b = some o) → Mine.KTab s.heap h' P1 c P pos oP → Q (.ref a) ⟨h', #[], s.drawn, tk, s.os⟩) :
   wpAny (model prog w) A (buildClass "K" Mine.kQ [.type "object"] [] Mine.kBody Mine.kSc ["obj"] ln env pos none) Q E s := by
  unfold buildClass
  refine wpAny_bind (m := newTuple _) (Mine.newObj_abs (by size_fits) rfl fun bA H1 hb kH1 nb => ?_)
  refine wpAny_bind (m := forIn _ _ _) (Mine.forIn_one (x := Value.type "object") (wpAny_bind (wpAny_of_eq Mine.it1 (wpAny_ite_true rfl (wpAny_ite_false rfl (wpAny_pure ?_))))))
  refine wpAny_bind (m := typeOf _) (wpAny_of_eq (a := Value.type "type") (by kernel_rfl) ?_)
  refine wpAny_bind (wpAny_of_eq (a := true) (by kernel_rfl) (wpAny_ite_true rfl ?_))
  refine wpAny_bind (m := forIn _ _ _) (Mine.forIn_one (x := Value.type "object") (wpAny_bind (wpAny_of_eq Mine.to1 (wpAny_bind (wpAny_of_eq Mine.st3 (wpAny_ite_true rfl (wpAny_pure ?_)))))))
  refine wpAny_bind (wpAny_mkText ?_)
  refine wpAny_ite_false rfl (wpAny_bind (wpAny_pure (wpAny_holding ?_)))
  refine wpAny_bind (Mine.prep_attr (s := ⟨H1, s.gens, s.drawn, s.toks + 1, s.os⟩) hA (by lia) (by lia) hg fun mo H2 tk2 k2 m2 => ?_)
  refine wpAny_bind (Mine.wp_room hA (by lia) (by lia) (Mine.prepC prog w ⟨H2, #[], s.drawn, tk2, s.os⟩ rfl mo bA _ _ _ _ (k2 _ _ hb) m2 fun d H3 tk3 k3 hd nd => ?_))
  have K3 : ∀ b o, s.heap.get? b = some o → H3.get? b = some o := fun b o e => k3 _ _ (k2 _ _ (kH1 _ _ e))
  have nd0 : s.heap.get? d = none := Mine.get_none (fun b o e => k2 _ _ (kH1 _ _ e)) nd
  have dsys : d ≠ sysModules := (Mine.ne_of_new hsys nd0).symm
  have bAd : bA ≠ d := Mine.ne_of_new ⟨_, k2 _ _ hb⟩ nd
  refine wpAny_bind (m := notTheModulesDict _ _) (wpAny_of_eq (Mine.ntm dsys) ?_)
  refine wpAny_bind (wpAny_specialOf (T := "dict") ⟨_, hd, rfl⟩ Mine.bc_gi (wpAny_ite_false rfl (wpAny_holding ?_)))
  refine wpAny_ite_false (by kernel_rfl) (wpAny_bind (wpAny_pure (wpAny_ite_false (by kernel_rfl) (wpAny_bind (wpAny_pure ?_)))))
  refine wpAny_bind (Mine.cc_any (s := ⟨H3, #[], s.drawn, tk3, s.os⟩) hcode (hC1.keeps K3) (K3 _ _ hP1) hps (hnf.keeps K3) fun c P H4 tk4 ps4 x4 hd4c hB4 nP4 nc4 hP14 ht14 hf14 neP => ?_)
  refine Classical.byContradiction fun hG => ?_
  obtain ⟨psB, hP4, htB, hvB⟩ := hB4
  refine hG ?_
  clear hG
  have nP0 : s.heap.get? P = none ∨ oP = some (c, P) := nP4.imp (Mine.get_none K3) id
  have nc0 : s.heap.get? c = none ∨ oP = some (c, P) := nc4.imp (Mine.get_none K3) id
  have nw : ∀ v, Mine.NewC H3 P v → Mine.NewC s.heap P v := fun v q c' e => by
    rcases q c' e with q | ⟨ps0, pos0, q1, q2⟩
    · exact .inl (Mine.get_none K3 q)
    · rcases nP4 with n | n
      · rw [q1] at n; cases n
      · subst n
        obtain ⟨_, _, _, ps', z, _⟩ := hnf
        have := K3 _ _ z
        rw [q1] at this; cases this
        exact .inr ⟨_, pos0, z, q2⟩
  have x4' : ∀ b o, b ≠ P1 → s.heap.get? b = some o → H4.get? b = some o := fun b o n e => x4 b o n (K3 _ _ e)
  have nd1 : d ≠ P1 := (Mine.ne_of_new ⟨_, hP1⟩ nd0).symm
  have nbA1 : bA ≠ P1 := (Mine.ne_of_new ⟨_, hP1⟩ nb).symm
  have mgP : mainGlobals ≠ P1 := by
    rintro rfl
    obtain ⟨o, es, ep, e, q, _⟩ := hmg
    rw [hP1] at e; cases e; cases q
  have csP : cStatics ≠ P1 := by
    rintro rfl
    obtain ⟨o, es, ep, e, q, _⟩ := hst
    rw [hP1] at e; cases e; cases q
  have hmg4 : H4.Ns mainGlobals mg := by
    obtain ⟨o, es, ep, e, r⟩ := hmg
    exact ⟨o, es, ep, x4' _ _ mgP e, r⟩
  refine Classical.byContradiction fun hG => ?_
  obtain ⟨bm, ob, b1, b2, b3, b4, b5, b6, b7⟩ := hbm
  refine hG ?_
  clear hG
  have bmP : bm ≠ P1 := by
    rintro rfl
    rw [hP1] at b4; cases b4; cases b5
  have hd4 : H4.get? d = some ⟨.type "dict", none, .dict #[] 0, #[]⟩ := x4 _ _ nd1 hd
  rw [hgl]
  refine wpAny_bind (wpAny_builtinsFor hmg4 b1 b2 (x4' _ _ bmP b4) b5 b6 b7 ?_)
  refine wpAny_bind (m := newBodyFrame _ _ _ _) ?_
  unfold newBodyFrame
  refine wpAny_bind (wpAny_nsGet hmg4 ?_)
  refine Mine.alloc_abs rfl fun fr H5 hfr k5 nfr => ?_
  refine wpAny_bind (wpAny_of_eq hcl (wpAny_holding ?_))
  refine wpAny_bind (wpAny_enterFrame ?_ (by show A.depth < 1000; lia) ?_)
  · refine ⟨ms, ?_, hrl⟩
    obtain ⟨o, es, ep, e, r⟩ := hst
    exact ⟨o, es, ep, k5 _ _ (x4' _ _ csP e), r⟩
  refine wpAny_bind (wpAny_onRaise ?_)
  have ndP : d ≠ P := by
    rintro rfl
    have hP4' : H4.get? d = some (tabObj psB) := hP4
    rw [hP4'] at hd4; cases hd4
  have C0 : Mine.CB0 mg H5 d P c := by
    refine ⟨hmg4.keeps k5, ⟨bm, ob, b1, b2, b3, k5 _ _ (x4' _ _ bmP b4), b5, b6, b7⟩, hd4c.keeps k5, ?_, ?_, ?_, ndP, ⟨_, k5 _ _ hd4, rfl⟩, ⟨_, k5 _ _ hP4, rfl⟩⟩
    · obtain ⟨o, es, ep, e, _⟩ := hmg
      exact Mine.ne_of_new ⟨_, e⟩ nd0
    · obtain ⟨o, es, ep, e, q, _⟩ := hmg4
      rintro rfl
      rw [hP4] at e; cases e; cases q
    · rintro rfl
      obtain ⟨o, vs, _, _, _, _, _, _, _, e, q, _⟩ := hd4c
      rw [hd4] at e; cases e; simp at q
  have C5 : Mine.CB H5 d P Mine.qf (fun _ => none) 0 H5 := ⟨fun _ _ _ _ e => e, ⟨#[], 0, k5 _ _ hd4, fun e he => (by simp at he), fun _ => rfl, Nat.le_refl _, fun e he => (by simp at he)⟩, psB, k5 _ _ hP4, htB, fun pos v e => by
    obtain ⟨⟨c', e1, e2⟩, e3, e4⟩ := hvB pos v e
    refine ⟨⟨⟨c', e1, ?_, e2⟩, ?_⟩, fun c2 e5 => .inr ⟨psB, pos, k5 _ _ hP4, e⟩⟩
    · rintro rfl
      obtain ⟨c2, o, vs, t, q1, q2, q3, _⟩ := e3
      rw [e1] at q1; cases q1
      rw [hd4] at q2; cases q2; cases q3
    · obtain ⟨c2, o, vs, t, q1, q2, q3⟩ := e3
      exact ⟨c2, o, vs, t, q1, k5 _ _ q2, q3⟩⟩
  refine wpAny_bind (Mine.k_name (c := c) (fr := fr) (cl := cl) C5.bd rfl (hmg4.keeps k5) hnm ?_)
  refine wpAny_bind (Mine.cs_store (s := ⟨H5, #[], s.drawn, tk4, s.os⟩) rfl rfl (.inl rfl) C5 C0 (.inl ⟨_, _, rfl⟩) fun H6 C6 k6 => ?_)
  refine wpAny_bind (wpAny_mkText ?_)
  refine wpAny_bind (Mine.cs_store (s := ⟨H6, #[], s.drawn, tk4 + 1 + 1, s.os⟩) rfl rfl (.inr ⟨rfl, by kernel_rfl⟩) C6 C0 (.inl ⟨_, _, rfl⟩) fun H7 C7 k7 => ?_)
  refine wpAny_bind (wpAny_mkInt ?_)
  refine wpAny_bind (Mine.cs_store (s := ⟨H7, #[], s.drawn, tk4 + 1 + 1 + 1 + 1, s.os⟩) rfl rfl (.inr ⟨rfl, by kernel_rfl⟩) C7 C0 (.inr (.inl ⟨_, _, rfl⟩)) fun H8 C8 k8 => ?_)
  refine wpAny_pure ?_
  refine wpAny_bind (wpAny_run (codeAny_body (by rfl) (by rfl) (Mine.kbody (s := ⟨H8, #[], s.drawn, _, s.os⟩) C0 C8 fun lA f2 f3 f4 f5 f6 f7 md ot H9 tk9 hmd hlA lA1 lA2 F2 F3 C9 k9 => ?_)))
  refine wpAny_bind (wpAny_onRaise ?_)
  refine wpAny_bind (m := List.mapM _ _) (wpAny_mkStrs fun vs => ?_)
  refine wpAny_bind (m := newTextTuple _) ?_
  refine Mine.newObjAsIs_abs rfl fun sA H10 hsA k10 nsA => ?_
  have kp10 : Mine.Kp d P H9 H10 := fun b o _ _ e => k10 b o e
  have C10 : Mine.CB H5 d P Mine.qf _ _ H10 := ⟨fun b o n1 n2 e => k10 _ _ (C9.keep b o n1 n2 e), C9.bd.keeps k10, by
    obtain ⟨p0, q1, q2, q3⟩ := C9.tab
    exact ⟨p0, k10 _ _ q1, q2, fun pos v e => ⟨(q3 pos v e).1.kp kp10, (q3 pos v e).2⟩⟩⟩
  refine wpAny_bind (Mine.cs_store (s := ⟨H10, #[], s.drawn, _, s.os⟩) rfl rfl (.inr ⟨rfl, by kernel_rfl⟩) C10 C0 (.inr (.inr (.inr ⟨sA, _, "tuple", rfl, hsA, rfl, Mine.sn7⟩))) fun H11 C11 k11 => ?_)
  refine wpAny_pure (wpAny_ite_false rfl ?_)
  refine wpAny_bind ?_
  refine Classical.byContradiction fun hG => ?_
  obtain ⟨es, ep, hes1, hes2, hes3, hes4, hes5⟩ := C11.bd
  refine hG ?_
  clear hG
  have klA : H11.get? lA = some (seqObj "list" [Value.str "obj" ot].toArray 0) := k11 _ _ lA1 lA2 (k10 _ _ hlA)
  have kk : Mine.Kp d P H5 H11 := Mine.kp_trans (Mine.kp_trans (Mine.kp_trans k6 k7) (Mine.kp_trans k8 k9)) (Mine.kp_trans kp10 k11)
  have bAP : bA ≠ P := by
    rintro rfl
    have hP4' : H4.get? bA = some (tabObj psB) := hP4
    rw [x4 _ _ nbA1 (k3 _ _ (k2 _ _ hb))] at hP4'; cases hP4'
  have hbA : H11.get? bA = some ⟨.type "tuple", none, .seq #[.type "object"] 0, #[]⟩ := kk _ _ bAd bAP (k5 _ _ (x4 _ _ nbA1 (k3 _ _ (k2 _ _ hb))))
  have ndd : ∀ b o, s.heap.get? b = some o → b ≠ d := fun b o e => Mine.ne_of_new ⟨_, e⟩ nd0
  have kall : ∀ b o, b ≠ P1 → b ≠ P → s.heap.get? b = some o → H11.get? b = some o := fun b o n n2 e => kk _ _ (ndd _ _ e) n2 (k5 _ _ (x4' _ _ n e))
  have csP' : cStatics ≠ P := by
    rintro rfl
    obtain ⟨o, es, ep, e, q, _⟩ := hst
    have hP4' : H4.get? cStatics = some (tabObj psB) := hP4
    rw [x4' _ _ csP e] at hP4'; cases hP4'; cases q
  refine Classical.byContradiction fun hG => ?_
  obtain ⟨psE, hP11, htE, hvE⟩ := C11.tab
  obtain ⟨e, he1, he2⟩ := Mine.nf_some (x := "__slots__") ((hes3 _).trans (show _ = some (.ref lA) by rfl))
  refine hG ?_
  clear hG
  have hst11 : H11.Ns cStatics ms := by
    obtain ⟨o, es, ep, e, r⟩ := hst
    exact ⟨o, es, ep, kall _ _ csP csP' e, r⟩
  have fr : ∀ x, H11.get? x = none → s.heap.get? x = none := fun x m5 => by
    cases e : s.heap.get? x with
    | none => rfl
    | some o =>
      by_cases q : x = P1
      · subst q
        have := kk _ _ nd1.symm neP.symm (k5 _ _ hP14)
        rw [this] at m5; cases m5
      · by_cases q2 : x = P
        · subst q2; rw [hP11] at m5; cases m5
        · rw [kall _ _ q q2 e] at m5; cases m5
  refine Mine.mkK prog w A ⟨H11, #[], s.drawn, _, s.os⟩ bA d lA _ ot _ (.ref f5) .none es e ep 0 0 E _ ms hbA hes1 (by simpa using dsys) klA he1 he2 (Mine.nf_none ((hes3 _).trans (by rfl))) _ hes2 hes3 (by rfl) (by rfl) (by rfl) (by rfl) (by rfl) (by rfl) (by rfl) (Mine.nf_none ((hes3 _).trans (by rfl))) (by rfl) (by rfl) (by rfl) hes5 (by lia) (Mine.nf_any ((hes3 _).trans (by rfl)))
    hA (by lia) (by lia) rfl hst11 htp fun a N dm dt mf h' tk m1 m2 m3 m4 m5 m5' m6 m7 => ?_
  refine wpAny_pure (hQ a N c P h' _ ⟨⟨dm, bA, f2, f3, d, P, dt, _, _, mf, m7, m1, m2, m4, ?_, ?_, ?_, ?_, ?_⟩⟩ (fr a m5) (fr N m5') ?_ ⟨⟨ps4, m6 _ _ (kk _ _ nd1.symm neP.symm (k5 _ _ hP14)), ht14, hf14⟩, ?_, neP, ⟨psE, m6 _ _ hP11, htE, fun pos v e => ?_⟩, nP0, nc0⟩)
  · exact (m3 _ (by decide +kernel) (by decide +kernel) (by decide +kernel)).trans (by rfl)
  · exact (F2.kp (Mine.kp_trans kp10 k11)).kp fun b o _ _ e => m6 b o e
  · exact (m3 _ (by decide +kernel) (by decide +kernel) (by decide +kernel)).trans (by rfl)
  · exact (F3.kp (Mine.kp_trans kp10 k11)).kp fun b o _ _ e => m6 b o e
  · intro nm hn
    have hx : ∀ x ∈ Mine.kNames, nm ≠ x := fun x hx e => hn (e ▸ hx)
    refine (m3 nm (hx _ (by decide +kernel)) (hx _ (by decide +kernel)) (hx _ (by decide +kernel))).trans ?_
    unfold Mine.kMap
    have hu : ∀ (m : Str → Option Value) (x : Str) (v : Value), x ∈ Mine.kNames → m nm = none → Mine.up m x v nm = none := fun m x v q r => by
      unfold Mine.up; rw [if_neg (hx x q)]; exact r
    refine hu _ _ _ (by decide +kernel) (hu _ _ _ (by decide +kernel) (hu _ _ _ (by decide +kernel) (hu _ _ _ (by decide +kernel) (hu _ _ _ (by decide +kernel) (hu _ _ _ (by decide +kernel) (hu _ _ _ (by decide +kernel) (hu _ _ _ (by decide +kernel) (hu _ _ _ (by decide +kernel) (hu _ _ _ (by decide +kernel) ?_)))))))))
    exact hu _ _ _ (by decide +kernel) (hu _ _ _ (by decide +kernel) (hu _ _ _ (by decide +kernel) rfl))
  · exact fun b o n n2 e => m6 _ _ (kall b o n n2 e)
  · obtain ⟨o, vs, file, tf, flags, tg, inF, text, tt, q1, q2, q3, q4, q5, q6, q7, q8, q9, q10⟩ := hd4c
    refine ⟨o, vs, file, tf, flags, tg, inF, text, tt, m6 _ _ (kk _ _ ?_ q10 (k5 _ _ q1)), q2, q3, q4, q5, q6, q7, q8, q9, q10⟩
    rintro rfl
    rw [hd4] at q1; cases q1; cases q3
  · obtain ⟨⟨⟨c', e1, e2, e3⟩, e4⟩, e5⟩ := hvE pos v e
    refine ⟨⟨c', e1, e3⟩, ?_, fun c2 e6 => ?_⟩
    · obtain ⟨c2, o, vs, t, q1, q2, q3⟩ := e4
      exact ⟨c2, o, vs, t, q1, m6 _ _ q2, q3⟩
    · rcases e5 c2 e6 with q | ⟨ps0, pos0, q1, q2⟩
      · left
        cases z : s.heap.get? c2 with
        | none => rfl
        | some o =>
          by_cases n1 : c2 = P1
          · subst n1; rw [k5 _ _ hP14] at q; cases q
          · rw [k5 _ _ (x4' _ _ n1 z)] at q; cases q
      · have := k5 _ _ hP4
        rw [q1] at this; cases this
        exact nw v (hvB pos0 v q2).2.2 c2 e6
end

section
open PySem PySem.W PySem.W.X PyProof.Rows PySem.Spec PySem.Calls
set_option Elab.async false
set_option maxRecDepth 100000
structure Mine.KPre (h : Heap) (mg mb ms : Str → Option Value) (fa c1 P1 : Addr) (doc pm cdv ct : Value) (an : Option Addr) : Prop where
  nsg : h.Ns mainGlobals mg
  bm : ∃ bm o, mg "__builtins__" = some (.ref bm) ∧ bm ≠ builtinsNs ∧ bm ≠ mainGlobals ∧ h.get? bm = some o ∧ o.cls = .type "module" ∧ o.dict = some builtinsNs ∧ o.data = .plain
  nm : ∃ nm nt, mg "__name__" = some (.str nm nt)
  ob : mg "object" = none
  nsb : h.Ns builtinsNs mb
  ob2 : mb "object" = some (.type "object")
  bc : mb "__build_class__" = some (.builtin "__build_class__")
  st : h.Ns cStatics ms
  tp : ms "thirdparty.any" = none
  rl : ms "sys.recursionlimit" = none
  sys : ∃ o, h.get? sysModules = some o
  hd : CodeHd h c1 P1
  cq : h.CodeRec (.ref c1) "cmp_to_key"
  fn : ∃ o, h.get? fa = some o ∧ o.data = .func (Mine.fdN 1 "cmp_to_key" "cmp_to_key" .none .none doc pm an (.ref c1) ct)
theorem Mine.KPre.keeps {h h' : Heap} {mg mb ms : Str → Option Value} {fa c1 P1 : Addr} {doc pm cdv ct : Value} {an : Option Addr} (H : Mine.KPre h mg mb ms fa c1 P1 doc pm cdv ct an) (k : ∀ b o, h.get? b = some o → h'.get? b = some o) : Mine.KPre h' mg mb ms fa c1 P1 doc pm cdv ct an := by
  obtain ⟨bm, o, b1, b2, b3, b4, b5⟩ := H.bm
  obtain ⟨of, f1, f2⟩ := H.fn
  obtain ⟨os, q⟩ := H.sys
  exact ⟨H.nsg.keeps k, ⟨bm, o, b1, b2, b3, k _ _ b4, b5⟩, H.nm, H.ob, H.nsb.keeps k, H.ob2, H.bc, H.st.keeps k, H.tp, H.rl, ⟨os, k _ _ q⟩, H.hd.keeps k, H.cq.keeps k, ⟨of, k _ _ f1, f2⟩⟩
theorem Mine.evalArgs_false {M : Model} {A : Around} {E : Value → Shared → Prop} {s : Shared} {f : Value} {x : Sem Value} {rest : List (Bool × Sem Value)} {Q : Args → Shared → Prop}
    (h : wpAny M A (spliced ((false, x) :: rest)) (fun vs s' => Q ⟨vs, []⟩ s') E s) : wpAny M A (evalArgs f false ((false, x) :: rest) []) Q E s := by
  unfold evalArgs
  show wpAny M A (spliced ((false, x) :: rest) >>= _) Q E s
  refine wpAny_bind (wpAny_mono h (fun vs s' h' => ?_) fun _ _ x => x)
  exact wpAny_holding (wpAny_bind (wpAny_pure (wpAny_bind (wpAny_pure (wpAny_pure h')))))
theorem Mine.pa_bind (name qual : Str) (doc pm cdv ct v : Value) (an : Option Addr) : bindArgs (Mine.fdN 1 name qual .none .none doc pm an cdv ct) ⟨[v], []⟩ = pure [(("mycmp" : Str), v)] := by rfl
theorem Mine.KCls.same {h h' : Heap} {a cl N L : Addr} (x : Mine.KCls h a cl N) (hs : Heap.SameBut L h h') (hL : ∃ o es ep, h.get? L = some o ∧ o.data = .dict es ep) (hN : N ≠ L) : Mine.KCls h' a cl N := by
  obtain ⟨oL, esL, epL, hL1, hL2⟩ := hL
  have kp : ∀ b o, h.get? b = some o → (∀ es ep, o.data ≠ .dict es ep) → h'.get? b = some o := fun b o e n => (hs.2 b (by rintro rfl; rw [hL1] at e; cases e; exact n _ _ hL2)).trans e
  have kf : ∀ {f n nm q nA P}, Mine.FnK h nA P f cl n nm q → Mine.FnK h' nA P f cl n nm q := by
    rintro f n nm q nA P ⟨n1, n2, doc, pm, cv, ctv, ⟨e1, c, o, vs, t, e3, e4, e5, e6⟩, e7⟩
    exact ⟨n1, n2, doc, pm, cv, ctv, ⟨e1, c, o, vs, t, e3, kp _ _ e4 (fun es ep q => by rw [e5] at q; cases q), e5, e6⟩, kp _ _ e7 (fun es ep q => by cases q)⟩
  obtain ⟨dm, bA, f2, f3, nA, P, dt, t, qt, mf, x1, x2, x3, x4, x5, x6, x7, x8, x9⟩ := x.ex
  exact ⟨dm, bA, f2, f3, nA, P, dt, t, qt, mf, kp _ _ x1 (fun es ep q => by cases q), x2.sameBut hs hN, x3, kp _ _ x4 (fun es ep q => by cases q), x5, kf x6, x7, kf x8, x9⟩
theorem Mine.KTab.mono {h h' h'' : Heap} {P1 c P : Addr} {pos : Pos} {oP : Option (Addr × Addr)} (x : Mine.KTab h h' P1 c P pos oP) (k : ∀ b o, h'.get? b = some o → (∀ es ep, o.data ≠ .dict es ep) → h''.get? b = some o) : Mine.KTab h h'' P1 c P pos oP := by
  obtain ⟨⟨ps, a1, a2, a3⟩, ⟨o, vs, file, tf, flags, tg, inF, text, tt, q1, q2, q3, q4⟩, a4, ⟨psE, b1, b2, b3⟩, a5, a6⟩ := x
  refine ⟨⟨ps, k _ _ a1 (fun es ep q => by cases q), a2, a3⟩, ⟨o, vs, file, tf, flags, tg, inF, text, tt, k _ _ q1 (fun es ep q => by rw [q3] at q; cases q), q2, q3, q4⟩, a4, ⟨psE, k _ _ b1 (fun es ep q => by cases q), b2, fun pos v e => ?_⟩, a5, a6⟩
  obtain ⟨r1, ⟨c2, o2, vs2, t2, z1, z2, z3, z4⟩, r3⟩ := b3 pos v e
  exact ⟨r1, ⟨c2, o2, vs2, t2, z1, k _ _ z2 (fun es ep q => by rw [z3] at q; cases q), z3, z4⟩, r3⟩
theorem Mine.KTab.same {h h' h'' : Heap} {P1 c P L : Addr} {pos : Pos} {oP : Option (Addr × Addr)} (x : Mine.KTab h h' P1 c P pos oP) (hs : Heap.SameBut L h' h'') (_h1 : P1 ≠ L) (_h2 : P ≠ L) (hL : ∃ o es ep, h'.get? L = some o ∧ o.data = .dict es ep) : Mine.KTab h h'' P1 c P pos oP := by
  obtain ⟨oL, esL, epL, hL1, hL2⟩ := hL
  exact x.mono fun b o e n => (hs.2 b (by rintro rfl; rw [hL1] at e; cases e; exact n _ _ hL2)).trans e
theorem Mine.KTab.down {h h1 h' : Heap} {P1 c P : Addr} {ps : Array Value} {pos : Pos} {oP : Option (Addr × Addr)} (x : Mine.KTab h1 h' P1 c P pos oP) (hnf : Mine.OPre h P1 ps pos Mine.qf oP) (k : ∀ b o, h.get? b = some o → h1.get? b = some o) : Mine.KTab h h' P1 c P pos oP := by
  obtain ⟨psE, b1, b2, b3⟩ := x.body
  refine ⟨x.top, x.hd, x.ne, ⟨psE, b1, b2, fun pos v e => ?_⟩, x.newP.imp (Mine.get_none k) id, x.newC.imp (Mine.get_none k) id⟩
  obtain ⟨r1, r2, r3⟩ := b3 pos v e
  refine ⟨r1, r2, fun c' e => ?_⟩
  rcases r3 c' e with q | ⟨ps0, pos0, q1, q2⟩
  · exact .inl (Mine.get_none k q)
  · rcases x.newP with n | n
    · rw [q1] at n; cases n
    · subst n
      obtain ⟨_, _, _, ps', z, _⟩ := hnf
      have := k _ _ z
      rw [q1] at this; cases this
      exact .inr ⟨_, pos0, z, q2⟩
noncomputable def Mine.kStmt : Stmt := ((Mine.bo 1)[0]?).getD (.Pass ⟨0, 0, 0, 0⟩)
theorem Mine.kdef (oP : Option (Addr × Addr)) (prog : Program) (w : World) (A : Around) (s : Shared) (e : Env) (fa c1 P1 cl : Addr) (ps : Array Value) (mg mb ms mL : Str → Option Value) (doc pm cdv ct : Value) (an : Option Addr) (E : Value → Shared → Prop) (Q : Flow → Shared → Prop)
   (hA : A.handled = none) (hA2 : A.depth + 7 ≤ 800) (hA3 : A.units + 20 ≤ 5000) (hg : s.gens = #[]) (H : Mine.KPre s.heap mg mb ms fa c1 P1 doc pm cdv ct an)
   (hP1 : s.heap.get? P1 = some (tabObj ps)) (hps : TriplesOk ps.toList) (hnf : Mine.OPre s.heap P1 ps Mine.kPos Mine.qf oP)
   (e1 : e.scope = Mine.sc 1) (e2 : e.globals = mainGlobals) (e3 : e.builtins = builtinsNs) (e4 : e.code = .ref c1) (e5 : s.heap.Ns e.locals mL) (e6 : closureFor Mine.kSc e = pure [(("mycmp" : Str), cl)]) (e7 : qualnameIn e "K" "K" = Mine.kQ)
   (hQ : ∀ a N c P h' tk, Mine.KCls h' a cl N → s.heap.get? a = none → (∀ b o, b ≠ P1 → b ≠ P → b ≠ e.locals → s.heap.get? b = some o → h'.get? b = some o) → h'.Ns e.locals (fun x => if x = "K" then some (.ref a) else mL x) → Mine.KTab s.heap h' P1 c P Mine.kPos oP → Q .next ⟨h', #[], s.drawn, tk, s.os⟩) :
   wpAny (model prog w) A (exec Mine.kStmt e) Q E s := by
  show wpAny _ _ (exec (.ClassDef "K" [.Name "object" _] [] Mine.kBody [] [] Mine.kSc none "K" ["obj"] Mine.kPos) e) _ _ _
  rw [arm_exec_ClassDef, e7]
  refine wpAny_bind (evalAll_nil (wpAny_bind (wpAny_standAt (wpAny_bind ?_))))
  unfold buildClassGuard
  rw [e3]
  refine wpAny_bind (wpAny_nsGet H.nsb ?_)
  rw [H.bc]
  refine wpAny_pure ?_
  refine wpAny_bind (wpAny_holding (wpAny_bind (Mine.evalArgs_false (Calls.spliced_cons (Calls.Name_function_global (by rw [e1]; rfl) (by unfold Env.kindOf; rw [e1]; rfl) (Calls.loadGlobal_builtin (mg := mg) (mb := mb) (by rw [e2]; exact H.nsg) H.ob (by rw [e3]; exact H.nsb) H.ob2 (Calls.spliced_nil ?_)) rfl)))))
  obtain ⟨nm, nt, hnm⟩ := H.nm
  refine wpAny_bind (wpAny_standAt (wpAny_holding ?_))
  refine Mine.bc oP prog w A s e _ c1 P1 cl Mine.kPos ps mg ms nm nt E _ hA hA2 hA3 hg H.nsg H.bm hnm H.st H.tp H.rl H.sys e4 H.hd hP1 hps hnf e2 e6 fun a N c P h' tk k1 k2 k3 k4 k5 => ?_
  refine wpAny_bind (wpAny_pure (wpAny_bind (wpAny_standAt (wpAny_bind (wpAny_bindName ?_)))))
  have hLP : e.locals ≠ P1 := by
    intro q
    obtain ⟨o, es, ep, e, d, _⟩ := e5
    rw [q, hP1] at e; cases e; cases d
  obtain ⟨psE, hPE, htE, hvE⟩ := k5.body
  have hLP2 : e.locals ≠ P := by
    intro q
    obtain ⟨o, es, ep, e0, d, _⟩ := e5
    rw [q] at e0
    rcases k5.newP with n | n
    · rw [n] at e0; cases e0
    · subst n
      obtain ⟨_, _, _, ps', z, _⟩ := hnf
      rw [show s.heap.get? P = _ from z] at e0; cases e0; cases d
  have nsL : h'.Ns e.locals mL := by
    obtain ⟨o, es, ep, e0, r⟩ := e5
    exact ⟨o, es, ep, k4 _ _ hLP hLP2 e0, r⟩
  refine wpAny_storeName_local (s := ⟨h', #[], s.drawn, tk, s.os⟩) (by unfold Env.kindOf; rw [e1]; rfl) nsL (fun h2 n2 s2 => wpAny_pure ?_) (by rw [e1]; rfl)
  have hN : N ≠ e.locals := by
    rintro rfl
    obtain ⟨o, es, ep, e, d, _⟩ := e5
    rw [k3] at e; cases e
  refine hQ a N c P h2 _ (k1.same s2 ?_ hN) k2 (fun b o n1 n3 n2 e => (s2.2 b n2).trans (k4 b o n1 n3 e)) n2 (k5.same s2 hLP.symm hLP2.symm (by obtain ⟨o, es, ep, e, d, _⟩ := nsL; exact ⟨o, es, ep, e, d⟩))
  obtain ⟨o, es, ep, e, d, _⟩ := nsL
  exact ⟨o, es, ep, e, d⟩
set_option maxHeartbeats 1600000 in
theorem Mine.cmpk (oP : Option (Addr × Addr)) (prog : Program) (w : World) (A : Around) (s : Shared) (fa c1 P1 g : Addr) (ps : Array Value) (mg mb ms : Str → Option Value) (doc pm cdv ct : Value) (an : Option Addr) (E Q : Value → Shared → Prop)
   (hA : A.handled = none) (hA2 : A.depth + 10 ≤ 800) (hA3 : A.units + 40 ≤ 5000) (hg : s.gens = #[]) (H : Mine.KPre s.heap mg mb ms fa c1 P1 doc pm cdv ct an)
   (hP1 : s.heap.get? P1 = some (tabObj ps)) (hps : TriplesOk ps.toList) (hnf : Mine.OPre s.heap P1 ps Mine.kPos Mine.qf oP)
   (hQ : ∀ a N cl c P h' tk, Mine.KCls h' a cl N → h'.IsCell cl (some (.ref g)) → s.heap.get? a = none → s.heap.get? cl = none → (∀ b o, b ≠ P1 → b ≠ P → s.heap.get? b = some o → h'.get? b = some o) → Mine.KTab s.heap h' P1 c P Mine.kPos oP → Q (.ref a) ⟨h', #[], s.drawn, tk, s.os⟩) :
   wpAny (model prog w) A (call (.ref fa) [.ref g]) Q E s := by
  obtain ⟨of, hf1, hf2⟩ := H.fn
  refine wpAny_call (codeAny_call_cells (body := Mine.bo 1) (binds := [("mycmp", .ref g)]) (by show A.depth < 1000; lia) hf1 hf2 ⟨ms, H.st, H.rl⟩ H.cq rfl (Mine.pa_bind _ _ _ _ _ _ _ _) rfl (fun x hx => ?_) (fun s1 hin => ?_) rfl rfl rfl)
  · obtain rfl : x = (("mycmp" : Str), Value.ref g) := by simpa using hx
    exact .inr ⟨rfl, rfl⟩
  · obtain ⟨h1, tk1, rfl, k1⟩ := hin.done
    have ns0 := hin.toInCall.ns
    have hcell : h1.IsCell (s.heap.objs.size + 1) (some (.ref g)) := hin.cell "mycmp" (s.heap.objs.size + 1) rfl
    generalize hl : s.heap.objs.size = L at *
    have hns : s.heap.get? L = none := Heap.get?_none_of_le (Nat.le_of_eq hl)
    have hns1 : s.heap.get? (L + 1) = none := Heap.get?_none_of_le (by lia)
    refine wpAny_execs_cons (Mine.kdef oP prog w _ ⟨h1, s.gens, s.drawn, tk1, s.os⟩ _ fa c1 P1 (L + 1) ps mg mb ms _ doc pm cdv ct an _ _ hA ?_ ?_ hg (H.keeps k1) (k1 _ _ hP1) hps (hnf.keeps k1) rfl rfl rfl rfl ns0 rfl rfl fun a N c P h' tk m1 m2 m3 m4 m5 => ?_)
    · show A.depth + 1 + 7 ≤ 800; lia
    · show A.units + 3 + 20 ≤ 5000; lia
    have hP1L : ∀ b o, s.heap.get? b = some o → b ≠ L := fun b o e q => by rw [q, hns] at e; cases e
    refine wpAny_execs_cons (wpAny_Return_some (wpAny_Name (wpAny_loadName_local rfl rfl m4 (if_pos rfl) ?_) rfl))
    obtain ⟨oc, c1', c2'⟩ := hcell
    have np : L + 1 ≠ P1 := fun q => by rw [q, hP1] at hns1; cases hns1
    have np2 : L + 1 ≠ P := fun q => by
      rcases m5.newP with n | n
      · rw [← q, c1'] at n; cases n
      · subst n
        obtain ⟨_, _, _, ps', z, _⟩ := hnf
        rw [q, show s.heap.get? P = _ from z] at hns1
        cases hns1
    refine hQ a N (L + 1) c P h' _ m1 ⟨oc, m3 _ _ np np2 (by show L + 1 ≠ L; lia) c1', c2'⟩ (Mine.get_none k1 m2) hns1 (fun b o n n2 e => m3 b o n n2 (hP1L b o e) (k1 _ _ e)) (m5.down hnf k1)
end

section
open PySem PySem.W PySem.W.X PyProof.Rows PySem.Spec PySem.Calls
set_option Elab.async false
set_option maxRecDepth 100000
theorem Mine.ob_mro : mroOf (.type "object") = pure [.type "object"] := by kernel_rfl
section
variable {prog : Program} {w : World} {A : Around} {E : Value → Shared → Prop} {h : Heap} {g : Array GenState} {d : Drawn} {t : Nat} {os : OsState} {a N bA : Addr} {kt qt : Tok} {mf : Str → Option Value}
theorem Mine.k_type {M : Model} {name : Str} {y : Option Value} {Q : Option Value → Shared → Prop} (hC : h.get? a = some (Mine.kcls N Mine.kQ [.ref a, .type "object"] (Mine.kSlots bA kt qt) false ["obj"])) (hn : h.Ns N mf) (hB : typeLookup (.type "object") name = pure y)
    (hq : Q (match mf name with | some v => some v | none => y) ⟨h, g, d, t, os⟩) : wpAny M A (typeLookup (.ref a) name) Q E ⟨h, g, d, t, os⟩ :=
  wpAny_typeLookup_exc (C := a) (bm := [.type "object"]) (newId := "object.__new__") hC hn Mine.ob_mro hB hq
theorem Mine.k_check {M : Model} {rest : List Value} {Q : Unit → Shared → Prop}
    (hC : h.get? a = some (Mine.kcls N Mine.kQ [.ref a, .type "object"] (Mine.kSlots bA kt qt) false ["obj"])) (hq : Q () ⟨h, g, d, t, os⟩) :
    wpAny M A (checkBuiltinCall "object.__new__" ⟨.ref a :: rest, []⟩) Q E ⟨h, g, d, t, os⟩ := by
  have hC' : h.get? a = some (excClassObj "K" Mine.kQ a N [.type "object"] [.type "object"] false ["obj"] [] false none none (some (.ref bA)) none (some (.str "K" kt)) (some (.str Mine.kQ qt)) (some (.bool false)) "object.__new__") := hC
  have hcont : (Value.ref a :: [Value.type "object"]).contains (.type "object") = true := by rw [List.contains_cons, show [Value.type "object"].contains (.type "object") = true from by decide, Bool.or_true]
  unfold checkBuiltinCall
  rw [F.objNew.kind, F.objNew.split, F.objNew.row]
  refine wpAny_ite_true rfl ?_
  refine wpAny_bind (m := isType _) ?_
  unfold isType
  refine wpAny_bind (wpAny_loadPart_at hC ?_)
  refine wpAny_pure ?_
  refine wpAny_ite_false rfl ?_
  refine wpAny_bind (wpAny_isSubtype_exc hC' ?_)
  rw [hcont]
  refine wpAny_ite_false rfl ?_
  refine wpAny_bind (m := Bind.staticBase _) (wpAny_staticBase_exc hC' ?_)
  refine wpAny_bind (m := Bind.madeBy _) (wpAny_madeBy_exc hC' ?_)
  refine wpAny_ite_false ?_ ?_
  · rw [F.objNew.canon.symm.trans rfl]; kernel_rfl
  show wpAny _ _ (Bind.checkArgs "object.__new__" _ _) _ _ _
  repeat wp_step
  exact hq
theorem Mine.k_made {M : Model} {v : Value} {f2 : Addr} {Q : PySem.Fin → Shared → Prop}
    (hC : h.get? a = some (Mine.kcls N Mine.kQ [.ref a, .type "object"] (Mine.kSlots bA kt qt) false ["obj"])) (hn : h.Ns N mf) (hi : mf "__init__" = some (.ref f2))
    (hq : ∀ x dx h', (∀ b o, h.get? b = some o → h'.get? b = some o) → h.get? x = none → h'.get? x = some { cls := .ref a, dict := some dx, data := .plain } → h'.get? dx = some { cls := .type "dict", data := .dict #[] } → h.get? dx = none → x ≠ dx → Q (.done (.ret (.ref x))) ⟨h', g, d, t, os⟩) :
    wpAny M A (Builtin.«object.__new__» ⟨[.ref a, v], []⟩) Q E ⟨h, g, d, t, os⟩ := by
  have hC' : h.get? a = some (excClassObj "K" Mine.kQ a N [.type "object"] [.type "object"] false ["obj"] [] false none none (some (.ref bA)) none (some (.str "K" kt)) (some (.str Mine.kQ qt)) (some (.bool false)) "object.__new__") := hC
  unfold Builtin.«object.__new__»
  refine wpAny_bind (m := isType _) ?_
  unfold isType
  refine wpAny_bind (wpAny_loadPart_at hC (wpAny_pure ?_))
  refine wpAny_ite_false rfl ?_
  refine wpAny_bind (wpAny_madeHere_exc rfl hC' ?_)
  refine wpAny_ite_true rfl ?_
  refine wpAny_bind (m := Bind.madeBy _) (wpAny_madeBy_exc hC' ?_)
  refine wpAny_bind (Mine.k_type hC hn (y := some (.builtin "object.__init__")) (by rw [typeLookup_type, builtinLookup_eq_fast]; kernel_rfl) ?_)
  rw [hi]
  refine wpAny_ite_false (by rw [bne_self_eq_false]; rfl) (wpAny_ite_false rfl ?_)
  refine wpAny_bind (m := classData _) (wpAny_bind (wpAny_load hC (wpAny_pure ?_)))
  refine wpAny_ite_false rfl ?_
  refine wpAny_ite_true rfl ?_
  refine wpAny_bind (m := some <$> alloc _) (wpAny_map (Mine.alloc_abs rfl fun dx H1 hdx k1 nd => ?_))
  refine wpAny_bind (m := newObj _ _ _) ?_
  unfold newObj newObjAsIs
  refine wpAny_bind (m := alloc _) (Mine.alloc_abs rfl fun x H2 hx k2 nx => ?_)
  refine wpAny_bind (m := classHasDel _) ?_
  unfold classHasDel
  refine wpAny_bind (wpAny_loadPart (o := Mine.kcls N Mine.kQ [.ref a, .type "object"] (Mine.kSlots bA kt qt) false ["obj"]) (k2 _ _ (k1 _ _ hC)) (wpAny_pure (wpAny_ite_false rfl ?_)))
  refine wpAny_pure (wpAny_pure (hq x dx H2 (fun b o e => k2 _ _ (k1 _ _ e)) (Mine.get_none k1 nx) hx (k2 _ _ hdx) nd (Mine.ne_of_new ⟨_, hdx⟩ nx).symm))
theorem Mine.k_init {v : Value} {f2 : Addr} {fd : FuncData} {Q : PySem.Fin → Shared → Prop}
    (hC : h.get? a = some (Mine.kcls N Mine.kQ [.ref a, .type "object"] (Mine.kSlots bA kt qt) false ["obj"])) (hn : h.Ns N mf) (hi : mf "__init__" = some (.ref f2)) (hf2 : h.get? f2 = some { cls := .type "function", data := .func fd })
    (hq : ∀ x dx h', (∀ b o, h.get? b = some o → h'.get? b = some o) → h.get? x = none → h'.get? x = some { cls := .ref a, dict := some dx, data := .plain } → h'.get? dx = some { cls := .type "dict", data := .dict #[] } → h.get? dx = none → x ≠ dx →
      wpAny (model prog w) A (call (.ref f2) [.ref x, v]) (fun r s' => r = .none ∧ Q (.done (.ret (.ref x))) s') E ⟨h', g, d, t, os⟩) :
    wpAny (model prog w) A (Builtin.«type.__call__» ⟨[.ref a, v], []⟩) Q E ⟨h, g, d, t, os⟩ := by
  have hC' : h.get? a = some (excClassObj "K" Mine.kQ a N [.type "object"] [.type "object"] false ["obj"] [] false none none (some (.ref bA)) none (some (.str "K" kt)) (some (.str Mine.kQ qt)) (some (.bool false)) "object.__new__") := hC
  unfold Builtin.«type.__call__»
  refine wpAny_ite_false rfl ?_
  refine wpAny_bind (m := mroOf _) (wpAny_mroOf_exc hC' ?_)
  refine wpAny_ite_false rfl ?_
  refine wpAny_bind (m := Bind.madeBy _) (wpAny_madeBy_exc hC' (wpAny_bind (wpAny_pure ?_)))
  refine wpAny_bind (wpAny_holding (wpAny_call (codeAny_call_builtin (by decide +kernel) F.entry_object_new (Mine.k_check hC ?_))))
  refine Mine.k_made hC hn hi fun x dx h' k1 nx hx hdx nd nxd => ?_
  have hC1 := k1 _ _ hC
  have hC1' : h'.get? a = some (excClassObj "K" Mine.kQ a N [.type "object"] [.type "object"] false ["obj"] [] false none none (some (.ref bA)) none (some (.str "K" kt)) (some (.str Mine.kQ qt)) (some (.bool false)) "object.__new__") := hC1
  refine wpAny_bind (m := isInstance _ _) ?_
  unfold isInstance
  refine wpAny_bind (m := typeOf _) (wpAny_typeOf_ref hx ?_)
  refine wpAny_isSubtype_exc (base := .ref a) hC1' ?_
  rw [show (Value.ref a :: [Value.type "object"]).contains (.ref a) = true by simp]
  refine wpAny_ite_false rfl ?_
  refine wpAny_bind (wpAny_holding ?_)
  unfold callSpecial?
  refine wpAny_bind (m := specialOf _ _) ?_
  unfold specialOf
  refine wpAny_bind (m := typeOf _) (wpAny_typeOf_ref hx ?_)
  refine Mine.k_type (bA := bA) (kt := kt) (qt := qt) hC1 (hn.keeps k1) (y := some (.builtin "object.__init__")) (by rw [typeLookup_type, builtinLookup_eq_fast]; kernel_rfl) ?_
  rw [hi]
  refine wpAny_holding (wpAny_bind (m := bindSpecial _ _) ?_)
  unfold bindSpecial
  refine wpAny_bind (m := typeOf _) (wpAny_typeOf_ref (k1 _ _ hf2) (wpAny_ite_true rfl (wpAny_pure ?_)))
  refine wpAny_bind (wpAny_mono (hq x dx h' k1 nx hx hdx nd nxd) (fun r s' hr => ?_) fun _ _ z => z)
  obtain ⟨rfl, hr⟩ := hr
  exact wpAny_pure (wpAny_ite_false rfl (wpAny_pure hr))
theorem Mine.k_call {v : Value} {f2 : Addr} {fd : FuncData} {Q : Value → Shared → Prop}
    (hC : h.get? a = some (Mine.kcls N Mine.kQ [.ref a, .type "object"] (Mine.kSlots bA kt qt) false ["obj"])) (hn : h.Ns N mf) (hi : mf "__init__" = some (.ref f2)) (hf2 : h.get? f2 = some { cls := .type "function", data := .func fd })
    (hq : ∀ x dx h', (∀ b o, h.get? b = some o → h'.get? b = some o) → h.get? x = none → h'.get? x = some { cls := .ref a, dict := some dx, data := .plain } → h'.get? dx = some { cls := .type "dict", data := .dict #[] } → h.get? dx = none → x ≠ dx →
      wpAny (model prog w) (A.under (.builtin "type.__call__" ⟨[.ref a, v], []⟩)) (call (.ref f2) [.ref x, v]) (fun r s' => r = .none ∧ Q (.ref x) s') E ⟨h', g, d, t, os⟩) :
    wpAny (model prog w) A (call (.ref a) [v]) Q E ⟨h, g, d, t, os⟩ := by
  have hC' : h.get? a = some (excClassObj "K" Mine.kQ a N [.type "object"] [.type "object"] false ["obj"] [] false none none (some (.ref bA)) none (some (.str "K" kt)) (some (.str Mine.kQ qt)) (some (.bool false)) "object.__new__") := hC
  have f1 := tc_lookup
  have f2 := tc_bind (.ref a)
  have hT : (⟨h, g, d, t, os⟩ : Shared).TypeIs (.ref a) "type" := ⟨_, hC, rfl⟩
  refine wpAny_call (codeAny_of_tree ?_)
  show wpAny _ _ (callAny (.ref a) _) _ _ _
  repeat (any_goals (first | assumption | with_reducible refine wpAny_loadPart_at hC' ?_ | wp_step))
  refine ⟨rfl, ?_⟩
  refine codeAny_call_builtin_at (Code.quiet_builtin _ (by decide +kernel)) entry_typeCall (wpAny_check_type_call_sub hC' ?_)
  exact Mine.k_init hC hn hi hf2 hq
end
end

section
open PySem PySem.W PySem.W.X PyProof.Rows PySem.Spec PySem.Calls
set_option Elab.async false
set_option maxRecDepth 100000
noncomputable def Mine.dmObj (a : Addr) (dt : Tok) : Obj := { cls := .type "member_descriptor", data := .fields #[.str "obj" dt, .ref a, .builtin "proto.slot", .builtin "proto.slot#set", rawInt 0] }
noncomputable def Mine.kObj (a dx : Addr) (sl : Array (Option Value)) : Obj := { cls := .ref a, dict := some dx, data := .plain, slots := sl }
theorem Mine.slotSet : Slot "member_descriptor" "__set__" "member_descriptor.__set__" := .of (owner := "member_descriptor") (n := "__set__") (by rw [typeLookup_type, builtinLookup_eq_fast]; kernel_rfl) (by decide +kernel) (by decide +kernel) (by decide +kernel)
    (by first | exact .inl (by decide +kernel) | exact .inr (by decide +kernel)) (by rw [isSubtype_type]; kernel_rfl)
theorem Mine.entSet : entryFor table "member_descriptor.__set__" = some Builtin.«member_descriptor.__set__» := entryFor_of_tree (by kernel_rfl)
theorem Mine.argSet (x y z : Value) : argsOk "member_descriptor.__set__" ⟨[x, y, z], []⟩ := by unfold argsOk; kernel_rfl
theorem Mine.entSl : entryFor table "proto.slot#set" = some Builtin.«proto.slot#set» := entryFor_of_tree (by kernel_rfl)
theorem Mine.args_pure {id : String} {args : Args} (h : argsOk id args) : (match Manifest.signature? id with | some sig => Bind.checkArgs id sig args | _ => pure ()) = pure () := by
  unfold argsOk at h
  split
  · rename_i sig hs
    rw [hs] at h
    exact h
  · rfl
section
variable {prog : Program} {w : World} {A : Around} {E : Value → Shared → Prop} {h : Heap} {g : Array GenState} {d : Drawn} {t : Nat} {os : OsState} {a N bA dm x dx : Addr} {kt qt dt : Tok} {mf : Str → Option Value} {sl : Array (Option Value)} {v : Value}
theorem Mine.k_tgt {M : Model} {Q : Addr × Nat × Str → Shared → Prop} (hC : h.get? a = some (Mine.kcls N Mine.kQ [.ref a, .type "object"] (Mine.kSlots bA kt qt) false ["obj"])) (hd : h.get? dm = some (Mine.dmObj a dt)) (hx : h.get? x = some (Mine.kObj a dx sl))
    (hq : Q (x, 0, "obj") ⟨h, g, d, t, os⟩) : wpAny M A (Builtin.Slots.target (.ref x) (.ref dm)) Q E ⟨h, g, d, t, os⟩ := by
  unfold Builtin.Slots.target
  refine wpAny_bind (wpAny_field hd rfl (x := rawInt 0) rfl ?_)
  refine wpAny_bind (wpAny_field hd rfl (x := .str "obj" dt) rfl ?_)
  refine wpAny_bind (m := typeOf _) (wpAny_typeOf_ref hx ?_)
  refine wpAny_bind (m := Builtin.Slots.slotNamesOf _) ?_
  unfold Builtin.Slots.slotNamesOf classData
  refine wpAny_bind (wpAny_bind (wpAny_load hC (wpAny_pure (wpAny_pure ?_))))
  refine wpAny_ite_false rfl (wpAny_pure ?_)
  exact hq
theorem Mine.k_dset {Q : Value → Shared → Prop} (hC : h.get? a = some (Mine.kcls N Mine.kQ [.ref a, .type "object"] (Mine.kSlots bA kt qt) false ["obj"])) (hd : h.get? dm = some (Mine.dmObj a dt)) (hx : h.get? x = some (Mine.kObj a dx #[]))
    (hq : ∀ h', Heap.SameBut x h h' → h'.get? x = some (Mine.kObj a dx #[some v]) → Q .none ⟨h', g, d, t, os⟩) :
    wpAny (model prog w) A (call (.builtin "member_descriptor.__set__") [.ref dm, .ref x, v]) Q E ⟨h, g, d, t, os⟩ := by
  have hC' : h.get? a = some (excClassObj "K" Mine.kQ a N [.type "object"] [.type "object"] false ["obj"] [] false none none (some (.ref bA)) none (some (.str "K" kt)) (some (.str Mine.kQ qt)) (some (.bool false)) "object.__new__") := hC
  refine wpAny_call (codeAny_call_builtin Mine.slotSet.plain Mine.entSet (Mine.slotSet.check _ _ _ _ _ _ _ _ ⟨_, hd, rfl⟩ (Mine.argSet _ _ _) ?_))
  unfold Builtin.«member_descriptor.__set__» Builtin.Getset_descriptor.descrSet
  refine wpAny_ite_false rfl ?_
  unfold Builtin.Getset_descriptor.descrStoreThrough
  refine wpAny_bind (m := Builtin.Getset_descriptor.descrCheckInstance _ _) ?_
  unfold Builtin.Getset_descriptor.descrCheckInstance
  refine wpAny_bind (m := Builtin.Getset_descriptor.descrNameAndClass _) ?_
  unfold Builtin.Getset_descriptor.descrNameAndClass
  refine wpAny_bind (wpAny_field hd rfl (x := .str "obj" dt) rfl ?_)
  refine wpAny_bind (wpAny_field hd rfl (x := .ref a) rfl (wpAny_pure ?_))
  refine wpAny_bind (m := isInstance _ _) ?_
  unfold isInstance
  refine wpAny_bind (m := typeOf _) (wpAny_typeOf_ref hx ?_)
  refine wpAny_isSubtype_exc (base := .ref a) hC' ?_
  rw [show (Value.ref a :: [Value.type "object"]).contains (.ref a) = true by simp]
  refine wpAny_ite_false rfl (wpAny_pure ?_)
  refine wpAny_bind (m := Builtin.Getset_descriptor.descrItself _) ?_
  unfold Builtin.Getset_descriptor.descrItself
  refine wpAny_bind (wpAny_fieldsOf hd rfl (wpAny_pure ?_))
  refine wpAny_bind (wpAny_field hd rfl (x := .builtin "proto.slot#set") rfl ?_)
  refine wpAny_bind (wpAny_rule ?_)
  refine wpAny_pure ⟨Code.quiet_builtin _ (by decide +kernel), codeAny_builtin (args := ⟨[.ref x, v, .ref dm], []⟩) Mine.entSl ?_⟩
  unfold Builtin.«proto.slot#set»
  refine wpAny_bind (Mine.k_tgt hC hd hx ?_)
  refine wpAny_bind (Mine.setSlot_abs (o' := Mine.kObj a dx #[some v]) hx (by decide) rfl rfl fun h' hx' hs => ?_)
  exact wpAny_pure (hq h' hs hx')
theorem Mine.k_seta {tk : Tok} {Q : PySem.Fin → Shared → Prop} (hC : h.get? a = some (Mine.kcls N Mine.kQ [.ref a, .type "object"] (Mine.kSlots bA kt qt) false ["obj"])) (hn : h.Ns N mf) (ho : mf "obj" = some (.ref dm)) (hd : h.get? dm = some (Mine.dmObj a dt)) (hx : h.get? x = some (Mine.kObj a dx #[]))
    (hq : ∀ h', Heap.SameBut x h h' → h'.get? x = some (Mine.kObj a dx #[some v]) → Q (.done (.ret .none)) ⟨h', g, d, t, os⟩) :
    wpAny (model prog w) A (Builtin.«object.__setattr__» ⟨[.ref x, .str "obj" tk, v], []⟩) Q E ⟨h, g, d, t, os⟩ := by
  have hC' : h.get? a = some (excClassObj "K" Mine.kQ a N [.type "object"] [.type "object"] false ["obj"] [] false none none (some (.ref bA)) none (some (.str "K" kt)) (some (.str Mine.kQ qt)) (some (.bool false)) "object.__new__") := hC
  unfold Builtin.«object.__setattr__»
  refine wpAny_ite_false rfl ?_
  refine wpAny_bind (m := Builtin.ObjectAttr.refuseIfOverridden (.ref x) "__setattr__") ?_
  rw [refuse_eq]
  refine wpAny_bind (m := typeOf _) (wpAny_typeOf_ref hx (wpAny_bind (m := mroOf _) (wpAny_mroOf_exc hC' ?_)))
  rw [refuseLoop_ref, F.store_object.passes]
  refine wpAny_pure (wpAny_bind (m := Builtin.ObjectAttr.attrName _) (wpAny_pure ?_))
  refine wpAny_bind (m := typeOf _) (wpAny_typeOf_ref hx ?_)
  refine wpAny_bind (Mine.k_type hC hn (y := none) (by rw [typeLookup_type, builtinLookup_eq_fast]; kernel_rfl) ?_)
  rw [ho]
  refine wpAny_bind (m := Builtin.ObjectAttr.storeTaker? _) ?_
  unfold Builtin.ObjectAttr.storeTaker?
  refine wpAny_bind (m := Builtin.ObjectAttr.takesStores _) ?_
  unfold Builtin.ObjectAttr.takesStores
  refine wpAny_bind (wpAny_specialOf (T := "member_descriptor") ⟨_, hd, rfl⟩ Mine.slotSet.lookup (wpAny_ite_true rfl (wpAny_pure (wpAny_ite_true rfl (wpAny_pure ?_)))))
  show wpAny _ _ (Builtin.ObjectAttr.setByDescriptor (.ref dm) (.ref x) v) _ _ _
  unfold Builtin.ObjectAttr.setByDescriptor
  refine wpAny_bind (wpAny_rule (wpAny_bind (wpAny_holding (wpAny_callSpecial?_slot (T := "member_descriptor") ⟨_, hd, rfl⟩ Mine.slotSet ?_))))
  exact Mine.k_dset hC hd hx fun h' hs hx' => wpAny_pure (hq h' hs hx')
theorem Mine.k_setattr {Q : Unit → Shared → Prop} (hC : h.get? a = some (Mine.kcls N Mine.kQ [.ref a, .type "object"] (Mine.kSlots bA kt qt) false ["obj"])) (hn : h.Ns N mf) (ho : mf "obj" = some (.ref dm)) (hs0 : mf "__setattr__" = none) (hd : h.get? dm = some (Mine.dmObj a dt)) (hx : h.get? x = some (Mine.kObj a dx #[]))
    (hq : ∀ h' tk, Heap.SameBut x h h' → h'.get? x = some (Mine.kObj a dx #[some v]) → Q () ⟨h', g, d, tk, os⟩) :
    wpAny (model prog w) A (setAttr (.ref x) "obj" v) Q E ⟨h, g, d, t, os⟩ := by
  have hC' : h.get? a = some (excClassObj "K" Mine.kQ a N [.type "object"] [.type "object"] false ["obj"] [] false none none (some (.ref bA)) none (some (.str "K" kt)) (some (.str Mine.kQ qt)) (some (.bool false)) "object.__new__") := hC
  unfold setAttr
  refine wpAny_bind (wpAny_mkText ?_)
  refine wpAny_bind (m := callSpecial? _ _ _) ?_
  unfold callSpecial?
  refine wpAny_bind (m := specialOf _ _) ?_
  unfold specialOf
  refine wpAny_bind (m := typeOf _) (wpAny_typeOf_ref hx ?_)
  refine Mine.k_type hC hn (y := some (.builtin "object.__setattr__")) F.store_object.slot.lookup ?_
  rw [hs0]
  refine wpAny_holding (wpAny_bind (wpAny_of_eq (F.store_object.slot.bind _) ?_))
  refine wpAny_bind (wpAny_call (codeAny_call_builtin F.store_object.slot.plain F.store_object.entry ?_))
  unfold checkBuiltinCall
  rw [F.store_object.kind, F.store_object.split]
  refine wpAny_bind (m := isInstance _ _) ?_
  unfold isInstance
  refine wpAny_bind (m := typeOf _) (wpAny_typeOf_ref hx ?_)
  refine wpAny_isSubtype_exc (base := .type "object") hC' ?_
  rw [show (Value.ref a :: [Value.type "object"]).contains (.type "object") = true by simp]
  refine wpAny_ite_false rfl ?_
  refine wpAny_of_eq (Mine.args_pure (F.store_object.args (.ref x) (.str "obj" t) v)) ?_
  refine Mine.k_seta hC hn ho hd hx fun h' hs hx' => ?_
  exact wpAny_pure (wpAny_pure (hq h' _ hs hx'))
end
end

section
open PySem PySem.W PySem.W.X PyProof.Rows PySem.Spec PySem.Calls
set_option Elab.async false
set_option maxRecDepth 100000
section
variable {prog : Program} {w : World} {A : Around} {E : Value → Shared → Prop} {h : Heap} {g : Array GenState} {d : Drawn} {t : Nat} {os : OsState} {a N cl : Addr} {v : Value}
theorem Mine.k_make {Q : Value → Shared → Prop} (hK : Mine.KCls h a cl N) (hnl : h.NoLimit) (hA2 : A.depth + 2 ≤ 800)
    (hq : ∀ x dx h' tk, (∀ b o, h.get? b = some o → h'.get? b = some o) → h.get? x = none → h'.get? x = some (Mine.kObj a dx #[some v]) → Q (.ref x) ⟨h', g, d, tk, os⟩) :
    wpAny (model prog w) A (call (.ref a) [v]) Q E ⟨h, g, d, t, os⟩ := by
  obtain ⟨dm, bA, f2, f3, nA, P, dt, kt, qt, mf, x1, x2, x3, x4, x5, x6, x7, x8, x9⟩ := hK.ex
  obtain ⟨n1, n2, doc, pm, cv, ctv, ⟨e1, e2⟩, e3⟩ := x6
  refine Mine.k_call x1 x2 x5 e3 fun x dx h1 k1 nx hx hdx ndx nxd => ?_
  refine wpAny_call (codeAny_call_def (body := Mine.kBo 2) (binds := [("self", .ref x), ("obj", v)]) ?_ (k1 _ _ e3) rfl (hnl.keeps k1) (e2.keeps k1) rfl (BindsTo.of_eq (by rfl)) (show ∀ x ∈ (Mine.kFs 2).names, x.2 ≠ .cell by decide) ?_ (fun h2 ns2 k2 => ?_) rfl rfl rfl)
  · show A.depth + Code.weight (.builtin "type.__call__" ⟨[.ref a, v], []⟩) < 1000
    have : Code.weight (.builtin "type.__call__" ⟨[.ref a, v], []⟩) = 1 := rfl
    lia
  · intro y hy
    simp only [List.mem_cons, List.not_mem_nil, or_false] at hy
    rcases hy with rfl | rfl <;> rfl
  · refine wpAny_execs_cons (plainObj_wpAny_Assign_Attribute ?_)
    refine wpAny_Name (wpAny_loadName_local rfl rfl ns2 (v := v) (by rfl) ?_) rfl
    refine wpAny_Name (wpAny_loadName_local rfl rfl ns2 (v := .ref x) (by rfl) ?_) rfl
    have hk := fun b o e => k2 b o (k1 b o e)
    refine Mine.k_setattr (hk _ _ x1) (x2.keeps hk) x3 (x9 _ (by decide +kernel)) (hk _ _ x4) (k2 _ _ hx) fun h3 tk s3 hx3 => ?_
    refine wpAny_execs_nil ⟨rfl, ?_⟩
    refine hq x dx h3 tk (fun b o e => ?_) nx hx3
    have : b ≠ x := fun q => by rw [q, nx] at e; cases e
    exact (s3.2 b this).trans (hk b o e)
end
end

section
open PySem PySem.W PySem.W.X PyProof.Rows PySem.Spec PySem.Calls
set_option Elab.async false
set_option maxRecDepth 100000
set_option hygiene false in
local macro_rules | `(tactic| x_close) => `(tactic| first | exact hQ _ _ (Mine.mem_all (by assumption)) | exact hQ _ _ (fun _ _ e => e))
set_option maxHeartbeats 8000000 in
theorem Mine.k_get (prog : Program) (w : World) (s : Shared) (hg : s.gens = #[]) (a N bA dm x dx : Addr) (kt qt dt : Tok) (v : Value) (E Q : Value → Shared → Prop)
   (h1 : s.heap.get? a = some ⟨.type "type", none, .cls { name := "K", bases := [.type "object"], mro := [.ref a, .type "object"], ns := N, qualname := "cmp_to_key.<locals>.K", hasDict := false, slotNames := ["obj"] }, #[some (.ref bA), none, some (.str "K" kt), some (.str "cmp_to_key.<locals>.K" qt), some (.builtin "object.__new__"), some (.bool false)]⟩)
   (h2 : s.heap.get? dm = some ⟨.type "member_descriptor", none, .fields #[.str "obj" dt, .ref a, .builtin "proto.slot", .builtin "proto.slot#set", rawInt 0], #[]⟩)
   (h3 : s.heap.get? x = some ⟨.ref a, some dx, .plain, #[some v]⟩)
   (hQ : ∀ h' tk, (∀ b o, s.heap.get? b = some o → h'.get? b = some o) → Q v ⟨h', #[], s.drawn, tk, s.os⟩) :
   wpAny (model prog w) Mine.A0 (call (.builtin "member_descriptor.__get__") [.ref dm, .ref x, .ref a]) Q E s := by
  x_run
theorem Mine.slotGet : Slot "member_descriptor" "__get__" "member_descriptor.__get__" := .of (owner := "member_descriptor") (n := "__get__") (by rw [typeLookup_type, builtinLookup_eq_fast]; kernel_rfl) (by decide +kernel) (by decide +kernel) (by decide +kernel)
    (by first | exact .inl (by decide +kernel) | exact .inr (by decide +kernel)) (by rw [isSubtype_type]; kernel_rfl)
section
variable {prog : Program} {w : World} {A : Around} {E : Value → Shared → Prop} {h : Heap} {d : Drawn} {t : Nat} {os : OsState} {a N cl x dx : Addr} {v : Value}
theorem Mine.k_getattr {Q : Value → Shared → Prop} (hK : Mine.KCls h a cl N) (hx : h.get? x = some (Mine.kObj a dx #[some v])) (hv : handedOut v = pure v) (hA : A.handled = none) (hA2 : A.depth ≤ 790) (hA3 : A.units + 5 ≤ 5000) {e : Bool}
    (hq : ∀ h' tk, (∀ b o, h.get? b = some o → h'.get? b = some o) → Q v ⟨h', #[], d, tk, os⟩) :
    wpAny (model prog w) A (getAttr (.ref x) "obj" e) Q E ⟨h, #[], d, t, os⟩ := by
  obtain ⟨dm, bA, f2, f3, nA, P, dt, kt, qt, mf, x1, x2, x3, x4, x5, x6, x7, x8, x9⟩ := hK.ex
  unfold getAttr getAttrBy
  refine wpAny_bind (wpAny_mkText (wpAny_holding (wpAny_bind (m := typeOf _) (wpAny_typeOf_ref hx ?_))))
  refine wpAny_bind (Mine.k_type x1 x2 (y := some (.builtin "object.__getattribute__")) (by rw [typeLookup_type, builtinLookup_eq_fast]; kernel_rfl) ?_)
  rw [x9 _ (by decide +kernel)]
  refine wpAny_ite_true rfl ?_
  unfold getAttrEveryday
  refine wpAny_bind (wpAny_onRaise (wpAny_runValue (codeAny_builtin F.entry_getattr_hooked ?_)))
  unfold Builtin.«proto.getattr_hooked»
  refine wpAny_bind (m := Builtin.ObjectAttr.attrName _) (wpAny_pure ?_)
  refine wpAny_bind (m := typeOf _) (wpAny_typeOf_ref hx ?_)
  refine wpAny_bind (m := Builtin.ObjectAttr.find _ _ _) ?_
  unfold Builtin.ObjectAttr.find
  refine wpAny_bind (Mine.k_type x1 x2 (y := none) (by rw [typeLookup_type, builtinLookup_eq_fast]; kernel_rfl) ?_)
  rw [x3]
  refine wpAny_bind (m := Builtin.ObjectAttr.getOf _) (wpAny_specialOf (T := "member_descriptor") ⟨_, x4, rfl⟩ Mine.slotGet.lookup ?_)
  refine wpAny_bind (m := Builtin.ObjectAttr.dataDescriptor? _ _) ?_
  unfold Builtin.ObjectAttr.dataDescriptor?
  refine wpAny_bind (m := Builtin.ObjectAttr.takesStores _) ?_
  unfold Builtin.ObjectAttr.takesStores
  refine wpAny_bind (wpAny_specialOf (T := "member_descriptor") ⟨_, x4, rfl⟩ Mine.slotSet.lookup (wpAny_ite_true rfl (wpAny_pure (wpAny_ite_true rfl (wpAny_pure ?_)))))
  refine wpAny_bind (wpAny_rule (wpAny_pure ?_))
  refine wpAny_bind (Mine.k_type x1 x2 (y := none) (by rw [typeLookup_type, builtinLookup_eq_fast]; kernel_rfl) ?_)
  rw [x9 _ (by decide +kernel)]
  show wpAny _ _ (Builtin.ObjectAttr.bindWithHook _ _ _ _ _ none) _ _ _
  unfold Builtin.ObjectAttr.bindWithHook Builtin.ObjectAttr.bindTo
  rw [Around.under_plain rfl rfl]
  refine wpAny_bind (wpAny_holding (Mine.wp_room hA (by show A.depth ≤ 800; lia) (by show A.units + 1 ≤ 5000; lia) (Mine.k_get prog w ⟨h, #[], d, t + 1, os⟩ rfl a N bA dm x dx kt qt dt v _ _ x1 x4 hx fun h' tk k => ?_)))
  refine wpAny_pure ?_
  show wpAny _ _ (handedOut v) _ _ _
  rw [hv]
  exact wpAny_pure (hq h' tk k)
end
end

section
open PySem PySem.W PySem.W.X PyProof.Rows PySem.Spec PySem.Calls
set_option Elab.async false
set_option maxRecDepth 100000
section
variable {prog : Program} {w : World} {A : Around} {E : Value → Shared → Prop} {h : Heap} {d : Drawn} {t : Nat} {os : OsState} {a N cl x dx y dy : Addr} {v u : Value} {env : Env}
theorem Mine.k_attr {Q : Value → Shared → Prop} {nm : Str} {p p2 : Pos} (hK : Mine.KCls h a cl N) (hx : h.get? x = some (Mine.kObj a dx #[some v])) (hv : handedOut v = pure v) (hA : A.handled = none) (hA2 : A.depth ≤ 790) (hA3 : A.units + 5 ≤ 5000)
    (hn : ∀ Q' : Value → Shared → Prop, Q' (.ref x) ⟨h, #[], d, t, os⟩ → wpAny (model prog w) A (eval (.Name nm p) env) Q' E ⟨h, #[], d, t, os⟩)
    (hq : ∀ h' tk, (∀ b o, h.get? b = some o → h'.get? b = some o) → Q v ⟨h', #[], d, tk, os⟩) :
    wpAny (model prog w) A (eval (.Attribute (.Name nm p) "obj" p2) env) Q E ⟨h, #[], d, t, os⟩ := by
  rw [arm_eval_Attribute]
  refine wpAny_bind (m := attributeBase _ _ _ _) (hn _ ?_)
  refine wpAny_bind (wpAny_standAt (wpAny_bind (wpAny_holding ?_)))
  exact Mine.k_getattr hK hx hv hA hA2 hA3 fun h' tk k => wpAny_bind (wpAny_pure (wpAny_pure (hq h' tk k)))
theorem Mine.KCls.keeps {h h' : Heap} {a cl N : Addr} (x : Mine.KCls h a cl N) (kp : ∀ b o, h.get? b = some o → h'.get? b = some o) : Mine.KCls h' a cl N := by
  have kf : ∀ {f n nm q nA P}, Mine.FnK h nA P f cl n nm q → Mine.FnK h' nA P f cl n nm q := fun x => Mine.FnAt.kp x fun b o _ _ e => kp b o e
  obtain ⟨dm, bA, f2, f3, nA, P, dt, t, qt, mf, x1, x2, x3, x4, x5, x6, x7, x8, x9⟩ := x.ex
  exact ⟨dm, bA, f2, f3, nA, P, dt, t, qt, mf, kp _ _ x1, x2.keeps kp, x3, kp _ _ x4, x5, kf x6, x7, kf x8, x9⟩
noncomputable def Mine.MyCmp (prog : Program) (w : World) (os : OsState) (d : Drawn) (h : Heap) (n : Nat) (g : Addr) (v u : Value) (i : Int) : Prop :=
  ∀ (A : Around) (h1 : Heap) (tk : Nat) (Q : Value → Shared → Prop) (E : Value → Shared → Prop), Mine.Room A n → (∀ b o, h.get? b = some o → h1.get? b = some o) →
    (∀ h' tk' t, (∀ b o, h1.get? b = some o → h'.get? b = some o) → Q (.int i t) ⟨h', #[], d, tk', os⟩) → wpAny (model prog w) A (call (.ref g) [v, u]) Q E ⟨h1, #[], d, tk, os⟩
theorem Mine.k_ltcall {Q : Value → Shared → Prop} {f3 nA P g : Addr} {og : Obj} {fdg : FuncData} {n : Nat} {i : Int} (hK : Mine.KCls h a cl N) (hcl : h.IsCell cl (some (.ref g))) (hog : h.get? g = some og) (hfg : og.data = .func fdg) (hf : Mine.FnK h nA P f3 cl 3 "__lt__" "cmp_to_key.<locals>.K.__lt__")
    (hx : h.get? x = some (Mine.kObj a dx #[some v])) (hy : h.get? y = some (Mine.kObj a dy #[some u])) (hv : handedOut v = pure v) (hu : handedOut u = pure u) (hnl : h.NoLimit) (hR : Mine.Room A (n + 1))
    (hA2 : A.depth ≤ 780) (hA3 : A.units + 15 ≤ 5000)
    (hm : Mine.MyCmp prog w os d h n g v u i)
    (hq : ∀ h' tk, (∀ b o, h.get? b = some o → h'.get? b = some o) → Q (.bool (decide (i < 0))) ⟨h', #[], d, tk, os⟩) :
    wpAny (model prog w) A (call (.ref f3) [.ref x, .ref y]) Q E ⟨h, #[], d, t, os⟩ := by
  obtain ⟨n1, n2, doc, pm, cv, ctv, ⟨e1, e2⟩, e3⟩ := hf
  refine wpAny_call (codeAny_call_def (body := Mine.kBo 3) (binds := [("self", .ref x), ("other", .ref y)]) (by show A.depth < 1000; lia) e3 rfl hnl e2 rfl (BindsTo.of_eq (by rfl)) (show ∀ x ∈ (Mine.kFs 3).names, x.2 ≠ .cell by decide) ?_ (fun h2 ns2 k2 => ?_) rfl rfl rfl)
  · intro y hy
    simp only [List.mem_cons, List.not_mem_nil, or_false] at hy
    rcases hy with rfl | rfl <;> rfl
  · refine wpAny_execs_cons (wpAny_Return_some (wpAny_Compare1 (wpAny_Call_NameR ?_)))
    obtain ⟨oc, hc1, hc2⟩ := hcl
    refine wpAny_Name (wpAny_loadName_free rfl rfl (c := cl) rfl (v := .ref g) ⟨oc, k2 _ _ hc1, hc2⟩ ?_) rfl
    refine callWith_function (o := og) (fd := fdg) (Calls.evalArgs_plain (Calls.spliced_cons ?_))
    refine Mine.k_attr (hK.keeps k2) (k2 _ _ hx) hv hR.hh (by show A.depth + 1 ≤ 790; lia) (by show A.units + 3 + 5 ≤ 5000; lia) (fun Q' q => wpAny_Name (wpAny_loadName_local rfl rfl ns2 (v := .ref x) (by rfl) q) rfl) fun h3 tk3 k3 => ?_
    have k23 := fun b o e => k3 b o (k2 b o e)
    refine Calls.spliced_cons ?_
    refine Mine.k_attr (hK.keeps k23) (k23 _ _ hy) hu hR.hh (by show A.depth + 1 ≤ 790; lia) (by show A.units + 3 + 5 ≤ 5000; lia) (fun Q' q => wpAny_Name (wpAny_loadName_local rfl rfl (ns2.keeps k3) (v := .ref y) (by rfl) q) rfl) fun h4 tk4 k4 => ?_
    have k24 := fun b o e => k4 b o (k23 b o e)
    refine Calls.spliced_nil ⟨⟨k24 _ _ hog, hfg⟩, ?_⟩
    refine hm _ h4 _ _ _ hR.deeper k24 fun h5 tk5 ti k5 => ?_
    refine wpAny_mkInt (lt_int ?_)
    refine hq h5 _ fun b o e => k5 _ _ (k24 _ _ e)
theorem Mine.k_lt {Q : Bool → Shared → Prop} {g : Addr} {og : Obj} {fdg : FuncData} {n : Nat} {i : Int} (hK : Mine.KCls h a cl N) (hcl : h.IsCell cl (some (.ref g))) (hog : h.get? g = some og) (hfg : og.data = .func fdg)
    (hx : h.get? x = some (Mine.kObj a dx #[some v])) (hy : h.get? y = some (Mine.kObj a dy #[some u])) (hv : handedOut v = pure v) (hu : handedOut u = pure u) (hnl : h.NoLimit) (hR : Mine.Room A (n + 1))
    (hA2 : A.depth ≤ 780) (hA3 : A.units + 15 ≤ 5000)
    (hm : Mine.MyCmp prog w os d h n g v u i)
    (hq : ∀ h' tk, (∀ b o, h.get? b = some o → h'.get? b = some o) → Q (decide (i < 0)) ⟨h', #[], d, tk, os⟩) :
    wpAny (model prog w) A (keyLt' oneType' (.ref x) (.ref y)) Q E ⟨h, #[], d, t, os⟩ := by
  obtain ⟨dm, bA, f2, f3, nA, P, dt, kt, qt, mf, x1, x2, x3, x4, x5, x6, x7, x8, x9⟩ := id hK.ex
  obtain ⟨n1, n2, doc, pm, cv, ctv, e1, e3⟩ := id x8
  rw [keyLt'_oneType, oneLt'_eq]
  simp only [if_true]
  refine wpAny_bind (wpAny_cRoomFor (by show A.units < 9900; lia) ?_)
  have call : ∀ {Q' : Option Value → Shared → Prop}, (∀ h' tk, (∀ b o, h.get? b = some o → h'.get? b = some o) → Q' (some (.bool (decide (i < 0)))) ⟨h', #[], d, tk, os⟩) →
      wpAny (model prog w) A (callSpecialIfBound? (.ref x) "__lt__" [.ref y]) Q' E ⟨h, #[], d, t, os⟩ := by
    intro Q' hQ'
    simp only [callSpecialIfBound?, bindSpecialIfBound?]
    refine wpAny_holding (wpAny_bind (wpAny_bind ?_))
    unfold specialOf
    refine wpAny_bind (m := typeOf _) (wpAny_typeOf_ref hx ?_)
    refine Mine.k_type x1 x2 (y := some (.builtin "object.__lt__")) (by rw [typeLookup_type, builtinLookup_eq_fast]; kernel_rfl) ?_
    rw [x7]
    have fin : wpAny (model prog w) A (call (.ref f3) ([.ref x] ++ [.ref y]) >>= fun v => pure (some v)) Q' E ⟨h, #[], d, t, os⟩ :=
      wpAny_bind (Mine.k_ltcall hK hcl hog hfg x8 hx hy hv hu hnl hR hA2 hA3 hm fun h' tk k => wpAny_pure (hQ' h' tk k))
    have bs : ∀ {Q2 : Value × List Value → Shared → Prop} {E2 : Value → Shared → Prop}, Q2 (.ref f3, [.ref x]) ⟨h, #[], d, t, os⟩ → wpAny (model prog w) A (bindSpecial (.ref f3) (.ref x)) Q2 E2 ⟨h, #[], d, t, os⟩ := by
      intro Q2 E2 q
      unfold bindSpecial
      exact wpAny_bind (m := typeOf _) (wpAny_typeOf_ref e3 (wpAny_ite_true rfl (wpAny_pure q)))
    refine wpAny_bind (wpAny_askSetting (wpAny_ite ?_))
    split
    · exact wpAny_bind (bs (wpAny_pure (by exact fin)))
    · exact wpAny_tryCatch (wpAny_bind (bs (wpAny_pure (by exact fin))))
  refine wpAny_bind (call fun h' tk k => ?_)
  exact wpAny_bind (wpAny_truthy_bool (wpAny_pure (hq h' tk k)))
end
end

section
open PySem PySem.W PyProof.Rows
set_option Elab.async false
set_option linter.unusedVariables false
namespace Mine
noncomputable def Hold (n : Nat) (c : Nat → Nat → Bool) {α : Type} : KasT α → (α → Prop) → Prop
  | .ret a, R => R a
  | .ask i j k, R => i < n ∧ j < n ∧ Hold n c (k (c i j)) R
variable {n : Nat} {c : Nat → Nat → Bool}
theorem Hold.mono {α : Type} {R R' : α → Prop} (h : ∀ a, R a → R' a) : ∀ {t : KasT α}, Hold n c t R → Hold n c t R'
  | .ret a, x => h a x
  | .ask i j k, ⟨x, y, z⟩ => ⟨x, y, Hold.mono h (t := k (c i j)) z⟩
theorem Hold.bind {α β : Type} {f : α → KasT β} {R : β → Prop} : ∀ {t : KasT α}, Hold n c t (fun a => Hold n c (f a) R) → Hold n c (t.bind f) R
  | .ret a, x => x
  | .ask i j k, ⟨x, y, z⟩ => ⟨x, y, Hold.bind (t := k (c i j)) z⟩
noncomputable def Ok (n : Nat) (p : Array Nat) : Prop := p.Perm (List.toArray (List.range n))
theorem Ok.at {p : Array Nat} (h : Ok n p) (hn : 0 < n) (i : Nat) : p.getD i 0 < n := by
  by_cases hi : i < p.size
  · have : p.getD i 0 ∈ p := by
      simp only [Array.getD, hi, dif_pos]
      exact Array.getElem_mem hi
    have := (h.mem_iff (a := p.getD i 0)).mp this
    simpa using this
  · simp [Array.getD, hi, hn]
theorem Ok.rev {p : Array Nat} (h : Ok n p) (i j : Nat) : Ok n (kas_rev p i j) := (mirror_perm _ _ _ _).trans h
theorem asc_ok {p : Array Nat} (h : Ok n p) (hn : 0 < n) : ∀ (f m : Nat), Hold n c (kas_asc p f m) fun _ => True
  | 0, m => trivial
  | f + 1, m => ⟨h.at hn _, h.at hn _, by
      cases c (p.getD m 0) (p.getD (m - 1) 0)
      · exact asc_ok h hn f (m + 1)
      · trivial⟩
theorem desc_ok (hn : 0 < n) : ∀ (f : Nat) {p : Array Nat} (m q : Nat), Ok n p → Hold n c (kas_desc f p m q) fun r => Ok n r.1
  | 0, p, m, q, h => h
  | f + 1, p, m, q, h => ⟨h.at hn _, h.at hn _, by
      cases c (p.getD m 0) (p.getD (m - 1) 0)
      · refine ⟨h.at hn _, h.at hn _, ?_⟩
        cases c (p.getD (m - 1) 0) (p.getD m 0)
        · exact desc_ok hn f _ _ h
        · exact h
      · show Hold n c (if q > 0 then _ else _) _
        split
        · exact desc_ok hn f _ _ (h.rev _ _)
        · exact desc_ok hn f _ _ h⟩
theorem tail_ok {p : Array Nat} (h : Ok n p) (hn : 0 < n) (m k : Nat) : Hold n c (kas_tail3 m k p) fun r => Ok n r.2 :=
  Hold.bind (Hold.mono (fun a _ => h.rev _ _) (asc_ok (h.rev _ _) hn _ _))
theorem descPart_ok {p : Array Nat} (h : Ok n p) (hn : 0 < n) (m k : Nat) : Hold n c (kas_descPart m k p) fun r => Ok n r.2 := by
  refine Hold.bind (Hold.mono (fun r hr => ?_) (desc_ok hn _ _ _ h))
  show Hold n c (if r.2.2 > 0 then _ else _) _
  split
  · exact tail_ok (hr.rev _ _) hn _ _
  · exact tail_ok hr hn _ _
theorem count_ok {p : Array Nat} (h : Ok n p) (hn : 0 < n) (k : Nat) : Hold n c (kas_count k p) fun r => Ok n r.2 := by
  refine Hold.bind (Hold.mono (fun m _ => ?_) (asc_ok h hn _ _))
  show Hold n c (if (m == k) = true then _ else if m > 1 then _ else _) _
  split
  · exact h
  · split
    · refine ⟨h.at hn _, h.at hn _, ?_⟩
      cases c (p.getD 0 0) (p.getD (m - 1) 0)
      · exact descPart_ok (h.rev _ _) hn _ _
      · exact h
    · exact descPart_ok h hn _ _
theorem place_ok {p : Array Nat} (h : Ok n p) (hn : 0 < n) (k : Nat) : ∀ (f l r : Nat), Hold n c (kas_place p k f l r) fun _ => True
  | 0, l, r => trivial
  | f + 1, l, r => by
    show Hold n c (if l ≥ r then _ else _) _
    split
    · trivial
    · refine ⟨h.at hn _, h.at hn _, ?_⟩
      cases c (p.getD k 0) (p.getD ((l + r) / 2) 0)
      · exact place_ok h hn k f _ _
      · exact place_ok h hn k f _ _
theorem bin_ok (hn : 0 < n) : ∀ (f : Nat) {p : Array Nat} (k : Nat), Ok n p → Hold n c (kas_bin f p k) (Ok n)
  | 0, p, k, h => h
  | f + 1, p, k, h => Hold.bind (Hold.mono (fun l _ => bin_ok hn f _ ((bubble_perm _ _ _).trans h)) (place_ok h hn k _ _ _))
theorem sort_ok (hn : 0 < n) : Hold n c (kas_sort n) (Ok n) := by
  refine Hold.bind (Hold.mono (fun r hr => ?_) (count_ok (Array.Perm.refl _) hn n))
  show Hold n c (if r.1 < n then _ else _) _
  split
  · exact bin_ok hn _ _ hr
  · exact hr
theorem Hold.wp {cmp : Nat → Nat → (Bool → Shared → Prop) → Shared → Prop} {α : Type} {R : α → Prop} {Q : α → Shared → Prop} (I : Shared → Prop) (hc : ∀ i j s C, i < n → j < n → I s → (∀ s', I s' → C (c i j) s') → cmp i j C s)
    (hQ : ∀ a s, R a → I s → Q a s) : ∀ {t : KasT α} {s : Shared}, Hold n c t R → I s → t.kasWp cmp Q s
  | .ret a, s, h, hs => hQ a s h hs
  | .ask i j k, s, ⟨h1, h2, h3⟩, hs => hc i j s _ h1 h2 hs fun s' hs' => Hold.wp I hc hQ (t := k (c i j)) h3 hs'
end Mine
end

section
open PySem PySem.W PySem.W.X PyProof.Rows PySem.Spec PySem.Calls
set_option Elab.async false
set_option maxRecDepth 100000
theorem Mine.lu_abs {M : Model} {A : Around} {E : Value → Shared → Prop} {h : Heap} {g : Array GenState} {d : Drawn} {t : Nat} {os : OsState} {a : Addr} {xs : Array Value} {n : Nat} {f : Array Value → Array Value} {Q : Unit → Shared → Prop}
    (ho : h.get? a = some (seqObj "list" xs n)) (h1 : xs.size ≤ 1000) (h2 : (f xs).size ≤ 1000)
    (hq : ∀ h' c, h'.get? a = some (seqObj "list" (f xs) c) → Heap.SameBut a h h' → Q () ⟨h', g, d, t, os⟩) : wpAny M A (Builtin.List.listUpdate (.ref a) f) Q E ⟨h, g, d, t, os⟩ :=
  listUpdate_at ho rfl (hq _ _ (get?_update_seq ho f) (Heap.SameBut.update ..)) (by rw [sizeLine_eq]; lia) (by rw [sizeLine_eq]; lia)
noncomputable def Mine.Insts (h : Heap) (kc : Addr) (vs : List Value) (xs : List Value) : Prop :=
  ∀ (j : Nat) (x : Value), xs[j]? = some x → ∃ (b dx : Addr) (v : Value), x = .ref b ∧ vs[j]? = some v ∧ h.get? b = some (Mine.kObj kc dx #[some v])
theorem Mine.Insts.kp {h h' : Heap} {kc : Addr} {vs xs : List Value} {D : Addr} (x : Mine.Insts h kc vs xs) (hs : Heap.SameBut D h h') (hD : ∃ ys c, h.get? D = some (seqObj "list" ys c)) : Mine.Insts h' kc vs xs := by
  intro j y hy
  obtain ⟨b, dx, v, e1, e2, e3⟩ := x j y hy
  refine ⟨b, dx, v, e1, e2, (hs.2 b ?_).trans e3⟩
  rintro rfl
  obtain ⟨ys, c, e⟩ := hD
  rw [e] at e3; cases e3
theorem Mine.Insts.keeps {h h' : Heap} {kc : Addr} {vs xs : List Value} (x : Mine.Insts h kc vs xs) (k : ∀ b o, h.get? b = some o → h'.get? b = some o) : Mine.Insts h' kc vs xs := by
  intro j y hy
  obtain ⟨b, dx, v, e1, e2, e3⟩ := x j y hy
  exact ⟨b, dx, v, e1, e2, k _ _ e3⟩
structure Mine.SI (h0 : Heap) (kc D kS : Addr) (vs : List Value) (e1 : Nat) (xs : List Value) (h : Heap) : Prop where
  keep : ∀ b o, h0.get? b = some o → h.get? b = some o
  hD : h.get? D = some (seqObj "list" #[] e1)
  hS : ∃ e, h.get? kS = some (seqObj "list" xs.toArray e)
  ins : Mine.Insts h kc vs xs
theorem Mine.SI.keeps {h0 h h' : Heap} {kc D kS : Addr} {vs xs : List Value} {e1 : Nat} (x : Mine.SI h0 kc D kS vs e1 xs h) (k : ∀ b o, h.get? b = some o → h'.get? b = some o) : Mine.SI h0 kc D kS vs e1 xs h' :=
  ⟨fun b o e => k _ _ (x.keep b o e), k _ _ x.hD, x.hS.imp fun e q => k _ _ q, x.ins.keeps k⟩
section
variable {prog : Program} {w : World} {A : Around} {E : Value → Shared → Prop} {h h0 : Heap} {d : Drawn} {t : Nat} {os : OsState} {kc N cl g D kS : Addr} {vs : List Value} {e1 nn : Nat} {og : Obj} {fdg : FuncData} {ans : Nat → Nat → Int} {R : Array Nat → Prop}
structure Mine.SK (prog : Program) (w : World) (os : OsState) (d : Drawn) (h0 : Heap) (kc cl N g nn : Nat) (vs : List Value) (ans : Nat → Nat → Int) : Prop where
  K : Mine.KCls h0 kc cl N
  cell : h0.IsCell cl (some (.ref g))
  fn : ∃ og fdg, h0.get? g = some og ∧ og.data = .func fdg
  nl : h0.NoLimit
  out : ∀ v ∈ vs, handedOut v = pure v
  cmp : ∀ i j v u, vs[i]? = some v → vs[j]? = some u → Mine.MyCmp prog w os d h0 nn g v u (ans i j)
theorem Mine.k_tail {P : PySem.Fin → Shared → Prop} {st : SortSt} {p : Array Nat} {xs : List Value} (S : Mine.SI h0 kc D kS vs e1 xs h) (hDS : D ≠ kS) (h0D : h0.get? D = none) (h0S : h0.get? kS = none) (hl : xs.length = vs.length) (hz : vs.length ≤ 900) (hps : p.size = vs.length)
    (hst : (arrOf st).map (·.2) = (p.toList.map fun i => vs.getD i Value.none).toArray) (hf : failedOf st = none)
    (hq : ∀ h' c, (∀ b o, h0.get? b = some o → h'.get? b = some o) → h'.get? D = some (seqObj "list" (p.toList.map fun i => vs.getD i Value.none).toArray c) → P (.done (.ret .none)) ⟨h', #[], d, t, os⟩) :
    wpAny (model prog w) A (ksk_tail D false e1 (.ref kS) st) P E ⟨h, #[], d, t, os⟩ := by
  obtain ⟨e, hS⟩ := S.hS
  unfold ksk_tail
  dsimp only
  refine wpAny_bind (Mine.lu_abs hS (by rw [List.size_toArray]; lia) (Nat.zero_le _) fun h1 c1 g1 s1 => ?_)
  refine wpAny_bind (wpAny_letGo ?_)
  have hD1 : h1.get? D = some (seqObj "list" #[] e1) := (s1.2 D hDS).trans S.hD
  refine wpAny_bind (seqEpoch_at hD1 rfl ?_)
  refine wpAny_bind (Mine.lu_abs hD1 (Nat.zero_le _) ?_ fun h2 c2 g2 s2 => ?_)
  · rw [if_neg (by decide), hst, List.size_toArray, List.length_map, Array.length_toList, hps]; lia
  rw [hf]
  rw [if_neg (by decide), hst] at g2
  simp only [bne_self_eq_false, Bool.false_eq_true, if_false]
  refine wpAny_pure (hq h2 c2 (fun b o q => ?_) g2)
  have n1 : b ≠ D := fun z => by rw [z, h0D] at q; cases q
  have n2 : b ≠ kS := fun z => by rw [z, h0S] at q; cases q
  exact (s2.2 b n1).trans ((s1.2 b n2).trans (S.keep b o q))
theorem Mine.MyCmp.mono {h h' : Heap} {n : Nat} {g : Addr} {v u : Value} {i : Int} (x : Mine.MyCmp prog w os d h n g v u i) (k : ∀ b o, h.get? b = some o → h'.get? b = some o) : Mine.MyCmp prog w os d h' n g v u i :=
  fun A h1 tk Q E r k1 q => x A h1 tk Q E r (fun b o e => k1 _ _ (k _ _ e)) q
theorem Mine.item_at {xs vs : List Value} (hl : xs.length = vs.length) {i : Nat} (hi : i < vs.length) : kas_item (xs.toArray.zip vs.toArray) i = (xs[i]'(by lia), vs[i]) := by
  unfold kas_item
  have hz : (xs.toArray.zip vs.toArray).size = vs.length := by simp [hl]
  simp [Array.getD, hz, hi, hl]
theorem Mine.k_end {P : PySem.Fin → Shared → Prop} {xs : List Value} (K : Mine.SK prog w os d h0 kc cl N g nn vs ans) (S : Mine.SI h0 kc D kS vs e1 xs h) (hDS : D ≠ kS) (h0D : h0.get? D = none) (h0S : h0.get? kS = none) (hl : xs.length = vs.length) (hz : vs.length ≤ 60)
    (hR : Mine.Room A (nn + 1)) (hA2 : A.depth ≤ 780) (hA3 : A.units + 15 ≤ 5000) (hH : 2 ≤ vs.length → Mine.Hold vs.length (fun i j => decide (ans i j < 0)) (kas_sort vs.length) R) (hR1 : vs.length < 2 → R (List.toArray (List.range vs.length)))
    (hRs : ∀ p, R p → p.size = vs.length)
    (hq : ∀ p h' tk c, R p → (∀ b o, h0.get? b = some o → h'.get? b = some o) → h'.get? D = some (seqObj "list" (p.toList.map fun i => vs.getD i Value.none).toArray c) → P (.done (.ret .none)) ⟨h', #[], d, tk, os⟩) :
    wpAny (model prog w) A (ksk_end D false vs.toArray e1 (.ref kS) xs.toArray) P E ⟨h, #[], d, t, os⟩ := by
  have hzs : (xs.toArray.zip vs.toArray).size = vs.length := by simp [hl]
  unfold ksk_end
  dsimp only
  rw [if_neg (by decide)]
  by_cases h2 : vs.toArray.size < 2
  · rw [if_pos h2, if_pos h2]
    refine wpAny_bind (wpAny_pure ?_)
    rw [StateT.run_pure]
    refine wpAny_bind (wpAny_pure ?_)
    dsimp only
    rw [List.size_toArray] at h2
    refine Mine.k_tail S hDS h0D h0S hl (by lia) (p := List.toArray (List.range vs.length)) (by simp) ?_ rfl fun h' c k g => hq _ h' _ c (hR1 h2) k g
    show ((xs.toArray.zip vs.toArray).map (·.2)) = _
    apply Array.toList_inj.mp
    apply List.ext_getElem
    · simp [hl]
    · intro i q1 q2
      simp at q1 q2
      simp [q2]
  · rw [if_neg h2, if_neg h2]
    rw [List.size_toArray] at h2
    refine wpAny_bind (kas_kind (T := .ref kc) (by lia) (fun v hv => ?_) (by rfl) (by simp) ?_)
    · obtain ⟨j, hj, rfl⟩ := List.getElem_of_mem hv
      obtain ⟨b, dx, v, q1, q2, q3⟩ := S.ins j _ (List.getElem?_eq_getElem hj)
      rw [q1]
      exact fun A' Q' E' s' hk hq' => wpAny_typeOf_ref (hk _ _ q3) hq'
    have est : SortSt.mk' oneType' (xs.toArray.zip vs.toArray) #[] 7 none = kas_st oneType' (xs.toArray.zip vs.toArray) (List.toArray (List.range vs.length)) := by
      have e := kas_range (xs.toArray.zip vs.toArray)
      rw [hzs] at e
      show _ = SortSt.mk' oneType' ((List.toArray (List.range vs.length)).map (kas_item (xs.toArray.zip vs.toArray))) #[] 7 none
      rw [e]
    rw [if_neg (by decide), est]
    have ask : (kas_sort vs.length).kasWp (kas_cmp prog w A oneType' (xs.toArray.zip vs.toArray)) (fun p s' => R p ∧ ∃ h' tk, s' = ⟨h', #[], d, tk, os⟩ ∧ Mine.SI h0 kc D kS vs e1 xs h') ⟨h, #[], d, t, os⟩ := by
      refine Mine.Hold.wp (n := vs.length) (c := fun i j => decide (ans i j < 0)) (R := R) (fun s' => ∃ h' tk, s' = ⟨h', #[], d, tk, os⟩ ∧ Mine.SI h0 kc D kS vs e1 xs h') ?_ (fun p s' r q => ⟨r, q⟩) (hH (by lia)) ⟨h, t, rfl, S⟩
      rintro i j s' C hi hj ⟨h', tk, rfl, S'⟩ hC
      unfold kas_cmp
      rw [Mine.item_at hl hi, Mine.item_at hl hj]
      obtain ⟨b1, dx1, v1, q1, q2, q3⟩ := S'.ins i _ (List.getElem?_eq_getElem (by lia))
      obtain ⟨b2, dx2, v2, r1, r2, r3⟩ := S'.ins j _ (List.getElem?_eq_getElem (by lia))
      obtain ⟨og, fdg, f1, f2⟩ := K.fn
      obtain ⟨oc, c1, c2⟩ := K.cell
      dsimp only
      rw [q1, r1]
      exact Mine.k_lt (K.K.keeps S'.keep) ⟨oc, S'.keep _ _ c1, c2⟩ (S'.keep _ _ f1) f2 q3 r3 (K.out _ (List.mem_of_getElem? q2)) (K.out _ (List.mem_of_getElem? r2)) (K.nl.keeps S'.keep) hR hA2 hA3 ((K.cmp i j v1 v2 q2 r2).mono S'.keep)
        fun h3 tk3 k3 => hC _ ⟨h3, tk3, rfl, S'.keeps k3⟩
    have run := kas_runs (E := E) (Q := fun _ st' s' => ∃ p : Array Nat, p.size = vs.length ∧ arrOf st' = p.map (kas_item (xs.toArray.zip vs.toArray)) ∧ failedOf st' = none ∧ R p ∧ ∃ h' tk, s' = ⟨h', #[], d, tk, os⟩ ∧ Mine.SI h0 kc D kS vs e1 xs h')
      (by lia) (by lia) (fun p' st' s' a1 a2 a3 a4 => ⟨p', a1, a2, a3, a4.1, a4.2⟩) ask
    refine wpAny_bind (wpAny_mono run ?_ fun _ _ e => e)
    rintro ⟨⟨⟩, st'⟩ s' ⟨p, hp, har, hf, hRp, h', tk, rfl, S'⟩
    dsimp only
    refine Mine.k_tail S' hDS h0D h0S hl (by lia) (p := p) hp ?_ hf fun h3 c k g => hq p h3 _ c hRp k g
    apply Array.toList_inj.mp
    rw [har, Array.map_map, Array.toList_map]
    refine List.map_congr_left fun i _ => ?_
    show (kas_item (xs.toArray.zip vs.toArray) i).2 = _
    by_cases hi : i < vs.length
    · rw [Mine.item_at hl hi]
      simp [hi]
    · have : ¬ i < (xs.toArray.zip vs.toArray).size := by rw [hzs]; exact hi
      simp only [kas_item, Array.getD, this, dif_neg, not_false_iff]
      simp [List.getElem?_eq_none (Nat.le_of_not_lt hi)]
theorem Mine.k_rest {P : PySem.Fin → Shared → Prop} (K : Mine.SK prog w os d h0 kc cl N g nn vs ans) (S : Mine.SI h0 kc D kS vs e1 [] h) (hDS : D ≠ kS) (h0D : h0.get? D = none) (h0S : h0.get? kS = none) (hz : vs.length ≤ 60)
    (hR : Mine.Room A (nn + 1)) (hA2 : A.depth ≤ 780) (hA3 : A.units + 15 ≤ 5000) (hH : 2 ≤ vs.length → Mine.Hold vs.length (fun i j => decide (ans i j < 0)) (kas_sort vs.length) R) (hR1 : vs.length < 2 → R (List.toArray (List.range vs.length)))
    (hRs : ∀ p, R p → p.size = vs.length)
    (hq : ∀ p h' tk c, R p → (∀ b o, h0.get? b = some o → h'.get? b = some o) → h'.get? D = some (seqObj "list" (p.toList.map fun i => vs.getD i Value.none).toArray c) → P (.done (.ret .none)) ⟨h', #[], d, tk, os⟩) :
    wpAny (model prog w) A (ksk_rest D (.ref kc) false vs.toArray e1 (.ref kS)) P E ⟨h, #[], d, t, os⟩ := by
  unfold ksk_rest
  refine wpAny_bind (wpAny_rule ?_)
  first
    | rw [List.forIn_toArray]
    | (rw [← Array.forIn_toList]; simp only [List.toList_toArray])
    | rw [← Array.forIn_toList]
  refine wpAny_bind (ksk_fold (fun i s' => ∃ h' tk xs, s' = ⟨h', #[], d, tk, os⟩ ∧ xs.length = i ∧ Mine.SI h0 kc D kS vs e1 xs h') vs 0 _ ⟨h, t, [], rfl, rfl, S⟩ ?step ?done)
  case step =>
    rintro j v s' hv ⟨h', tk, xs, rfl, hl, S'⟩
    have hj : j < vs.length := (List.getElem?_eq_some_iff.mp hv).1
    refine wpAny_bind (wpAny_attempt (Mine.k_make (K.K.keeps S'.keep) (K.nl.keeps S'.keep) (by lia) fun x dx h2 tk2 k2 nx hx => ?_))
    have S2 := S'.keeps k2
    obtain ⟨e, hS⟩ := S2.hS
    dsimp only
    refine wpAny_bind (Mine.lu_abs hS (by rw [List.size_toArray]; lia) (by rw [Array.size_push, List.size_toArray]; lia) fun h3 c3 g3 s3 => ?_)
    refine wpAny_pure ⟨rfl, h3, _, xs ++ [.ref x], rfl, by rw [List.length_append, hl]; simp, ?_, (s3.2 D hDS).trans S2.hD, ⟨c3, ?_⟩, ?_⟩
    · intro b o q
      have n2 : b ≠ kS := fun z => by rw [z, h0S] at q; cases q
      exact (s3.2 b n2).trans (S2.keep b o q)
    · rw [g3]; simp
    · have I3 := S2.ins.kp s3 ⟨_, _, hS⟩
      intro i y hy
      rcases Nat.lt_or_ge i xs.length with hi | hi
      · rw [List.getElem?_append_left hi] at hy
        exact I3 i y hy
      · rw [List.getElem?_append_right hi] at hy
        have hi0 : i - xs.length = 0 := by
          cases q : i - xs.length with
          | zero => rfl
          | succ n => rw [q] at hy; simp at hy
        rw [hi0] at hy
        simp only [List.getElem?_cons_zero, Option.some.injEq] at hy
        subst hy
        have hij : i = j := by lia
        subst hij
        refine ⟨x, dx, v, rfl, hv, (s3.2 x ?_).trans hx⟩
        rintro rfl
        obtain ⟨e', he'⟩ := S'.hS
        rw [he'] at nx; cases nx
  case done =>
    rintro s' ⟨h', tk, xs, rfl, hl, S'⟩
    obtain ⟨e, hS⟩ := S'.hS
    refine wpAny_bind (listItems_at hS rfl ?_)
    exact Mine.k_end K S' hDS h0D h0S (by lia) hz hR hA2 hA3 hH hR1 hRs hq
theorem Mine.k_tree {P : PySem.Fin → Shared → Prop} {n0 : Nat} (K : Mine.SK prog w os d h0 kc cl N g nn vs ans) (keep : ∀ b o, h0.get? b = some o → h.get? b = some o) (hD : h.get? D = some (seqObj "list" vs.toArray n0)) (h0D : h0.get? D = none) (hz : vs.length ≤ 60)
    (hR : Mine.Room A (nn + 1)) (hA2 : A.depth ≤ 780) (hA3 : A.units + 15 ≤ 5000) (hH : 2 ≤ vs.length → Mine.Hold vs.length (fun i j => decide (ans i j < 0)) (kas_sort vs.length) R) (hR1 : vs.length < 2 → R (List.toArray (List.range vs.length)))
    (hRs : ∀ p, R p → p.size = vs.length)
    (hq : ∀ p h' tk c, R p → (∀ b o, h0.get? b = some o → h'.get? b = some o) → h'.get? D = some (seqObj "list" (p.toList.map fun i => vs.getD i Value.none).toArray c) → P (.done (.ret .none)) ⟨h', #[], d, tk, os⟩) :
    wpAny (model prog w) A (ksk_tree D (.ref kc) false) P E ⟨h, #[], d, t, os⟩ := by
  unfold ksk_tree
  refine wpAny_bind (listItems_at hD rfl ?_)
  refine wpAny_bind (Mine.lu_abs hD (by rw [List.size_toArray]; lia) (Nat.zero_le _) fun h1 e1 g1 s1 => ?_)
  refine wpAny_bind (seqEpoch_at g1 rfl ?_)
  refine wpAny_bind (m := newTuple _) (Mine.newObj_abs (show sizeOk (Data.seq _) by show vs.toArray.toList.toArray.size ≤ _; rw [sizeLine_eq]; simp; lia) rfl fun tA h2 g2 k2 n2 => ?_)
  refine wpAny_bind (m := newList _) (Mine.newObj_abs (show sizeOk (Data.seq _) by show (0 : Nat) ≤ _; lia) rfl fun kS h3 g3 k3 n3 => ?_)
  refine wpAny_holding ?_
  have k13 : ∀ b o, h1.get? b = some o → h3.get? b = some o := fun b o e => k3 _ _ (k2 _ _ e)
  have hDS : D ≠ kS := Mine.ne_of_new ⟨_, k2 _ _ g1⟩ n3
  have kp : ∀ b o, h0.get? b = some o → h3.get? b = some o := fun b o e => by
    have n1 : b ≠ D := fun z => by rw [z, h0D] at e; cases e
    exact k13 _ _ ((s1.2 b n1).trans (keep b o e))
  have h0S : h0.get? kS = none := by
    cases q : h0.get? kS with
    | none => rfl
    | some o =>
      have n1 : kS ≠ D := hDS.symm
      have := k2 _ _ ((s1.2 kS n1).trans (keep _ _ q))
      rw [this] at n3; cases n3
  exact Mine.k_rest K ⟨kp, k13 _ _ g1, ⟨_, g3⟩, fun j x hx => by simp at hx⟩ hDS h0D h0S hz hR hA2 hA3 hH hR1 hRs hq
theorem Mine.k_sorted {Q : Value → Shared → Prop} {l : Addr} (K : Mine.SK prog w os d h kc cl N g nn vs ans) (hl : h.IsList l vs.toArray) (hz : vs.length ≤ 60)
    (hR : Mine.Room A.in1.in1 (nn + 1)) (hA2 : A.depth ≤ 780) (hA3 : A.units + 17 ≤ 5000) (hH : 2 ≤ vs.length → Mine.Hold vs.length (fun i j => decide (ans i j < 0)) (kas_sort vs.length) R) (hR1 : vs.length < 2 → R (List.toArray (List.range vs.length)))
    (hRs : ∀ p, R p → p.size = vs.length)
    (hq : ∀ D p h' tk c, R p → (∀ b o, h.get? b = some o → h'.get? b = some o) → h.get? D = none → h'.get? D = some (seqObj "list" (p.toList.map fun i => vs.getD i Value.none).toArray c) → Q (.ref D) ⟨h', #[], d, tk, os⟩) :
    wpAny (model prog w) A (call (.builtin "sorted") [.ref l] [("key", .ref kc)]) Q E ⟨h, #[], d, t, os⟩ := by
  refine call_function_entry_kw kind_sorted plain_sorted entry_sorted (ksk_s1 _ _) ?_
  unfold Builtin.«sorted»
  refine wpAny_bind (m := checkCount "sorted" 1 1 _) (wpAny_pure ?_)
  refine wpAny_bind (collect_list hl ?_ (by rw [sizeLine_eq]; lia))
  have keep : ∀ b o, h.get? b = some o → ((h.push (seqObj "list" #[] 0)).update h.objs.size (Obj.mapSeq (· ++ vs.toArray))).get? b = some o := fun b o q => by
    have hlt : b < h.objs.size := Heap.lt_size q
    rw [Heap.get?_update_ne _ _ _ _ (Nat.ne_of_lt hlt), Heap.get?_push_ne _ _ _ (Nat.ne_of_lt hlt)]
    exact q
  generalize ((h.push (seqObj "list" #[] 0)).update h.objs.size (Obj.mapSeq (· ++ vs.toArray))) = h1 at keep ⊢
  refine wpAny_bind (m := newList _) (Mine.newObj_abs (show sizeOk (Data.seq _) by show vs.toArray.size ≤ _; rw [sizeLine_eq]; simp; lia) rfl fun D h2 g2 k2 n2 => ?_)
  have h0D : h.get? D = none := Mine.get_none keep n2
  refine wpAny_bind (wpAny_holding (wpAny_call_entry_kw slot_list_sort ⟨_, g2, rfl⟩ entry_list_sort ?body (ksk_l1 _ _)))
  case body =>
    show wpAny (model prog w) A.in1.in1 (Builtin.«list.sort» ⟨[.ref D], [(Str.ofString "key", .ref kc)]⟩) _ _ _
    rw [ksk_t1]
    refine Mine.k_tree (D := D) K (fun b o e => k2 _ _ (keep b o e)) g2 h0D hz hR hA2 (by show A.units + 1 + 1 + 15 ≤ 5000; lia) hH hR1 hRs fun p h' tk c r k g => ⟨_, rfl, ?_⟩
    exact wpAny_pure ⟨_, rfl, hq D p h' tk c r k h0D g⟩
end
end

section
set_option Elab.async false
set_option linter.unusedVariables false
set_option linter.unusedSimpArgs false
set_option maxRecDepth 100000
namespace Mine
open PySem PySem.W PyProof.Rows PySem.Calls
section
variable {G : Gx} {n : Nat} {P : Pred} {f : Addr} {fd : FuncData} {e : Expr} {ns : List Str} {ds : List D} {pas : Mu} {R : D → Mu → Prop}
structure LamOk (fd : FuncData) (e : Expr) (ns : List Str) (k : Nat) : Prop where
  body : fd.body = .expr e
  bind : ∀ (vs : List Value), vs.length = k → bindArgs fd ⟨vs, []⟩ = pure (ns.zip vs)
  nd : ns.Nodup
  kind : fd.scope.kind = .function
  co : fd.scope.isCoroutine = false
  gen : fd.scope.isGenerator = false
  gl : fd.globals = mainGlobals
  bu : fd.builtins = builtinsNs
noncomputable def RoL (ro : Mu) : Pred := fun K F => ∀ p ∈ ro, ∃ o ds vs, p.2 = .list ds ∧ K p.1 = some o ∧ LstO o vs ∧ RepL F vs ds
noncomputable abbrev lamCx (G : Gx) (A : Around) (fd : FuncData) (f L : Addr) (n : Nat) (P : Pred) (ro : Mu) : Cx := { fnCx G A fd f L n P with ro := ro }
theorem call_lam (hmon : P.Mon) (ok : LamOk fd e ns ds.length) (hf : ∀ K F, Fle G.hb.get? F → P K F → FnF F f fd) (hcell : ∀ x ∈ fd.scope.names, x.2 ≠ .cell) (hloc : ∀ x ∈ ns, fd.scope.names.lookup x = some .local) (cv : List (Str × D))
    (hcv : ∀ K F, P K F → (∀ x ∈ fd.closure, ∃ o v, K x.2 = some o ∧ o.data = .cell v) ∧ ∀ x d, cv.lookup x = some d → ∃ c o v, fd.scope.names.lookup x = some .free ∧ fd.closure.lookup x = some c ∧ K c = some o ∧ o.data = .cell (some v) ∧ Rep F v d)
    (hpw : fd.closure.Pairwise fun x y => x.2 ≠ y.2) (ro : Mu) (hro : ∀ K F, P K F → RoL ro K F)
    (hb : ∀ A L, Room A (n + 1) → EvX (lamCx G A fd f L n P ro) { vars := ns.zip ds ++ cv, mu := pas } e R) : CallSem G (n + 1) P f pas ds R := by
  refine ⟨fun K F hbs hp => ?_, fun A K F s vs Q E hr hp X r hQ => ?_⟩
  · obtain ⟨⟨o, h1, h2⟩, _⟩ := hf K F hbs hp
    exact ⟨fd, o, h1, h2⟩
  · obtain ⟨⟨o, h1, h2⟩, c, oc, cvs, t, h3, h4, h5, h6⟩ := hf K F X.base hp
    have hl := r.length
    refine wpAny_call (kla_callFunE (prog := G.prog) (w := G.w) (by have := hr.dp; lia) (X.frz _ _ h1) h2 ok.co ok.gen ok.body ⟨c, oc, cvs, t, h3, X.frz _ _ h4, h5, h6⟩ ?_)
    rw [ok.bind vs hl]
    refine wpAny_pure (wpAny_newFunctionEnv hcell (fun x hx => hloc _ (by obtain ⟨a, b⟩ := x; exact (List.of_mem_zip hx).1)) (fun h₀ hns hsb => ⟨X.nl.fresh _ hsb, ?_⟩) ok.kind)
    have hk : ∀ b o, s.heap.get? b = some o → h₀.get? b = some o := fun b o e => hsb.extBut b o (Nat.ne_of_lt (Heap.lt_size e)) (Heap.get?_push_of_some _ e)
    have ns0 := hns
    have freshL : ∀ o, s.heap.get? s.heap.objs.size ≠ some o := fun o e => Nat.lt_irrefl _ (Heap.lt_size e)
    obtain ⟨hc1, hc2⟩ := hcv K F hp
    refine kla_codeExpr (hb A s.heap.objs.size hr K F _ (fun v s' => match (Except.ok (Flow.ret v) : Result) with | .ok (.ret v) => Q v s' | .ok _ => False | .error e => E e s') _ ?_ fun F' v s' d mu hR X' g r' => hQ F' v s' d mu hR X'.am g r')
    refine ⟨⟨ok.kind, ok.gl, ok.bu, hr.deeper, .head _, hpw, fun x hx e => ?_, hmon⟩, (X.grow (t := s.toks + (ns.zip vs).length) hk (Fle.refl _) (fun _ _ e => .inl e) fun a o e => hk _ _ (X.frz _ _ e)), fun a ha => ?_, fun x hx => ?_, ⟨_, ns0, fun x d e => ?_⟩, fun p hp ha => ?_, (fun p hq => ?_), hp⟩
    · obtain ⟨o', v', q1, q2⟩ := hc1 x hx
      have e' : x.2 = s.heap.objs.size := e
      exact freshL _ (e' ▸ X.keep _ _ q1)
    · obtain rfl : a = s.heap.objs.size := by simpa [lamCx, fnCx] using ha
      obtain ⟨oL, es, ep, eL, _⟩ := ns0
      exact ⟨X.fresh, X.freshK, oL, eL⟩
    · obtain ⟨o', v', q1, q2⟩ := hc1 x hx
      exact ⟨⟨v', o', hk _ _ (X.keep _ _ q1), q2⟩, .inr ⟨o', q1⟩⟩
    · have : ∀ {l r : List (Str × D)}, (l ++ r).lookup x = some d → l.lookup x = some d ∨ (l.lookup x = none ∧ r.lookup x = some d) := fun {l r} h => by
        induction l with
        | nil => exact .inr ⟨rfl, h⟩
        | cons a l ih =>
          rw [List.cons_append, List.lookup_cons] at h
          rw [List.lookup_cons]
          cases hb : x == a.1 with
          | true => rw [hb] at h; exact .inl h
          | false => rw [hb] at h; exact ih h
      rcases this e with e | ⟨_, e⟩
      · obtain ⟨v, q1, q2⟩ := lookup_zip r e
        refine ⟨v, ?_, q2⟩
        unfold VarAt
        rw [show (lamCx G A fd f s.heap.objs.size n P ro).env.kindOf x = some .local from hloc x (List.of_mem_zip q1).1]
        exact lookup_rev ok.nd q1
      · obtain ⟨c', o', v, q1, q2, q3, q4, q5⟩ := hc2 x d e
        refine ⟨v, ?_, q5⟩
        unfold VarAt
        rw [show (lamCx G A fd f s.heap.objs.size n P ro).env.kindOf x = some .free from q1]
        exact ⟨c', q2, o', hk _ _ (X.keep _ _ q3), q4⟩
    · obtain ⟨o', ho'⟩ := (X.mus p hp).1.some
      have : p.1 = s.heap.objs.size := by simpa [lamCx, fnCx] using ha
      rw [this] at ho'
      exact freshL _ ho'
    · obtain ⟨o, ds, vs, h1, h2, h3, h4⟩ := hro _ _ hp p hq
      refine ⟨?_, o, h2⟩
      rw [h1]
      exact ⟨o, vs, hk _ _ (X.keep _ _ h2), h3, h4⟩
theorem CallSem.mycmp {g : Addr} {v u : Value} {d1 d2 : D} {i : Int} {F : Fz} {s : Shared} {K : Fz} {mu : Mu} (hm : P.Mon) (hc : CallSem G n P g [] [d1, d2] (Pure (.int i))) (X : Am G K mu F s) (hP : P (full F s.heap []) F) (h1 : Rep F v d1) (h2 : Rep F u d2) (hg : G.s0.gens = #[]) :
    MyCmp G.prog G.w s.os s.drawn s.heap n g v u i := by
  intro A h3 tk Q E hr hk hQ
  have X0 : Am G (full F s.heap []) [] F s := X.leave (pas := []) (oth := mu) rfl
  have X1 : Am G (full F s.heap []) [] F ⟨h3, #[], s.drawn, tk, s.os⟩ := by
    have := X0.grow (F' := F) (h' := h3) (t := tk) hk (Fle.refl _) (fun _ _ e => .inl e) fun a o e => hk _ _ (X.frz _ _ e)
    rw [show s.gens = #[] from X.gens.trans hg] at this
    exact this
  have X2 : Am G (full F h3 []) [] F ⟨h3, #[], s.drawn, tk, s.os⟩ := X1.leave (pas := []) (oth := []) rfl
  have hP2 : P (full F h3 []) F := hm _ _ _ _ hP (fun a o e => by
    obtain ⟨q1, q2, q3⟩ := full_some e
    exact full_of q1 q2 (hk _ _ q3)) (Fle.refl _)
  refine hc.sem A _ F _ [v, u] Q E hr hP2 X2 (.cons h1 (.cons h2 .nil)) fun F' v' s' d mu hR X3 gF r => ?_
  obtain ⟨rfl, rfl⟩ := hR
  obtain ⟨t, rfl⟩ := r.int_inv
  obtain ⟨h4, g4, d4, t4, o4⟩ := s'
  have e1 : g4 = #[] := X3.gens.trans hg
  have e2 : d4 = s.drawn := X3.drawn.trans X.drawn.symm
  have e3 : o4 = s.os := X3.os.trans X.os.symm
  subst e1 e2 e3
  refine hQ h4 t4 t fun b o e => ?_
  cases q : F b with
  | some ob =>
    have : h3.get? b = some ob := X2.frz _ _ q
    rw [this] at e; cases e
    exact X3.frz _ _ (gF _ _ q)
  | none => exact X3.keep _ _ (full_of q (by simp) e)
end
end Mine
end

section
set_option Elab.async false
set_option linter.unusedVariables false
set_option linter.unusedSimpArgs false
set_option maxRecDepth 100000
namespace Mine
open PySem PySem.W PyProof.Rows PySem.Calls
theorem Rep.out {F : Fz} {v : Value} {d : D} (h : Rep F v d) : handedOut v = pure v := by
  cases h <;> rfl
noncomputable def permL (ds : List D) (p : Array Nat) : List D := p.toList.map fun i => ds.getD i .none
theorem RepL.perm {F : Fz} {vs : List Value} {ds : List D} (r : RepL F vs ds) : ∀ (l : List Nat), RepL F (l.map fun i => vs.getD i .none) (l.map fun i => ds.getD i .none)
  | [] => .nil
  | i :: l => .cons (by
      by_cases hi : i < ds.length
      · obtain ⟨v, h1, h2⟩ := r.get (List.getElem?_eq_getElem hi)
        simp only [List.getD_eq_getElem?_getD, h1, List.getElem?_eq_getElem hi, Option.getD_some]
        exact h2
      · have h1 := r.length
        have e1 : ds[i]? = none := List.getElem?_eq_none (Nat.le_of_not_lt hi)
        have e2 : vs[i]? = none := List.getElem?_eq_none (by lia)
        simp only [List.getD_eq_getElem?_getD, e1, e2, Option.getD_none]
        exact .none) (RepL.perm r l)
end Mine
end

section
set_option Elab.async false
set_option linter.unusedVariables false
set_option linter.unusedSimpArgs false
set_option maxRecDepth 100000
namespace Mine
open PySem PySem.W PyProof.Rows PySem.Calls
theorem Mo.turnAll {C : Cx} {K F F' : Fz} {σ : St} {s : Shared} {h' : Heap} {ch ch' rest : Mu} {t : Nat} (X : Mo C K σ F s) (hσ : σ.mu = ch ++ rest) (hk : ∀ b o, b ∉ ch.map (·.1) → s.heap.get? b = some o → h'.get? b = some o) (hF : Fle F F')
    (hn : ∀ b o, F' b = some o → F b = some o ∨ s.heap.get? b = none) (hf : ∀ b o, F' b = some o → h'.get? b = some o) (hc : ∀ p ∈ ch', p.2.At F' h' p.1 ∧ F' p.1 = none ∧ (p.1 ∈ ch.map (·.1) ∨ s.heap.get? p.1 = none)) (nd' : (ch'.map (·.1)).Nodup) :
    Mo C K (σ.setMu (ch' ++ rest)) F' { s with heap := h', toks := t } := by
  have A := X.am
  rw [hσ] at A
  have nd := A.nd
  rw [List.map_append, List.nodup_append] at nd
  obtain ⟨nd1, nd2, nd3⟩ := nd
  have Fn : ∀ b o, s.heap.get? b = some o → F b = none → F' b = none := fun b o e f => by
    cases q : F' b with
    | none => rfl
    | some o' =>
      rcases hn b o' q with h | h
      · rw [f] at h; cases h
      · rw [e] at h; cases h
  have hch : ∀ b, b ∈ ch.map (·.1) → K b = none ∧ b ∉ C.priv := fun b hb => by
    obtain ⟨p, hp, rfl⟩ := List.mem_map.mp hb
    exact ⟨(A.mus p (List.mem_append_left _ hp)).2.2, X.pmu p (by rw [hσ]; exact List.mem_append_left _ hp)⟩
  have hK : ∀ b o, K b = some o → h'.get? b = some o := fun b o e => hk b o (fun q => by rw [(hch b q).1] at e; cases e) (X.am.keep _ _ e)
  refine X.with ⟨X.am.ok, fun a o e => hF _ _ (X.am.base _ _ e), hf, fun a o e => Fn _ _ (X.am.keep _ _ e) (X.am.dis _ _ e), hK, fun p hp => ?_, ?_, X.am.gens, X.am.drawn, X.am.os⟩ (fun b hb => ?_) hF fun p hp hq => ?_
  · rcases List.mem_append.mp hp with hp | hp
    · obtain ⟨h1, h2, h3⟩ := hc p hp
      refine ⟨h1, h2, ?_⟩
      rcases h3 with h3 | h3
      · exact (hch _ h3).1
      · cases q : K p.1 with
        | none => rfl
        | some o => rw [X.am.keep _ _ q] at h3; cases h3
    · obtain ⟨h1, h2, h3⟩ := A.mus p (List.mem_append_right _ hp)
      obtain ⟨o, ho⟩ := h1.some
      have hnc : p.1 ∉ ch.map (·.1) := fun q => nd3 _ q _ (List.mem_map_of_mem hp) rfl
      exact ⟨h1.mono hF fun o e => hk _ _ hnc e, Fn _ _ ho h2, h3⟩
  · rw [List.map_append, List.nodup_append]
    refine ⟨nd', nd2, fun a ha b hb e => ?_⟩
    subst e
    obtain ⟨p, hp, rfl⟩ := List.mem_map.mp ha
    rcases (hc p hp).2.2 with q | q
    · exact nd3 _ q _ hb rfl
    · obtain ⟨r, hr, e⟩ := List.mem_map.mp hb
      obtain ⟨o, ho⟩ := (A.mus r (List.mem_append_right _ hr)).1.some
      rw [e, q] at ho; cases ho
  · obtain ⟨h1, h2, o, ho⟩ := X.priv b hb
    exact ⟨Fn _ _ ho h1, (hk b o (fun q => (hch b q).2 hb) ho).trans ho.symm⟩
  · rcases List.mem_append.mp hp with hp | hp
    · rcases (hc p hp).2.2 with q | q
      · exact (hch _ q).2 hq
      · obtain ⟨_, _, o, ho⟩ := X.priv _ hq
        rw [ho] at q; cases q
    · exact X.pmu p (by rw [hσ]; exact List.mem_append_right _ hp) hq
noncomputable def Fz.news (F : Fz) (h h' : Heap) (ex : Addr → Prop) [DecidablePred ex] : Fz := fun b => if (F b).isSome then F b else if (h.get? b).isNone ∧ ¬ ex b then h'.get? b else none
section
variable {F : Fz} {h h' : Heap} {ex : Addr → Prop} [DecidablePred ex]
theorem Fz.news_le : Fle F (F.news h h' ex) := fun a o e => by unfold Fz.news; rw [e]; rfl
theorem Fz.news_new {a : Addr} {o : Obj} (e : F.news h h' ex a = some o) : F a = some o ∨ h.get? a = none := by
  unfold Fz.news at e
  split at e
  · exact .inl e
  · split at e
    · rename_i q; exact .inr (by simpa using q.1)
    · cases e
theorem Fz.news_at {a : Addr} {o : Obj} (hF : ∀ b o, F b = some o → h'.get? b = some o) (e : F.news h h' ex a = some o) : h'.get? a = some o := by
  unfold Fz.news at e
  split at e
  · exact hF _ _ e
  · split at e
    · exact e
    · cases e
theorem Fz.news_of {a : Addr} {o : Obj} (hF : ∀ b o, F b = some o → h'.get? b = some o) (e : h'.get? a = some o) (hn : (h.get? a = none ∧ ¬ ex a) ∨ ∃ o, F a = some o) : F.news h h' ex a = some o := by
  unfold Fz.news
  split
  · rename_i q
    obtain ⟨o', e'⟩ := Option.isSome_iff_exists.mp q
    rw [hF _ _ e'] at e; cases e; exact e'
  · rename_i q
    rcases hn with ⟨n1, n2⟩ | ⟨o', n⟩
    · rw [if_pos ⟨by rw [n1]; rfl, n2⟩]; exact e
    · rw [n] at q; exact absurd rfl q
theorem Fz.news_none {a : Addr} (hF : F a = none) (hx : ex a ∨ ∃ o, h.get? a = some o) : F.news h h' ex a = none := by
  unfold Fz.news
  rw [hF, if_neg (by simp)]
  rw [if_neg]
  rintro ⟨q1, q2⟩
  rcases hx with hx | ⟨o, hx⟩
  · exact q2 hx
  · rw [hx] at q1; cases q1
end
noncomputable def FRec (F : Fz) (v : Value) (q : Str) : Prop := ∃ c o vs t, v = .ref c ∧ F c = some o ∧ o.data = .fields vs ∧ vs[1]? = some (.str q t)
noncomputable def FHd (F : Fz) (c P : Addr) : Prop := ∃ o vs file tf flags tg inF text tt, F c = some o ∧ o.cls = .type "code" ∧ o.data = .fields vs ∧ vs[11]? = some (.ref P) ∧ vs.getD 11 .none = .ref P ∧ vs.getD 18 .none = .str file tf ∧
    vs.getD 7 .none = .int flags tg ∧ vs.getD 9 .none = .bool inF ∧ vs.getD 10 .none = .int text tt ∧ c ≠ P
noncomputable def TabQ (qf : Nat → Str) : MO := .fobj fun F o => ∃ ps, o = tabObj ps ∧ TriplesOk ps.toList ∧ ∀ pos v, codeAmong pos ps.toList = some v → FRec F v (qf pos.line)
noncomputable def TabP : Option (Addr × Addr) → MO
  | none => .fobj fun _ o => ∃ ps, o = tabObj ps ∧ TriplesOk ps.toList ∧ codeAmong kPos ps.toList = none
  | some q => .fobj fun F o => ∃ ps, o = tabObj ps ∧ TriplesOk ps.toList ∧ codeAmong kPos ps.toList = some (.ref q.1) ∧ FHd F q.1 q.2
noncomputable def TabB : Option (Addr × Addr) → Mu
  | none => []
  | some q => [(q.2, TabQ qf)]
section
variable {M : Model} {A : Around} {E : Value → Shared → Prop} {s : Shared} {name qual : Str} {params : Arguments} {body : Expr} {scope : Scope} {env : Env} {c P : Addr} {ps : Array Value} {pos : Pos} {firstLine : Nat} {mg : Str → Option Value}
  {clos : List (Str × Addr)} {Q : Value → Shared → Prop}
theorem kla_any {Fc : Addr → Prop} (hcl : closureFor scope env = pure clos) (hge0 : env.globals = mainGlobals) (hg : s.heap.Ns mainGlobals mg) (hcode : env.code = .ref c) (C : CodeHd s.heap c P) (hP : s.heap.get? P = some (tabObj ps)) (ht : TriplesOk ps.toList)
    (hgood : ∀ pos v, codeAmong pos ps.toList = some v → (∃ c2, v = .ref c2 ∧ Fc c2) ∧ s.heap.CodeRec v qual) (hgP : mainGlobals ≠ P) (hb : s.heap.BuiltinsAt mg P) (hFP : ¬ Fc P)
    (h : ∀ c' ctv g h' tk ps', s.heap.get? g = none → h'.get? g = some (kla_obj name qual params body scope clos ((mg "__name__").getD .none) c' ctv) → (∀ b o, b ≠ P → s.heap.get? b = some o → h'.get? b = some o) → h'.CodeRec (.ref c') qual → (s.heap.get? c' = none ∨ Fc c') →
      h'.get? P = some (tabObj ps') → TriplesOk ps'.toList → (∀ pos v, codeAmong pos ps'.toList = some v → (∃ c2, v = .ref c2 ∧ (s.heap.get? c2 = none ∨ Fc c2)) ∧ h'.CodeRec v qual) → Q (.ref g) { s with heap := h', toks := tk }) :
    wpAny M A (makeFunction name qual params (.expr body) scope env [] [] [] pos firstLine) Q E s := by
  cases hf : codeAmong pos ps.toList with
  | some cv =>
    obtain ⟨⟨c2, rfl, h2⟩, h3⟩ := hgood pos cv hf
    refine kla_makeFunctionHit hcl hge0 hg hcode C hP ht hf hb fun ctv h' tk hk hsz => ?_
    have hk2 : ∀ o b o', s.heap.get? b = some o' → (h'.push o).get? b = some o' := fun o b o' e => Heap.get?_push_of_some _ (hk b o' e)
    have hr : ∀ o v, s.heap.CodeRec v qual → (h'.push o).CodeRec v qual := fun o v ⟨c, o2, vs, t, e1, e2, e3⟩ => ⟨c, o2, vs, t, e1, hk2 _ _ _ e2, e3⟩
    exact h c2 ctv h'.objs.size _ tk ps (Heap.get?_none_of_le hsz) (Heap.get?_push_size _ rfl) (fun b o _ e => hk2 _ b o e) (hr _ _ h3) (.inr h2) (hk2 _ _ _ hP) ht fun pos v e => ⟨(hgood pos v e).1.imp fun c q => ⟨q.1, .inr q.2⟩, hr _ _ (hgood pos v e).2⟩
  | none =>
    refine kla_makeFunction hcl hge0 hg hcode C hP ht hf hgP hb fun c' ctv h' tk hx hge hlt hrec htb => ?_
    have hk2 : ∀ o b o', b ≠ P → s.heap.get? b = some o' → (h'.push o).get? b = some o' := fun o b o' n e => Heap.get?_push_of_some _ (hx b o' n e)
    have nc : s.heap.get? c' = none := Heap.get?_none_of_le hge
    refine h c' ctv h'.objs.size _ tk _ (Heap.get?_none_of_le (Nat.le_trans hge (Nat.le_of_lt hlt))) (Heap.get?_push_size _ rfl) (hk2 _) (hrec.push _) (.inl nc) (Heap.get?_push_of_some _ htb) (by rw [Array.toList_append]; exact TriplesOk_snoc _ _ _ _ ht) fun pos' v e => ?_
    rw [Array.toList_append] at e
    rcases Mine.codeAmong_snoc' _ ht e with q | ⟨q1, q2⟩
    · obtain ⟨⟨c2, rfl, h2⟩, c3, o3, vs3, t3, e1, e2, e3, e4⟩ := hgood pos' v q
      refine ⟨⟨c2, rfl, .inr h2⟩, c3, o3, vs3, t3, e1, hk2 _ _ _ ?_ e2, e3, e4⟩
      rintro rfl
      cases e1
      exact hFP h2
    · subst q1
      exact ⟨⟨c', rfl, .inl nc⟩, hrec.push _⟩
end
section
variable {C : Cx} {σ : St}
theorem FRec.mono {F F' : Fz} {v : Value} {q : Str} (x : FRec F v q) (g : Fle F F') : FRec F' v q := let ⟨c, o, vs, t, e1, e2, e3⟩ := x; ⟨c, o, vs, t, e1, g _ _ e2, e3⟩
theorem FHd.hd {F : Fz} {h : Heap} {c P : Addr} (x : FHd F c P) (hf : ∀ b o, F b = some o → h.get? b = some o) : CodeHd h c P := let ⟨o, vs, file, tf, flags, tg, inF, text, tt, e, r⟩ := x; ⟨o, vs, file, tf, flags, tg, inF, text, tt, hf _ _ e, r⟩
theorem FHd.mono {F F' : Fz} {c P : Addr} (x : FHd F c P) (g : Fle F F') : FHd F' c P := let ⟨o, vs, file, tf, flags, tg, inF, text, tt, e, r⟩ := x; ⟨o, vs, file, tf, flags, tg, inF, text, tt, g _ _ e, r⟩
theorem EvX.keyedG {J : Type} {oP : Option (Addr × Addr)} {e body : Expr} {params : Arguments} {lsc : Scope} {p1 p2 p3 p4 p5 lp : Pos} {ds : J → List D} {fa c1 P1 cL PL : Addr} {doc pm cdv ct : Value} {an : Option Addr} {ms : Str → Option Value} {rest : J → Mu} {clos : List (Str × Addr)} {ans : J → Nat → Nat → Int} {R : J → Array Nat → Prop} {n : Nat}
    (hs1 : C.env.kindOf "sorted" = some .globalImplicit) (hs2 : C.G.mg "sorted" = none) (hs3 : C.G.mb "sorted" = some (.builtin "sorted"))
    (hc1 : C.env.kindOf "cmp_to_key" = some .globalImplicit) (hc2 : C.G.mg "cmp_to_key" = some (.ref fa))
    (he : EvX C σ e fun d mu => ∃ j, d = .list (ds j) ∧ mu.Perm ((PL, TabQ fun _ => C.env.qual ++ "<lambda>") :: (P1, TabP oP) :: (TabB oP ++ rest j))) (hz : ∀ j, (ds j).length ≤ 60) (hgens : C.G.s0.gens = #[])
    (H : KPre C.G.hb C.G.mg C.G.mb ms fa c1 P1 doc pm cdv ct an) (hL : C.env.code = .ref cL) (hLd : CodeHd C.G.hb cL PL) (hcl : closureFor lsc C.env = pure clos) (hdef : defaultsOf params C.env = ([], []))
    (hrm : n + 3 ≤ C.rm) (hdp : C.A.depth ≤ 700) (hun : C.A.units ≤ 4000)
    (hlam : ∀ j mu gl c' ctv, ∃ PP : Pred, PP.Mon ∧ (∀ K F s, Mo C K (σ.setMu (mu ++ rest j)) F s → FnF F gl (kla_fn "<lambda>" (C.env.qual ++ "<lambda>") params body lsc clos ((C.G.mg "__name__").getD .none) (.ref c') ctv) → PP (full F s.heap []) F) ∧
      ∀ i k d1 d2, (ds j)[i]? = some d1 → (ds j)[k]? = some d2 → CallSem C.G n PP gl [] [d1, d2] (Pure (.int (ans j i k))))
    (hH : ∀ j, 2 ≤ (ds j).length → Hold (ds j).length (fun i k => decide (ans j i k < 0)) (kas_sort (ds j).length) (R j)) (hR1 : ∀ j, (ds j).length < 2 → R j (List.toArray (List.range (ds j).length))) (hRs : ∀ j p, R j p → p.size = (ds j).length) (hst : starEach [e] C.env = (false, eval e C.env) :: starEach [] C.env := by rfl) :
    EvX C σ (.Call (.Name "sorted" p1) [e] [⟨some "key", .Call (.Name "cmp_to_key" p2) [.Lambda params body lsc lp] [] p3, p4⟩] p5) (fun d mu => ∃ j c P Da p, R j p ∧ d = .ref Da ∧ mu = (Da, .list (permL (ds j) p)) :: (P1, TabP (some (c, P))) :: (PL, TabQ fun _ => C.env.qual ++ "<lambda>") :: (P, TabQ qf) :: rest j) := fun K F s Q E X hQ => by
  show wpAny _ _ (do callWith p5 (← eval (.Name "sorted" p1) C.env) [] (backTo p5 (starEach [e] C.env)) (backToKw p5 (keywordEach [⟨some "key", .Call (.Name "cmp_to_key" p2) [.Lambda params body lsc lp] [] p3, p4⟩] C.env))) Q E s
  have hb0 : backTo p5 (starEach [e] C.env) = (false, eval e C.env) :: backTo p5 (starEach [] C.env) := by rw [hst]; rfl
  refine wpAny_bind (bName X hs1 hs2 hs3 (callWith_kw ?_ hb0 (by rw [hb0]; rfl)))
  refine wpAny_items_cons (he K F s _ E X fun F1 v0 s1 d1 mu1 hj X1 g1 r2 => wpAny_items_nil ?_) hst
  obtain ⟨j, rfl, hσ⟩ := hj
  obtain ⟨l, ol, vs, rfl, hl1, ⟨hl2, ln, rfl⟩, rvs⟩ := r2.list_inv
  refine evalAll_cons (wpAny_bind ?_)
  refine wpAny_Call_NameR (gName X1 hc1 hc2 ?_)
  obtain ⟨of, hf1, hf2⟩ := H.fn
  refine callWith_function (o := of) (fd := fdN 1 "cmp_to_key" "cmp_to_key" .none .none doc pm an (.ref c1) ct) (Calls.evalArgs_plain (Calls.spliced_cons ?_))
  have hsb : ∀ b o, C.G.hb.get? b = some o → s1.heap.get? b = some o := fun b o e => X1.am.frz _ _ (X1.am.base _ _ e)
  have X1p : Mo C K (σ.setMu _) F1 s1 := X1.perm hσ.symm
  obtain ⟨oL, F0, gL, hPL, ps, rfl, htL, hvL⟩ := (X1p.am.mus (PL, TabQ fun _ => C.env.qual ++ "<lambda>") (.head _)).1
  have hPLF : F1 PL = none := (X1p.am.mus _ (.head _)).2.1
  have hgP : mainGlobals ≠ PL := by
    rintro rfl
    obtain ⟨o, es, ep, e, q, _⟩ := H.nsg.keeps hsb
    rw [hPL] at e; cases e; cases q
  refine kla_eval hdef (kla_any (mg := C.G.mg) (ps := ps) (Fc := fun c => ∃ o, F1 c = some o) hcl X1.ok.gl (H.nsg.keeps hsb) hL (hLd.keeps hsb) hPL htL (fun pos v e => ?_) hgP ?_ (fun ⟨o, q⟩ => by rw [hPLF] at q; cases q) fun c' ctv gl h' tk ps' ng hgl hx hrec hnc htb ht' hv' => ?_)
  · obtain ⟨c, o, vs, t, e1, e2, e3⟩ := hvL pos v e
    exact ⟨⟨c, e1, o, gL _ _ e2⟩, c, o, vs, t, e1, X1.am.frz _ _ (gL _ _ e2), e3⟩
  · obtain ⟨bm, ob, b1, b2, b3, b4, b5, b6⟩ := H.bm
    exact ⟨bm, ob, b1, b2, b3, (fun q => by rw [q] at b4; rw [hsb _ _ b4] at hPL; cases hPL; cases b5), hsb _ _ b4, b5, b6⟩
  · obtain ⟨hp1, gg1, dd1, tt1, oo1⟩ := s1
    have hgg : gg1 = #[] := X1.am.gens.trans hgens
    subst hgg
    have fz1 : ∀ b o, F1 b = some o → h'.get? b = some o := fun b o e => hx b o (fun q => by rw [q, hPLF] at e; cases e) (X1.am.frz _ _ e)
    have gF : Fle F1 (F1.news hp1 h' fun _ => False) := Fz.news_le
    have fz2 : ∀ b o, (F1.news hp1 h' fun _ => False) b = some o → h'.get? b = some o := fun b o e => Fz.news_at fz1 e
    have nw2 : ∀ b o, (F1.news hp1 h' fun _ => False) b = some o → F1 b = some o ∨ hp1.get? b = none := fun b o e => Fz.news_new e
    have in2 : ∀ b o, h'.get? b = some o → (hp1.get? b = none ∨ ∃ o, F1 b = some o) → (F1.news hp1 h' fun _ => False) b = some o := fun b o e q => Fz.news_of fz1 e (q.imp (fun q => ⟨q, fun z => z⟩) id)
    have no2 : ∀ b, F1 b = none → (∃ o, hp1.get? b = some o) → (F1.news hp1 h' fun _ => False) b = none := fun b q z => Fz.news_none q (.inr z)
    generalize F1.news hp1 h' (fun _ => False) = F2 at *
    have rc2 : ∀ v q, h'.CodeRec v q → (∀ c, v = .ref c → hp1.get? c = none ∨ ∃ o, F1 c = some o) → FRec F2 v q := fun v q ⟨c, o, vs, t, e1, e2, e3⟩ z => ⟨c, o, vs, t, e1, in2 _ _ e2 (z c e1), e3⟩
    have X2 : Mo C K (σ.setMu ([(PL, TabQ fun _ => C.env.qual ++ "<lambda>")] ++ ((P1, TabP oP) :: (TabB oP ++ rest j)))) F2 ⟨h', #[], dd1, tk, oo1⟩ := X1p.turnAll (ch := [(PL, TabQ fun _ => C.env.qual ++ "<lambda>")]) rfl (fun b o n e => hx b o (by simpa using n) e) gF nw2 fz2 (fun p hp => by
      obtain rfl := List.mem_singleton.mp hp
      exact ⟨⟨_, F2, Fle.refl _, htb, ps', rfl, ht', fun pos v e => rc2 _ _ (hv' pos v e).2 fun c q => by
        obtain ⟨c2, q1, q2⟩ := (hv' pos v e).1
        rw [q] at q1; cases q1; exact q2⟩, no2 _ hPLF ⟨_, hPL⟩, .inl (.head _)⟩) (by simp)
    have hFn : FnF F2 gl (kla_fn "<lambda>" (C.env.qual ++ "<lambda>") params body lsc clos ((C.G.mg "__name__").getD .none) (.ref c') ctv) := by
      obtain ⟨c3, o3, vs3, t3, e1, e2, e3, e4⟩ := rc2 _ _ hrec (fun c q => by cases q; exact hnc)
      exact ⟨⟨_, in2 _ _ hgl (.inl ng), rfl⟩, c3, o3, vs3, t3, e1, e2, e3, e4⟩
    have X2p := X2.perm (mu' := (P1, TabP oP) :: (TabB oP ++ (PL, TabQ fun _ => C.env.qual ++ "<lambda>") :: rest j)) (by
      show List.Perm _ ((PL, _) :: (P1, _) :: (TabB oP ++ rest j))
      exact (List.Perm.cons _ List.perm_middle).trans (List.Perm.swap ..))
    have hsb2 : ∀ b o, C.G.hb.get? b = some o → h'.get? b = some o := fun b o q => X2p.am.frz _ _ (X2p.am.base _ _ q)
    have hP1F : F2 P1 = none := (X2p.am.mus _ (.head _)).2.1
    have old : ∀ c P, oP = some (c, P) → FHd F2 c P ∧ F2 P = none ∧ P ≠ P1 ∧ ∃ ps2, h'.get? P = some (tabObj ps2) ∧ TriplesOk ps2.toList ∧ ∀ pos v, codeAmong pos ps2.toList = some v → FRec F2 v (qf pos.line) := by
      rintro c P rfl
      obtain ⟨o, F3, g3, h1, ps1, rfl, h2, h3, h4⟩ := (X2p.am.mus (P1, TabP (some (c, P))) (.head _)).1
      obtain ⟨oB, F4, g4, k1, ps2, rfl, k2, k3⟩ := (X2p.am.mus (P, TabQ qf) (.tail _ (.head _))).1
      have nd : ((P1, TabP (some (c, P))) :: ((P, TabQ qf) :: ((PL, TabQ fun _ => C.env.qual ++ "<lambda>") :: rest j))).map (·.1) |>.Nodup := X2p.am.nd
      rw [List.map_cons, List.nodup_cons] at nd
      exact ⟨h4.mono g3, (X2p.am.mus (P, TabQ qf) (.tail _ (.head _))).2.1, fun z => nd.1 (by rw [← z]; simp), ps2, k1, k2, fun pos v e => (k3 pos v e).mono g4⟩
    have hP1 : ∃ ps1, h'.get? P1 = some (tabObj ps1) ∧ TriplesOk ps1.toList ∧ OPre h' P1 ps1 kPos qf oP := by
      cases oP with
      | none =>
        obtain ⟨o, F3, g3, h1, ps1, rfl, h2, h3⟩ := (X2p.am.mus (P1, TabP none) (.head _)).1
        exact ⟨ps1, h1, h2, h3⟩
      | some q =>
        obtain ⟨o, F3, g3, h1, ps1, rfl, h2, h3, h4⟩ := (X2p.am.mus (P1, TabP (some q)) (.head _)).1
        obtain ⟨o1, o2, o3, ps2, k1, k2, k3⟩ := old q.1 q.2 rfl
        refine ⟨ps1, h1, h2, h3, o1.hd X2p.am.frz, o3, ps2, k1, k2, fun pos v e => ?_⟩
        obtain ⟨c, o, vs, t, e1, e2, e3⟩ := k3 pos v e
        refine ⟨⟨c, e1, ?_⟩, ⟨c, o, vs, t, e1, X2p.am.frz _ _ e2, e3⟩, fun c2 e4 => .inr ⟨ps2, pos, k1, e⟩⟩
        rintro rfl
        rw [o2] at e2; cases e2
    obtain ⟨ps1, hP1, htP1, hO⟩ := hP1
    refine Calls.spliced_nil ⟨⟨hsb2 _ _ hf1, hf2⟩, ?_⟩
    refine cmpk oP C.G.prog C.G.w C.A ⟨h', #[], dd1, tk, oo1⟩ fa c1 P1 gl ps1 C.G.mg C.G.mb ms doc pm cdv ct an E _ X.ok.rm.hh (by lia) (by lia) rfl (H.keeps hsb2) hP1 htP1 hO fun a N cl c P h3 tk3 k1 k2 k3 k4 k5 kt => ?_
    have hPF2 : F2 P = none := by
      rcases kt.newP with q | q
      · cases z : F2 P with
        | none => rfl
        | some o => rw [fz2 _ _ z] at q; cases q
      · exact (old c P q).2.1
    have fz3' : ∀ b o, F2 b = some o → h3.get? b = some o := fun b o e => k5 b o (fun z => by rw [z, hP1F] at e; cases e) (fun z => by rw [z, hPF2] at e; cases e) (fz2 _ _ e)
    have g3 : Fle F2 (F2.news h' h3 (· = P)) := Fz.news_le
    have fz3 : ∀ b o, (F2.news h' h3 (· = P)) b = some o → h3.get? b = some o := fun b o e => Fz.news_at fz3' e
    have nw3 : ∀ b o, (F2.news h' h3 (· = P)) b = some o → F2 b = some o ∨ h'.get? b = none := fun b o e => Fz.news_new e
    have in3 : ∀ b o, h3.get? b = some o → ((h'.get? b = none ∧ b ≠ P) ∨ ∃ o, F2 b = some o) → (F2.news h' h3 (· = P)) b = some o := fun b o e q => Fz.news_of fz3' e q
    have no3 : ∀ b, F2 b = none → (b = P ∨ ∃ o, h'.get? b = some o) → (F2.news h' h3 (· = P)) b = none := fun b q z => Fz.news_none q z
    generalize F2.news h' h3 (· = P) = F3 at *
    obtain ⟨psT, t1, t2, t3⟩ := kt.top
    obtain ⟨psB, u1, u2, u3⟩ := kt.body
    have X3 : Mo C K (σ.setMu ([(P1, TabP (some (c, P))), (P, TabQ qf)] ++ ((PL, TabQ fun _ => C.env.qual ++ "<lambda>") :: rest j))) F3 ⟨h3, #[], dd1, tk3, oo1⟩ := X2p.turnAll (ch := (P1, TabP oP) :: TabB oP) rfl (fun b o n e => by
      rw [List.map_cons, List.mem_cons, not_or] at n
      refine k5 b o n.1 (fun z => ?_) e
      rcases kt.newP with q | q
      · rw [← z, e] at q; cases q
      · exact n.2 (by rw [q, z]; exact .head _)) g3 nw3 fz3 (fun p hp => by
      simp only [List.mem_cons, List.not_mem_nil, or_false] at hp
      rcases hp with rfl | rfl
      · refine ⟨⟨_, F3, Fle.refl _, t1, psT, rfl, t2, t3, ?_⟩, no3 _ hP1F (.inr ⟨_, hP1⟩), .inl (.head _)⟩
        obtain ⟨o, vs, file, tf, flags, tg, inF, text, tt, q1, q2, q3, q4, q5, q6, q7, q8, q9, q10⟩ := kt.hd
        refine ⟨o, vs, file, tf, flags, tg, inF, text, tt, in3 _ _ q1 ?_, q2, q3, q4, q5, q6, q7, q8, q9, q10⟩
        rcases kt.newC with q | q
        · exact .inl ⟨q, q10⟩
        · obtain ⟨o', _, _, _, _, _, _, _, _, z, _⟩ := (old c P q).1
          exact .inr ⟨o', z⟩
      · refine ⟨⟨_, F3, Fle.refl _, u1, psB, rfl, u2, fun pos v e => ?_⟩, no3 _ hPF2 (.inl rfl), ?_⟩
        · obtain ⟨⟨c2, e1, e2⟩, ⟨c3, o, vs, t, e3, e4, e5⟩, e6⟩ := u3 pos v e
          rw [e1] at e3; cases e3
          refine ⟨c2, o, vs, t, e1, in3 _ _ e4 ?_, e5⟩
          rcases e6 c2 e1 with q | ⟨ps0, pos0, q1, q2⟩
          · exact .inl ⟨q, e2⟩
          · rcases kt.newP with q | q
            · rw [q1] at q; cases q
            · obtain ⟨_, _, _, ps2, z1, z2, z3⟩ := old c P q
              rw [q1] at z1; cases z1
              obtain ⟨c4, o4, _, _, w1, w2, _⟩ := z3 pos0 v q2
              rw [e1] at w1; cases w1
              exact .inr ⟨o4, w2⟩
        · rcases kt.newP with q | q
          · exact .inr q
          · exact .inl (by rw [q]; exact .tail _ (.head _))) (by
      rw [List.map_cons, List.nodup_cons]
      exact ⟨fun z => kt.ne (List.mem_singleton.mp z).symm, by simp⟩)
    have X3 := X3.perm (mu' := [(P1, TabP (some (c, P))), (PL, TabQ fun _ => C.env.qual ++ "<lambda>"), (P, TabQ qf)] ++ rest j) (List.Perm.cons _ (List.Perm.swap ..))
    have X3 : Mo C K (σ.setMu ([(P1, TabP (some (c, P))), (PL, TabQ fun _ => C.env.qual ++ "<lambda>"), (P, TabQ qf)] ++ rest j)) F3 ⟨h3, #[], dd1, tk3, oo1⟩ := X3
    refine wpAny_bind (wpAny_standAt (wpAny_pure (evalAll_nil ?_)))
    obtain ⟨PP, pm1, pm2, pm3⟩ := hlam j [(P1, TabP (some (c, P))), (PL, TabQ fun _ => C.env.qual ++ "<lambda>"), (P, TabQ qf)] gl c' ctv
    have hlen := rvs.length
    have gF3 := gF.trans g3
    have rv2 : RepL F3 vs (ds j) := rvs.mono gF3
    have hFn3 := hFn.mono g3
    have hzj := hz j
    obtain ⟨⟨lo, hlo1, hlo2⟩, _⟩ := id hFn3
    refine k_sorted (R := R j) (ans := ans j) (nn := n) (kc := a) (cl := cl) (N := N) (g := gl) (vs := vs) ⟨k1, k2, ⟨lo, _, X3.am.frz _ _ hlo1, hlo2⟩, X3.am.nl, fun v hv => ?_, fun i k v u hi hj => ?_⟩ ⟨_, X3.am.frz _ _ (gF3 _ _ hl1), rfl, _, rfl⟩ (by lia)
      ((X.ok.rm.mono hrm).in1.in1) (by lia) (by lia) (by rw [hlen]; exact hH j) (by rw [hlen]; exact hR1 j) (by rw [hlen]; exact hRs j) fun Da p h4 tk4 c4 hRp k6 k7 k8 => ?_
    · obtain ⟨i, hi, rfl⟩ := List.getElem_of_mem hv
      obtain ⟨d, q1, q2⟩ := rv2.get' (List.getElem?_eq_getElem hi)
      exact q2.out
    · obtain ⟨d1, q1, q2⟩ := rv2.get' hi
      obtain ⟨d2, q3, q4⟩ := rv2.get' hj
      exact CallSem.mycmp pm1 (pm3 i k d1 d2 q1 q3) X3.am (pm2 K F3 _ X3 hFn3) q2 q4 hgens
    · have X4 := X3.addMu (t := tk4) (mo := .list (permL (ds j) p)) k6 k7 ⟨_, p.toList.map fun i => vs.getD i .none, k8, ⟨by rw [List.length_map, Array.length_toList, hRs j p hRp]; lia, _, rfl⟩, rv2.perm _⟩
      exact hQ F3 (.ref Da) _ (.ref Da) _ ⟨j, c, P, Da, p, hRp, rfl, rfl⟩ X4 (g1.trans gF3) (.ref Da)
end
end Mine
end

section
set_option Elab.async false
set_option linter.unusedVariables false
set_option linter.unusedSimpArgs false
set_option maxRecDepth 100000
namespace Mine
open PySem PySem.W PyProof.Rows PySem.Calls
section
variable {C : Cx} {σ : St} {Φ : Out → St → Prop}
theorem Mo.hideL : ∀ (ch : Mu) {rest : Mu} {K F : Fz} {σ : St} {s : Shared}, Mo C K σ F s → σ.mu = ch ++ rest → ∃ K', Mo C K' (σ.setMu rest) F s ∧ ∀ σ' F' s', Mo C K' σ' F' s' → Fle F F' → Mo C K (σ'.setMu (ch ++ σ'.mu)) F' s'
  | [], rest, K, F, σ, s, X, h => ⟨K, by rw [← show σ.mu = rest from h]; exact X, fun σ' F' s' X' _ => X'⟩
  | (a, mo) :: ch, rest, K, F, σ, s, X, h => by
    obtain ⟨c1, c2⟩ := X.apartMu (p := (a, mo)) (by rw [h]; exact .head _)
    obtain ⟨o, h1, h2, h3, X1⟩ := X.hide (a := a) (mo := mo) (mu := ch ++ rest) h
    obtain ⟨K', X2, back⟩ := Mo.hideL ch (σ := σ.setMu (ch ++ rest)) X1 rfl
    refine ⟨K', X2, fun σ' F' s' X' g => ?_⟩
    have X3 := back σ' F' s' X' g
    have e : s'.heap.get? a = some o := X3.am.keep _ _ (Fz.put_self _ _ _)
    exact X3.show h3 (h2.mono g fun o' e' => by rw [h1] at e'; cases e'; exact e) c1 c2 (X.ok.mon _ _ _ _ X.pre (Fle.refl _) g)
theorem Asg.pair {x y : Str} {px py tp : Pos} {k : Nat} {d1 d2 : D} (hx : Stores C x) (hy : Stores C y) : Asg C σ (.Tuple [.Name x px, .Name y py] k tp) (.tup [d1, d2]) ((σ.set x d1).set y d2) := fun K F1 s1 v Q E X1 r1 hQ => by
  obtain ⟨a, vs, n, rfl, h1, h2, h3⟩ := tup_at X1 r1
  obtain ⟨va, vb, rfl, ra, rb⟩ : ∃ va vb, vs = [va, vb] ∧ Rep F1 va d1 ∧ Rep F1 vb d2 := by
    cases h2 with
    | cons ra t => cases t with
      | cons rb t => cases t with
        | nil => exact ⟨_, _, rfl, ra, rb⟩
  refine wpAny_assign_Tuple (items := #[va, vb]) X1.ok.rm.hh ⟨_, h1, rfl, n, rfl⟩ rfl rfl fun h' hs' => ?_
  have X2 : Mo C K σ F1 { s1 with heap := h' } := X1.grow (t := s1.toks) (fun b o e => hs' b o (fun q => by subst q; exact Nat.lt_irrefl _ (Heap.lt_size e)) e) (Fle.refl _) (fun _ _ e => .inl e) (fun b o e => hs' b o (fun q => by subst q; exact Nat.lt_irrefl _ (Heap.lt_size (X1.am.frz _ _ e))) (X1.am.frz _ _ e))
  refine wpAny_assignInOrder_more (wpAny_assign_Name (sto hx X2 ra fun s3 X3 => ?_))
  refine wpAny_assignInOrder_more (wpAny_assign_Name (sto hy X3 rb fun s4 X4 => ?_))
  exact wpAny_assignInOrder_none (hQ _ X4)
noncomputable def zMu (z TI TO i1 i2 l1 l2 : Addr) (k : Nat) : Mu :=
  [(z, .obj fun o => o = { cls := .type "zip", dict := none, data := .fields #[.none, .bool false, .bool false, .ref TI, .ref TO], slots := #[] }), (TO, .obj fun o => ∃ a b, o = { cls := .type "tuple", data := .seq #[a, b] }),
    (i1, .obj fun o => o.cls = .type "list_iterator" ∧ o.data = .fields #[.ref l1, .int k 0]), (i2, .obj fun o => o.cls = .type "list_iterator" ∧ o.data = .fields #[.ref l2, .int k 0])]
theorem zMu_keys {z TI TO i1 i2 l1 l2 : Addr} {k : Nat} : (zMu z TI TO i1 i2 l1 l2 k).map (·.1) = [z, TO, i1, i2] := rfl
theorem zMu_at {z TI TO i1 i2 l1 l2 : Addr} {k : Nat} {F : Fz} {h : Heap} (hz : IsZip h z TI TO .none) (hTO : ∃ a b, IsPair h TO a b) (h1 : h.IsListIter i1 l1 k) (h2 : h.IsListIter i2 l2 k) : ∀ p ∈ zMu z TI TO i1 i2 l1 l2 k, p.2.At F h p.1 := by
  intro p hp
  simp only [zMu, List.mem_cons, List.not_mem_nil, or_false] at hp
  rcases hp with rfl | rfl | rfl | rfl
  · exact ⟨_, hz, rfl⟩
  · obtain ⟨a, b, q⟩ := hTO
    exact ⟨_, q, a, b, rfl⟩
  · exact h1
  · exact h2
theorem Mo.zip {K F : Fz} {s : Shared} {z TI TO i1 i2 l1 l2 : Addr} {k : Nat} (X : Mo C K (σ.setMu (zMu z TI TO i1 i2 l1 l2 k ++ σ.mu)) F s) : IsZip s.heap z TI TO .none ∧ (∃ a b, IsPair s.heap TO a b) ∧ s.heap.IsListIter i1 l1 k ∧ s.heap.IsListIter i2 l2 k := by
  have M := X.am.mus
  obtain ⟨o1, q1, rfl⟩ := (M (z, _) (.head _)).1
  obtain ⟨o2, q2, a, b, rfl⟩ := (M (TO, _) (.tail _ (.head _))).1
  have q3 := (M (i1, _) (.tail _ (.tail _ (.head _)))).1
  have q4 := (M (i2, _) (.tail _ (.tail _ (.tail _ (.head _))))).1
  exact ⟨q1, ⟨a, b, q2⟩, q3, q4⟩
theorem zip_made {K F : Fz} {s : Shared} {v1 v2 : Value} {d1 d2 : D} {ds1 ds2 : List D} {Q : Value → Shared → Prop} {E : Value → Shared → Prop} (X : Mo C K σ F s) (i1 : Items C σ d1 ds1) (i2 : Items C σ d2 ds2) (r1 : Rep F v1 d1) (r2 : Rep F v2 d2)
    (hQ : ∀ z TI TO j1 j2 l1 l2 oT F' h', v1 = .ref l1 → v2 = .ref l2 → ZipApart z TI TO j1 j2 l1 l2 → F' TI = some oT → oT = { cls := .type "tuple", data := .seq #[.ref j1, .ref j2] } → Fle F F' → Mo C K (σ.setMu (zMu z TI TO j1 j2 l1 l2 0 ++ σ.mu)) F' { s with heap := h' } →
      Q (.ref z) { s with heap := h' }) : wpAny C.G.M C.A (call (.type "zip") [v1, v2]) Q E s := by
  obtain ⟨l1, vs1, n1, rfl, a1, a2, a3⟩ := i1.at X r1
  obtain ⟨l2, vs2, n2, rfl, b1, b2, b3⟩ := i2.at X r2
  have hl1 : l1 < s.heap.objs.size := Heap.lt_size a1
  have hl2 : l2 < s.heap.objs.size := Heap.lt_size b1
  refine call_zip_2 (IsL.isList a1) (IsL.isList b1) fun h' q1 q2 q3 q4 q5 q6 q7 => ?_
  have hn : ∀ i, s.heap.get? (s.heap.objs.size + i) = none := fun i => Heap.get?_none_of_le (Nat.le_add_right _ _)
  have Fn : ∀ i, F (s.heap.objs.size + i) = none := fun i => by
    cases e : F (s.heap.objs.size + i) with
    | none => rfl
    | some o => have q := X.am.frz _ _ e; rw [hn i] at q; cases q
  have D := zipApart_new hl1 hl2
  refine hQ _ _ _ _ _ l1 l2 _ (F.put (s.heap.objs.size + 2) _) h' rfl rfl D (Fz.put_self _ _ _) rfl (Fle.put (Fn 2) _) ?_
  have ne : ∀ {a b : Nat}, a ≠ b → s.heap.objs.size + a ≠ s.heap.objs.size + b := fun h e => h (Nat.add_left_cancel e)
  refine X.turnAll (ch := []) (ch' := zMu (s.heap.objs.size + 4) (s.heap.objs.size + 2) (s.heap.objs.size + 3) s.heap.objs.size (s.heap.objs.size + 1) l1 l2 0) (rest := σ.mu) (t := s.toks) rfl (fun b o _ e => q7 b o e) (Fle.put (Fn 2) _) (fun b o e => ?_) (fun b o e => ?_) (fun p hp => ?_) ?_
  · by_cases hb : b = s.heap.objs.size + 2
    · subst hb; exact .inr (hn 2)
    · rw [Fz.put_ne _ _ hb] at e; exact .inl e
  · by_cases hb : b = s.heap.objs.size + 2
    · subst hb; rw [Fz.put_self] at e; cases e; exact q2
    · rw [Fz.put_ne _ _ hb] at e; exact q7 _ _ (X.am.frz _ _ e)
  · refine ⟨zMu_at q1 ⟨_, _, q3⟩ q4 q5 p hp, ?_, .inr ?_⟩
    · simp only [zMu, List.mem_cons, List.not_mem_nil, or_false] at hp
      rcases hp with rfl | rfl | rfl | rfl
      · rw [Fz.put_ne _ _ (ne (by decide))]; exact Fn 4
      · rw [Fz.put_ne _ _ (ne (by decide))]; exact Fn 3
      · show F.put _ _ (s.heap.objs.size + 0) = none
        rw [Fz.put_ne _ _ (ne (by decide))]; exact Fn 0
      · rw [Fz.put_ne _ _ (ne (by decide))]; exact Fn 1
    · simp only [zMu, List.mem_cons, List.not_mem_nil, or_false] at hp
      rcases hp with rfl | rfl | rfl | rfl
      · exact hn 4
      · exact hn 3
      · exact hn 0
      · exact hn 1
  · rw [zMu_keys]
    simp
theorem zip_turn {K F : Fz} {s : Shared} {z TI TO j1 j2 l1 l2 : Addr} {oT : Obj} {d1 d2 a b : D} {ds1 ds2 : List D} {i : Nat} {τ : St} {elts : List Expr} {kk : Nat} {tp : Pos} {Q : Option Value → Shared → Prop} {E : Value → Shared → Prop} (D : ZipApart z TI TO j1 j2 l1 l2) (hT1 : F TI = some oT) (hT2 : oT = { cls := .type "tuple", data := .seq #[.ref j1, .ref j2] })
    (X : Mo C K (τ.setMu (zMu z TI TO j1 j2 l1 l2 i ++ τ.mu)) F s) (i1 : Items C τ d1 ds1) (i2 : Items C τ d2 ds2) (r1 : Rep F (.ref l1) d1) (r2 : Rep F (.ref l2) d2) (ha : ds1[i]? = some a) (hb : ds2[i]? = some b)
    (hQ : ∀ v s₁, (∀ (Q : Unit → Shared → Prop) E, (∀ F' h', Fle F F' → Rep F' v (.tup [a, b]) → Mo C K (τ.setMu (zMu z TI TO j1 j2 l1 l2 (i + 1) ++ τ.mu)) F' { s with heap := h' } → Q () { s with heap := h' }) → wpAny C.G.M C.A (letOwnedTupleGo (.Tuple elts kk tp) (.ref z) v) Q E s₁) → Q (some v) s₁) :
    wpAny C.G.M C.A (pyNext (.ref z)) Q E s := by
  obtain ⟨z1, ⟨ta, tb, z2⟩, z3, z4⟩ := X.zip
  have lift : ∀ {d ds}, Items C τ d ds → Items C (τ.setMu (zMu z TI TO j1 j2 l1 l2 i ++ τ.mu)) d ds := fun h => by
    rcases h with h | ⟨a, e, h | h⟩
    · exact .inl h
    · exact .inr ⟨a, e, .inl (List.mem_append_right _ h)⟩
    · exact .inr ⟨a, e, .inr h⟩
  obtain ⟨l1', vs1, n1, e1, a1, a2, a3⟩ := (lift i1).at X r1
  obtain ⟨l2', vs2, n2, e2, b1, b2, b3⟩ := (lift i2).at X r2
  cases e1; cases e2
  obtain ⟨x, hx, rx⟩ := a2.get ha
  obtain ⟨y, hy, ry⟩ := b2.get hb
  subst hT2
  refine wpAny_pyNext_zip_item D z1 (X.am.frz _ _ hT1) z2 z3 z4 (IsL.isList a1) (IsL.isList b1) (by simpa using hx) (by simpa using hy) fun h' q1 q2 q3 q4 q5 q6 q7 => ?_
  have hn : s.heap.get? s.heap.objs.size = none := Heap.get?_none_of_le (Nat.le_refl _)
  have hnF : F s.heap.objs.size = none := X.am.fresh
  have lt : ∀ {c o}, s.heap.get? c = some o → c ≠ s.heap.objs.size := fun e q => by rw [q, hn] at e; cases e
  have hzs : z ≠ s.heap.objs.size := lt z1
  refine hQ _ _ fun Q E hQ => wpAny_letOwnedTupleGo_zip q1 fun h'' p1 p2 => ?_
  have up : ∀ c o, c ≠ z → h'.get? c = some o → h''.get? c = some o := fun c o n e => p2.extBut _ _ n e
  refine hQ (F.put s.heap.objs.size _) h'' (Fle.put hnF _) (.tup (vs := [x, y]) (Fz.put_self _ _ _) ⟨by simp, 0, rfl⟩ ?_) ?_
  · exact (RepL.cons rx (.cons ry .nil)).mono (Fle.put hnF _)
  · have nF : ∀ c o, s.heap.get? c = some o → F c = none → F.put s.heap.objs.size { cls := .type "tuple", data := .seq ([x, y] : List Value).toArray } c = none := fun c o e f => by rw [Fz.put_ne _ _ (lt e)]; exact f
    refine X.turnAll (ch := zMu z TI TO j1 j2 l1 l2 i) (ch' := zMu z TI TO j1 j2 l1 l2 (i + 1)) (rest := τ.mu) (t := s.toks) rfl (fun c o hc e => ?_) (Fle.put hnF _) (fun c o e => ?_) (fun c o e => ?_) (fun p hp => ?_) (by rw [zMu_keys, ← zMu_keys (z := z) (TO := TO) (i1 := j1) (i2 := j2) (TI := TI) (l1 := l1) (l2 := l2) (k := i)]; exact (List.nodup_append.mp (by have := X.am.nd; rwa [show (τ.setMu (zMu z TI TO j1 j2 l1 l2 i ++ τ.mu)).mu = zMu z TI TO j1 j2 l1 l2 i ++ τ.mu from rfl, List.map_append] at this)).1)
    · rw [zMu_keys] at hc
      simp only [List.mem_cons, List.not_mem_nil, or_false, not_or] at hc
      exact up _ _ hc.1 (q7 c o hc.1 hc.2.1 hc.2.2.1 hc.2.2.2 e)
    · by_cases h : c = s.heap.objs.size
      · subst h; exact .inr hn
      · rw [Fz.put_ne _ _ h] at e; exact .inl e
    · by_cases h : c = s.heap.objs.size
      · subst h; rw [Fz.put_self] at e; cases e; exact up _ _ hzs.symm q5
      · rw [Fz.put_ne _ _ h] at e
        have hm : ∀ p ∈ zMu z TI TO j1 j2 l1 l2 i, c ≠ p.1 := fun p hp q => by
          have := (X.am.mus p (List.mem_append_left _ hp)).2.1
          rw [← q, e] at this; cases this
        exact up _ _ (hm _ (.head _)) (q7 c o (hm _ (.head _)) (hm _ (.tail _ (.head _))) (hm _ (.tail _ (.tail _ (.head _)))) (hm _ (.tail _ (.tail _ (.tail _ (.head _))))) (X.am.frz _ _ e))
    · have hk : p.1 ∈ (zMu z TI TO j1 j2 l1 l2 i).map (·.1) := by rw [zMu_keys, ← zMu_keys (z := z) (TO := TO) (i1 := j1) (i2 := j2) (TI := TI) (l1 := l1) (l2 := l2) (k := i + 1)]; exact List.mem_map_of_mem hp
      refine ⟨zMu_at p1 ⟨_, _, up _ _ D.TOz q2⟩ (q3.at fun o e => up _ _ D.i1z e) (q4.at fun o e => up _ _ D.i2z e) p hp, ?_, .inl hk⟩
      obtain ⟨q, hq, e⟩ := List.mem_map.mp hk
      have := X.am.mus q (List.mem_append_left _ hq)
      obtain ⟨o, ho⟩ := this.1.some
      rw [← e]
      exact nF _ o ho this.2.1
theorem zip_stop {K F : Fz} {s : Shared} {z TI TO j1 j2 l1 l2 : Addr} {oT : Obj} {d1 d2 : D} {ds1 ds2 : List D} {i : Nat} {τ : St} {Q : Option Value → Shared → Prop} {E : Value → Shared → Prop} (D : ZipApart z TI TO j1 j2 l1 l2) (hT1 : F TI = some oT) (hT2 : oT = { cls := .type "tuple", data := .seq #[.ref j1, .ref j2] })
    (X : Mo C K (τ.setMu (zMu z TI TO j1 j2 l1 l2 i ++ τ.mu)) F s) (i1 : Items C τ d1 ds1) (i2 : Items C τ d2 ds2) (r1 : Rep F (.ref l1) d1) (r2 : Rep F (.ref l2) d2) (ha : ds1[i]? = none ∨ ds2[i]? = none)
    (hQ : ∀ h', Mo C K τ F { s with heap := h' } → Q none { s with heap := h' }) :
    wpAny C.G.M C.A (pyNext (.ref z)) Q E s := by
  obtain ⟨z1, ⟨ta, tb, z2⟩, z3, z4⟩ := X.zip
  have lift : ∀ {d ds}, Items C τ d ds → Items C (τ.setMu (zMu z TI TO j1 j2 l1 l2 i ++ τ.mu)) d ds := fun h => by
    rcases h with h | ⟨a, e, h | h⟩
    · exact .inl h
    · exact .inr ⟨a, e, .inl (List.mem_append_right _ h)⟩
    · exact .inr ⟨a, e, .inr h⟩
  obtain ⟨l1', vs1, n1, e1, a1, a2, a3⟩ := (lift i1).at X r1
  obtain ⟨l2', vs2, n2, e2, b1, b2, b3⟩ := (lift i2).at X r2
  cases e1; cases e2
  subst hT2
  refine wpAny_pyNext_zip_end X.ok.rm.hh D z1 (X.am.frz _ _ hT1) z2 z3 z4 (IsL.isList a1) (IsL.isList b1) ?_ fun h' hk => ?_
  · refine ha.imp (fun h => ?_) fun h => ?_
    · have := a2.length
      have := List.getElem?_eq_none_iff.mp h
      simp; lia
    · have := b2.length
      have := List.getElem?_eq_none_iff.mp h
      simp; lia
  · have X' := X.turnAll (ch := zMu z TI TO j1 j2 l1 l2 i) (ch' := []) (rest := τ.mu) (F' := F) (h' := h') (t := s.toks) rfl (fun c o hc e => by
      rw [zMu_keys] at hc
      simp only [List.mem_cons, List.not_mem_nil, or_false, not_or] at hc
      exact hk c o hc.1 hc.2.1 hc.2.2.1 hc.2.2.2 e) (Fle.refl _) (fun c o e => .inl e) (fun c o e => by
        have hm : ∀ p ∈ zMu z TI TO j1 j2 l1 l2 i, c ≠ p.1 := fun p hp q => by
          have := (X.am.mus p (List.mem_append_left _ hp)).2.1
          rw [← q, e] at this; cases this
        exact hk c o (hm _ (.head _)) (hm _ (.tail _ (.head _))) (hm _ (.tail _ (.tail _ (.head _)))) (hm _ (.tail _ (.tail _ (.tail _ (.head _))))) (X.am.frz _ _ e)) (fun p hp => nomatch hp) (by simp)
    exact hQ h' X'
theorem forZip_loop {x y : Str} {px py tp : Pos} {kk : Nat} {body orelse ss : List Stmt} {d1 d2 : D} {ds1 ds2 : List D} (I : Nat → St → Prop) (hx : Stores C x) (hy : Stores C y)
    (hit : ∀ k σ, I k σ → Items C σ d1 ds1 ∧ Items C σ d2 ds2)
    (turn : ∀ k σ a b, ds1[k]? = some a → ds2[k]? = some b → I k σ → WP C ((σ.set x a).set y b) body fun o σ' => match o with | .next => I (k + 1) σ' | .cont => I (k + 1) σ' | .brk => WP C σ' ss Φ | .ret d => Φ (.ret d) σ')
    (done : ∀ σ, I (min ds1.length ds2.length) σ → WP C σ orelse fun o σ' => match o with | .next => WP C σ' ss Φ | o => Φ o σ') (h0 : I 0 σ)
    {K F1 : Fz} {s : Shared} {v1 v2 : Value} {Q : Flow → Shared → Prop} {E : Value → Shared → Prop} (X : Mo C K σ F1 s) (r1 : Rep F1 v1 d1) (r2 : Rep F1 v2 d2)
    (hQ : ∀ f o F' s' σ', OutIs F' f o → Mo C K σ' F' s' → Fle F1 F' → (match o with | .next => WP C σ' ss Φ | o => Φ o σ') → Q f s') {E2 : Value → Shared → Prop} :
    wpAny C.G.M C.A (call (.type "zip") [v1, v2]) (fun v s₁ => wpAny C.G.M C.A (pyIter v) (fun it s₂ => codeAny C.G.M C.A (.forLoop (.Tuple [.Name x px, .Name y py] kk tp) it body orelse C.env) (fun r s' => match r with | .ok f => Q f s' | .error e => cameBackBy C.G.M C.A C.env E e s') s₂) E s₁) E2 s := by
  refine zip_made X (hit 0 σ h0).1 (hit 0 σ h0).2 r1 r2 fun z TI TO j1 j2 l1 l2 oT F2 h' e1 e2 D hT1 hT2 g2 X2 => ?_
  subst e1 e2
  refine wpAny_pyIter_zip X2.zip.1 ?_
  refine codeAny_forLoop_any (prog := C.G.prog) (w := C.G.w) (fun n s' => ∃ k σ' F', n + k = min ds1.length ds2.length ∧ I k σ' ∧ Mo C K (σ'.setMu (zMu z TI TO j1 j2 l1 l2 k ++ σ'.mu)) F' s' ∧ Fle F2 F') ?_ (min ds1.length ds2.length) ⟨0, σ, F2, by simp, h0, X2, Fle.refl _⟩
  rintro n s3 ⟨k, σ3, F3, hn, hI, X3, g3⟩
  obtain ⟨it1, it2⟩ := hit k σ3 hI
  cases n with
  | zero =>
    have hk : k = min ds1.length ds2.length := by lia
    subst hk
    refine zip_stop D (g3 _ _ hT1) hT2 X3 it1 it2 (r1.mono (g2.trans g3)) (r2.mono (g2.trans g3)) ?_ fun h4 X4 => ?_
    · rcases Nat.le_total ds1.length ds2.length with h | h
      · exact .inl (List.getElem?_eq_none_iff.mpr (by lia))
      · exact .inr (List.getElem?_eq_none_iff.mpr (by lia))
    · refine done σ3 hI K F3 _ _ _ X4 fun f o F5 s5 σ5 ho X5 g5 hΦ => ?_
      exact hQ f o F5 s5 σ5 ho X5 ((g2.trans g3).trans g5) hΦ
  | succ n =>
    have hk1 : k < ds1.length := by lia
    have hk2 : k < ds2.length := by lia
    refine zip_turn (elts := [.Name x px, .Name y py]) (kk := kk) (tp := tp) D (g3 _ _ hT1) hT2 X3 it1 it2 (r1.mono (g2.trans g3)) (r2.mono (g2.trans g3)) (List.getElem?_eq_getElem hk1) (List.getElem?_eq_getElem hk2) fun v s4 hv => ?_
    refine hv _ _ fun F5 h5 g5 r5 X5 => ?_
    refine Asg.pair hx hy K F5 _ v _ _ X5 r5 fun s6 X6 => ?_
    obtain ⟨K', X7, back⟩ := Mo.hideL (zMu z TI TO j1 j2 l1 l2 (k + 1)) (rest := σ3.mu) X6 rfl
    have e7 : ((((σ3.setMu (zMu z TI TO j1 j2 l1 l2 (k + 1) ++ σ3.mu)).set x ds1[k]).set y ds2[k]).setMu σ3.mu) = (σ3.set x ds1[k]).set y ds2[k] := rfl
    rw [e7] at X7
    refine turn k σ3 _ _ (List.getElem?_eq_getElem hk1) (List.getElem?_eq_getElem hk2) hI K' F5 s6 _ _ X7 fun f o F8 s8 σ8 ho X8 g8 hΦ => ?_
    have X9 := back σ8 F8 s8 X8 g8
    have X9' : Mo C K σ8 F8 s8 := X9.sub (mu' := σ8.mu) (fun p hp => List.mem_append_right _ hp) X8.am.nd
    cases o with
    | next => cases f <;> first | exact ho.elim | exact ⟨n, Nat.lt_succ_self n, k + 1, σ8, F8, by lia, hΦ, X9, (g3.trans g5).trans g8⟩
    | cont => cases f <;> first | exact ho.elim | exact ⟨n, Nat.lt_succ_self n, k + 1, σ8, F8, by lia, hΦ, X9, (g3.trans g5).trans g8⟩
    | brk => cases f <;> first | exact ho.elim | exact hQ .next .next F8 s8 σ8 trivial X9' (((g2.trans g3).trans g5).trans g8) hΦ
    | ret d => cases f <;> first | exact ho.elim | exact hQ _ (.ret d) F8 s8 σ8 ho X9' (((g2.trans g3).trans g5).trans g8) hΦ
end
end Mine
end

section
namespace Mine

noncomputable def free (rows : List (List Int)) (c : Int) : Bool := rows.all fun r => !decide (c ∈ r.tail)
noncomputable def pick (rows : List (List Int)) : Option Int := (rows.filterMap List.head?).find? (free rows)
noncomputable def strip1 (c : Int) (r : List Int) : List Int := if r.head? = some c then r.tail else r
noncomputable def strip (c : Int) (rows : List (List Int)) : List (List Int) := rows.map (strip1 c)
noncomputable def c3 : Nat → List (List Int) → List Int × List (List Int)
  | 0, rows => ([], rows)
  | n + 1, rows => match pick rows with
    | none => ([], rows)
    | some c => (c :: (c3 n (strip c rows)).1, (c3 n (strip c rows)).2)
noncomputable def total (rows : List (List Int)) : Nat := (rows.map List.length).sum

theorem strip_total {c : Int} : ∀ {rows : List (List Int)}, total (strip c rows) ≤ total rows
  | [] => Nat.le_refl _
  | r :: rows => by
    have ih := strip_total (c := c) (rows := rows)
    unfold total strip at ih ⊢
    simp only [List.map_cons, List.sum_cons]
    have : (strip1 c r).length ≤ r.length := by
      unfold strip1
      split
      · simp
      · exact Nat.le_refl _
    lia
theorem strip_lt {c : Int} : ∀ {rows : List (List Int)}, c ∈ rows.filterMap List.head? → total (strip c rows) < total rows
  | [], h => by simp at h
  | [] :: rows, h => by
    have ih := strip_lt (c := c) (rows := rows) (by simpa using h)
    simpa [total, strip, strip1] using ih
  | (x :: r) :: rows, h => by
    have h1 := strip_total (c := c) (rows := rows)
    unfold total strip at h1 ⊢
    simp only [List.map_cons, List.sum_cons]
    by_cases e : x = c
    · subst e
      simp [strip1, -List.map_map]; lia
    · have ih := strip_lt (c := c) (rows := rows) (by simpa [Ne.symm e] using h)
      unfold total strip at ih
      simp [strip1, e, -List.map_map]; lia
theorem pick_mem {rows : List (List Int)} {c : Int} (h : pick rows = some c) : c ∈ rows.filterMap List.head? := List.mem_of_find?_eq_some h
theorem pick_free {rows : List (List Int)} {c : Int} (h : pick rows = some c) : free rows c = true := List.find?_some h

theorem c3_fuel : ∀ {n m : Nat} {rows : List (List Int)}, total rows ≤ n → total rows ≤ m → c3 n rows = c3 m rows
  | 0, 0, _, _, _ => rfl
  | 0, m + 1, rows, h, _ => by
    have : pick rows = none := by
      cases e : pick rows with
      | none => rfl
      | some c => have := strip_lt (pick_mem e); lia
    simp [c3, this]
  | n + 1, 0, rows, _, h => by
    have : pick rows = none := by
      cases e : pick rows with
      | none => rfl
      | some c => have := strip_lt (pick_mem e); lia
    simp [c3, this]
  | n + 1, m + 1, rows, h1, h2 => by
    unfold c3
    cases e : pick rows with
    | none => rfl
    | some c =>
      have := strip_lt (pick_mem e)
      simp only
      rw [c3_fuel (n := n) (m := m) (by lia) (by lia)]
noncomputable def mrg (rows : List (List Int)) : List Int × List (List Int) := c3 (total rows) rows
theorem mrg_some {rows : List (List Int)} {c : Int} (h : pick rows = some c) : mrg rows = (c :: (mrg (strip c rows)).1, (mrg (strip c rows)).2) := by
  unfold mrg
  have hl := strip_lt (pick_mem h)
  obtain ⟨k, hk⟩ : ∃ k, total rows = k + 1 := ⟨total rows - 1, by lia⟩
  rw [hk, c3, h]
  simp only
  rw [c3_fuel (n := k) (m := total (strip c rows)) (by lia) (Nat.le_refl _)]
theorem mrg_none {rows : List (List Int)} (h : pick rows = none) : mrg rows = ([], rows) := by
  unfold mrg
  cases total rows with
  | zero => rfl
  | succ k => rw [c3, h]
theorem pick_filter (rows : List (List Int)) : pick (rows.filter fun r => !r.isEmpty) = pick rows := by
  have h1 : (rows.filter fun r => !r.isEmpty).filterMap List.head? = rows.filterMap List.head? := by
    induction rows with
    | nil => rfl
    | cons r rows ih => cases r <;> simp [ih, List.filterMap_cons]
  have h2 : free (rows.filter fun r => !r.isEmpty) = free rows := by
    clear h1
    funext c
    unfold free
    induction rows with
    | nil => rfl
    | cons r rows ih =>
      cases r with
      | nil => simp [ih]
      | cons x r => simp [ih]
  unfold pick
  rw [h1, h2]
end Mine
end

section
set_option Elab.async false
set_option linter.unusedVariables false
set_option linter.unusedSimpArgs false
set_option maxRecDepth 100000
namespace Mine
open PySem PySem.W PyProof.Rows PySem.Calls

noncomputable abbrev Prs := List (Addr × List Int)
noncomputable def ent (prs : Prs) : Mu := prs.map fun p => (p.1, MO.list (zs p.2))
noncomputable def refs (prs : Prs) : List D := prs.map fun p => D.ref p.1
noncomputable def rowsOf (prs : Prs) : List (List Int) := prs.map (·.2)
noncomputable def ne (p : Addr × List Int) : Bool := !p.2.isEmpty
noncomputable def stripP (c : Int) (prs : Prs) : Prs := prs.map fun p => (p.1, strip1 c p.2)
theorem ent_mem {prs : Prs} {p : Addr × List Int} (h : p ∈ prs) : (p.1, MO.list (zs p.2)) ∈ ent prs := List.mem_map.mpr ⟨p, h, rfl⟩
theorem ent_append (a b : Prs) : ent (a ++ b) = ent a ++ ent b := List.map_append
theorem zs_isEmpty (l : List Int) : (zs l).isEmpty = l.isEmpty := by cases l <;> rfl

section
variable {C : Cx}
theorem compOk0 {scope : Scope} (h1 : closureFor scope C.env = pure []) (h2 : scope.kind = .function) (h3 : ∀ y ∈ scope.names, y.2 = .local → scope.names.lookup y.1 = some .local) (h4 : ∀ y ∈ scope.names, y.2 ≠ .cell) : CompOk C scope [] :=
  ⟨h1, h2, h3, fun x c h => (nomatch h), fun x h => (nomatch h), List.Pairwise.nil, fun y _ hm => h4 _ hm rfl⟩
end

theorem filter_nil_all {cur : Prs} (h : cur.filter ne = []) : ∀ p ∈ cur, p.2 = [] := fun p hp => by
  have := List.filter_eq_nil_iff.mp h p hp
  simpa [ne] using this
theorem pick_all_nil {rows : List (List Int)} (h : ∀ r ∈ rows, r = []) : pick rows = none := by
  have : rows.filterMap List.head? = [] := by
    rw [List.filterMap_eq_nil_iff]
    intro r hr
    rw [h r hr]; rfl
  unfold pick
  rw [this]; rfl
theorem all_nil_eq {cur prs : Prs} (h : ∀ p ∈ cur, p.2 = []) (ha : cur.map (·.1) = prs.map (·.1)) : cur = prs.map fun p => (p.1, []) := by
  induction cur generalizing prs with
  | nil => cases prs with
    | nil => rfl
    | cons _ _ => simp at ha
  | cons p cur ih =>
    cases prs with
    | nil => simp at ha
    | cons q prs =>
      simp only [List.map_cons, List.cons.injEq] at ha ⊢
      refine ⟨?_, ih (fun p hp => h p (.tail _ hp)) ha.2⟩
      have := h p (.head _)
      obtain ⟨a, b⟩ := p
      simp only at this ha
      rw [this, ha.1]
theorem rowsOf_filter (cur : Prs) : rowsOf (cur.filter ne) = (rowsOf cur).filter fun r => !r.isEmpty := by
  unfold rowsOf
  induction cur with
  | nil => rfl
  | cons p cur ih =>
    rw [List.filter_cons, List.map_cons, List.filter_cons]
    by_cases h : ne p = true
    · rw [if_pos h, List.map_cons, ih, if_pos (show (!p.2.isEmpty) = true from h)]
    · rw [if_neg h, ih, if_neg (show ¬(!p.2.isEmpty) = true from h)]
theorem refs_isEmpty (prs : Prs) : (refs prs).isEmpty = prs.isEmpty := by cases prs <;> rfl
theorem heads_ne {S : Prs} (h : ∀ p ∈ S, ne p = true) : (rowsOf S).filterMap List.head? = S.map fun p => p.2.headD 0 := by
  induction S with
  | nil => rfl
  | cons p S ih =>
    have h1 := h p (.head _)
    obtain ⟨a, l⟩ := p
    cases l with
    | nil => simp [ne] at h1
    | cons x l =>
      have := ih fun p hp => h p (.tail _ hp)
      unfold rowsOf at this ⊢
      simp [this]

theorem refs_get {S : Prs} {k : Nat} {d : D} (h : (refs S)[k]? = some d) : ∃ p, S[k]? = some p ∧ d = .ref p.1 := by
  rw [refs, List.getElem?_map] at h
  obtain ⟨p, h1, h2⟩ := Option.map_eq_some_iff.mp h
  exact ⟨p, h1, h2.symm⟩
theorem head_get {l : List Int} (h : l ≠ []) : (zs l)[(0 : Int).toNat]? = some (.int (l.headD 0)) := by
  cases l with
  | nil => exact absurd rfl h
  | cons x l => rfl
theorem ne_nil {p : Addr × List Int} (h : ne p = true) : p.2 ≠ [] := fun e => by simp [ne, e] at h
theorem find_first {α : Type} {q : α → Bool} : ∀ {l : List α} {k : Nat} {x : α}, l[k]? = some x → q x = true → (∀ i, i < k → ∀ y, l[i]? = some y → q y = false) → l.find? q = some x
  | a :: l, 0, x, h, hq, _ => by
    simp only [List.getElem?_cons_zero, Option.some.injEq] at h
    subst h
    simp [hq]
  | a :: l, k + 1, x, h, hq, hp => by
    have h0 := hp 0 (Nat.succ_pos k) a rfl
    rw [List.find?_cons, h0]
    exact find_first (k := k) (by simpa using h) hq fun i hi y hy => hp (i + 1) (by lia) y (by simpa using hy)
theorem find_none {α : Type} {q : α → Bool} {l : List α} (h : ∀ i, i < l.length → ∀ y, l[i]? = some y → q y = false) : l.find? q = none := by
  rw [List.find?_eq_none]
  intro x hx
  obtain ⟨i, hi, rfl⟩ := List.getElem_of_mem hx
  rw [h i hi _ (List.getElem?_eq_getElem hi)]
  simp
theorem pick_at {S : Prs} (hS : ∀ p ∈ S, ne p = true) {k : Nat} {p : Addr × List Int} (hk : S[k]? = some p) (h1 : free (rowsOf S) (p.2.headD 0) = true) (h2 : ∀ i, i < k → ∀ p, S[i]? = some p → free (rowsOf S) (p.2.headD 0) = false) : pick (rowsOf S) = some (p.2.headD 0) := by
  unfold pick
  rw [heads_ne hS]
  refine find_first (k := k) (by rw [List.getElem?_map, hk]; rfl) h1 fun i hi y hy => ?_
  rw [List.getElem?_map] at hy
  obtain ⟨q, hq, rfl⟩ := Option.map_eq_some_iff.mp hy
  exact h2 i hi q hq
theorem pick_not {S : Prs} (hS : ∀ p ∈ S, ne p = true) (h2 : ∀ i, i < S.length → ∀ p, S[i]? = some p → free (rowsOf S) (p.2.headD 0) = false) : pick (rowsOf S) = none := by
  unfold pick
  rw [heads_ne hS]
  refine find_none fun i hi y hy => ?_
  rw [List.getElem?_map] at hy
  obtain ⟨q, hq, rfl⟩ := Option.map_eq_some_iff.mp hy
  exact h2 i (by simpa using hi) q hq
theorem free_iff {S : Prs} {c : Int} : free (rowsOf S) c = true ↔ ∀ (j : Nat) (p : Addr × List Int), S[j]? = some p → c ∉ p.2.tail := by
  unfold free rowsOf
  rw [List.all_map, List.all_eq_true]
  constructor
  · intro h j p hj
    have := h p (List.mem_of_getElem? hj)
    simpa using this
  · intro h p hp
    obtain ⟨j, hj, rfl⟩ := List.getElem_of_mem hp
    simpa using h j S[j] (List.getElem?_eq_getElem hj)
theorem filter_split {S1 : Prs} {p : Addr × List Int} : ∀ {post : Prs}, post.filter ne = p :: S1 → ∃ a b, post = a ++ p :: b ∧ (∀ q ∈ a, ne q = false) ∧ ne p = true ∧ b.filter ne = S1
  | [], h => by cases h
  | q :: post, h => by
    rw [List.filter_cons] at h
    by_cases hq : ne q = true
    · rw [if_pos hq] at h
      obtain ⟨rfl, rfl⟩ := List.cons.inj h
      exact ⟨[], post, rfl, by simp, hq, rfl⟩
    · rw [if_neg hq] at h
      obtain ⟨a, b, rfl, h1, h2, h3⟩ := filter_split h
      exact ⟨q :: a, b, rfl, List.forall_mem_cons.mpr ⟨by simpa using hq, h1⟩, h2, h3⟩
theorem stripP_empty {c : Int} : ∀ {a : Prs}, (∀ q ∈ a, ne q = false) → stripP c a = a
  | [], _ => rfl
  | q :: a, h => by
    have h1 := h q (.head _)
    obtain ⟨x, l⟩ := q
    cases l with
    | nil => rw [stripP, List.map_cons]; exact congrArg _ (stripP_empty fun q hq => h q (.tail _ hq))
    | cons y l => simp [ne] at h1
theorem stripP_append {c : Int} (a b : Prs) : stripP c (a ++ b) = stripP c a ++ stripP c b := List.map_append
theorem stripP_filter {c : Int} (cur : Prs) : (stripP c (cur.filter ne)).filter ne = (stripP c cur).filter ne := by
  induction cur with
  | nil => rfl
  | cons p cur ih =>
    rw [List.filter_cons]
    by_cases h : ne p = true
    · rw [if_pos h]
      show (List.filter ne ((p.1, strip1 c p.2) :: stripP c (cur.filter ne))) = List.filter ne ((p.1, strip1 c p.2) :: stripP c cur)
      rw [List.filter_cons, List.filter_cons, ih]
    · rw [if_neg h]
      have he : p.2 = [] := by simpa [ne] using h
      show _ = List.filter ne ((p.1, strip1 c p.2) :: stripP c cur)
      rw [List.filter_cons, ih, if_neg]
      simp [ne, he, strip1]
theorem rowsOf_strip (c : Int) (cur : Prs) : rowsOf (stripP c cur) = strip c (rowsOf cur) := by
  unfold rowsOf stripP strip
  rw [List.map_map, List.map_map]; rfl
theorem zs_snoc (l : List Int) (c : Int) : zs l ++ [.int c] = zs (l ++ [c]) := by simp [zs]

section
variable {G : Gx} {f : Addr} {name qual : Str} {dV kV doc pm cdv ct : Value} {an : Option Addr}
noncomputable abbrev mgCx (G : Gx) (A : Around) (name qual : Str) (doc pm cdv ct : Value) (an : Option Addr) (f L : Addr) (n : Nat) (P : Pred) : Cx := fnCx G A (fdN 4 name qual .none .none doc pm an cdv ct) f L n P

end
end Mine
end

section
set_option Elab.async false
set_option linter.unusedVariables false
set_option linter.unusedSimpArgs false
set_option maxRecDepth 100000
namespace Mine
open PySem PySem.W PyProof.Rows PySem.Calls
theorem zs_take (l : List Int) (n : Nat) : (zs l).take n = zs (l.take n) := by simp [zs, List.map_take]
theorem zs_drop (l : List Int) (n : Nat) : (zs l).drop n = zs (l.drop n) := by simp [zs, List.map_drop]
theorem zs_set (l : List Int) (n : Nat) (x : Int) : (zs l).set n (.int x) = zs (l.set n x) := by simp [zs, List.map_set]
theorem zs_append (l m : List Int) : zs l ++ zs m = zs (l ++ m) := by simp [zs]
theorem zs_length (l : List Int) : (zs l).length = l.length := by simp [zs]
theorem zs_get (l : List Int) {i : Nat} (h : i < l.length) : (zs l)[i]? = some (.int (l.getD i 0)) := by simp [zs, h]
structure Bt (G : Gx) : Prop where
  len : G.mg "len" = none ∧ G.mb "len" = some (.builtin "len")
  sum : G.mg "sum" = none ∧ G.mb "sum" = some (.builtin "sum")
  min : G.mg "min" = none ∧ G.mb "min" = some (.builtin "min")
  sorted : G.mg "sorted" = none ∧ G.mb "sorted" = some (.builtin "sorted")
  range : G.mg "range" = none ∧ G.mb "range" = some (.type "range")
  list : G.mg "list" = none ∧ G.mb "list" = some (.type "list")
noncomputable def nats (n : Nat) : List Int := (List.range n).map fun i : Nat => (i : Int)
theorem rints_nats (n : Nat) : rints 0 n = zs (nats n) := by simp [rints, zs, nats]
section
variable {C : Cx} {σ : St}
theorem compOkF {scope : Scope} {cl : List (Str × Addr)} (h1 : closureFor scope C.env = pure cl) (h2 : scope.kind = .function) (h3 : ∀ y ∈ scope.names, y.2 = .local → scope.names.lookup y.1 = some .local) (h4 : ∀ x ∈ cl, C.env.cells.lookup x.1 = some x.2) (h5 : cl.Pairwise fun x y => x.1 ≠ y.1) (h6 : ∀ y ∈ scope.names, y.2 ≠ .cell) : CompOk C scope cl :=
  ⟨h1, h2, h3, fun x c h => h4 (x, c) (mem_of_lookup h), fun x h => mem_of_lookup (h4 x h), h5, fun y _ hm => h6 _ hm rfl⟩
theorem Ev.len {x : Str} {p pos : Pos} {e : Expr} {d : D} {ds : List D} {k : Int} (hb : BN C "len" (.builtin "len")) (he : Ev C σ e d) (hi : Items C σ d ds) (hk : (ds.length : Int) = k) (hs : starEach [e] C.env = [(false, eval e C.env)] := by rfl) : Ev C σ (.Call (.Name "len" p) [e] [] pos) (.int k) :=
  hk ▸ Ev.of_just (EvX.call1 (.inl ⟨_, rfl⟩) hb he (C1.len hi) hs)
theorem Ev.range {p pos : Pos} {e : Expr} {n : Int} (hb : BN C "range" (.type "range")) (he : Ev C σ e (.int n)) (hs : starEach [e] C.env = [(false, eval e C.env)] := by rfl) : Ev C σ (.Call (.Name "range" p) [e] [] pos) (.rng 0 n) :=
  Ev.of_just (EvX.call1 (.inr ⟨_, rfl⟩) hb he C1.range hs)
end
theorem CallSem.pure {G : Gx} {n : Nat} {P : Pred} {f : Addr} {pas : Mu} {ds : List D} {d : D} (h : CallSem G n P f pas ds (fun d' _ => d' = d)) : CallSem G n P f pas ds (Pure d) :=
  ⟨h.fn, fun A K F s vs Q E hr hp X r hQ => h.sem A K F s vs Q E hr hp X r fun F' v s' d' mu hd X' g r' => hQ F' v s' d' [] ⟨hd, rfl⟩ (X'.sub (fun p hp => nomatch hp) List.nodup_nil) g r'⟩
noncomputable def pairUp (as : List Addr) (gs : List (List Int)) : Prs := as.zip gs
theorem pair_ent : ∀ {as : List Addr} {gs : List (List Int)}, zipMu as (gs.map zs) = ent (pairUp as gs)
  | [], _ => by simp [zipMu, ent, pairUp]
  | _ :: _, [] => by simp [zipMu, ent, pairUp]
  | a :: as, g :: gs => by
    have ih := pair_ent (as := as) (gs := gs)
    simp only [zipMu, ent, pairUp, List.map_cons, List.zipWith_cons_cons, List.zip_cons_cons] at ih ⊢
    rw [ih]
theorem pair_refs : ∀ {as : List Addr} {gs : List (List Int)}, as.length = gs.length → as.map D.ref = refs (pairUp as gs)
  | [], [], _ => rfl
  | a :: as, g :: gs, h => by
    have ih := pair_refs (as := as) (gs := gs) (by simpa using h)
    simp only [refs, pairUp, List.map_cons, List.zip_cons_cons] at ih ⊢
    rw [ih]
theorem pair_rows : ∀ {as : List Addr} {gs : List (List Int)}, as.length = gs.length → rowsOf (pairUp as gs) = gs
  | [], [], _ => rfl
  | a :: as, g :: gs, h => by
    have ih := pair_rows (as := as) (gs := gs) (by simpa using h)
    simp only [rowsOf, pairUp, List.map_cons, List.zip_cons_cons] at ih ⊢
    rw [ih]
theorem filter_tr {α : Type} (l : List α) : l.filter (fun _ => true) = l := List.filter_eq_self.mpr (by simp)
noncomputable def zss (es : List (List Int)) : List D := es.map fun e => .list (zs e)
noncomputable abbrev PT : Pred := fun _ _ => True
theorem PT.mon : Pred.Mon PT := fun _ _ _ _ _ _ _ => trivial
end Mine
end

section
set_option Elab.async false
set_option linter.unusedVariables false
set_option linter.unusedSimpArgs false
namespace Mine
open PySem PySem.W PyProof.Rows PySem.Calls
section
variable {prog : Program} {w : World} {A : Around} {E : Value → Shared → Prop} {R : Result → Shared → Prop} {s : Shared} {elt : Expr} {g0 : Comprehension} {target iter : Expr} {scope : Scope} {pos : Pos} {it acc : Value} {env : Env}
theorem compStart1 (h0 : codeAny (model prog w) A (.compLoop (.ListComp elt [g0, ⟨target, iter, [], 0⟩] scope pos) 1 it acc env) R s)
    (h : wpAny (model prog w) A (pyIter it) (fun it' s' => codeAny (model prog w) A (.compLoop (.ListComp elt [g0, ⟨target, iter, [], 0⟩] scope pos) 1 it' acc env) R s') (notedBy (model prog w) A env fun x s' => R (.error x) s') s) :
    codeAny (model prog w) A (.compStart (.ListComp elt [g0, ⟨target, iter, [], 0⟩] scope pos) 1 it acc env) R s := by
  refine codeAny_of_tree ?_
  show wpAny _ _ ((compStart (.ListComp elt [g0, ⟨target, iter, [], 0⟩] scope pos) 1 it acc env).onRaise (fun x => do noteFrame x env; standAt theWindowsPlace)) _ _ s
  refine wpAny_notedAt ?_
  unfold compStart
  show wpAny _ _ (ask >>= _) _ _ s
  refine wpAny_bind (wpAny_askSetting (wpAny_ite ?_))
  split
  · first
      | exact wpAny_bind (wpAny_pure (wpAny_pure (And.intro rfl h0)))
      | exact wpAny_pure (And.intro rfl h0)
  · refine wpAny_bind (wpAny_rule ?_)
    show wpAny _ _ (standAt iter.pos >>= _) _ _ s
    exact wpAny_bind (wpAny_standAt (wpAny_bind (wpAny_mono h (fun it' s' h' => wpAny_pure (And.intro rfl h')) fun _ _ x => x)))
theorem turn1 : compTurn (.ListComp elt [g0, ⟨target, iter, [], 0⟩] scope pos) 1 it acc env = (standAt iter.pos >>= fun _ => pyNext it >>= fun r => match r with
      | none => pure (.done .next)
      | some v => letOwnedTupleGo target it v >>= fun _ => assign target env v >>= fun _ =>
        (eval elt env >>= fun x => call (.builtin "list.append") [acc, x] >>= fun _ => pure ()) >>= fun _ =>
          again (.compLoop (.ListComp elt [g0, ⟨target, iter, [], 0⟩] scope pos) 1 it acc env)) := by rfl
theorem loop1 (I : Nat → Shared → Prop)
    (turn : ∀ n s, I n s → wpAny (model prog w) A (pyNext it) (fun r s₁ => match r with
      | none => R (.ok .next) s₁
      | some v => wpAny (model prog w) A (assign target env v) (fun _ s₂ => wpAny (model prog w) A (eval elt env) (fun x s₃ =>
          wpAny (model prog w) A (call (.builtin "list.append") [acc, x]) (fun _ s₄ => ∃ m, m < n ∧ I m s₄) (notedBy (model prog w) A env fun e s' => R (.error e) s') s₃)
            (notedBy (model prog w) A env fun e s' => R (.error e) s') s₂) (notedBy (model prog w) A env fun e s' => R (.error e) s') s₁) (notedBy (model prog w) A env fun e s' => R (.error e) s') s)
    (n : Nat) (h : I n s) (ht : ∀ v, letOwnedTupleGo target it v = pure () := by intro _; rfl) :
    codeAny (model prog w) A (.compLoop (.ListComp elt [g0, ⟨target, iter, [], 0⟩] scope pos) 1 it acc env) R s := by
  refine codeAny_loop rfl I (fun n s hI => ?_) n h
  show wpAny _ A ((compTurn (.ListComp elt [g0, ⟨target, iter, [], 0⟩] scope pos) 1 it acc env).onRaise (fun x => do noteFrame x env; theTreesLotGoes x)) _ _ s
  refine wpAny_noted ?_
  rw [turn1]
  refine wpAny_bind (wpAny_standAt (wpAny_bind (wpAny_mono (turn n s hI) (fun r s₁ h₁ => ?_) fun _ _ h' => h')))
  cases r with
  | none => exact wpAny_pure h₁
  | some v =>
    refine wpAny_bind (wpAny_of_eq (ht v) ?_)
    refine wpAny_bind (wpAny_mono h₁ (fun _ s₂ h₂ => ?_) fun _ _ h' => h')
    exact wpAny_bind (wpAny_bind (wpAny_mono h₂ (fun x s₃ h₃ => wpAny_bind (wpAny_mono h₃ (fun _ s₄ h₄ => wpAny_pure (wpAny_pure ⟨rfl, h₄⟩)) fun _ _ h' => h')) fun _ _ h' => h'))
variable {target0 iter0 : Expr}
theorem turn0 : compTurn (.ListComp elt [⟨target0, iter0, [], 0⟩, ⟨target, iter, [], 0⟩] scope pos) 0 it acc env = (standAt iter0.pos >>= fun _ => pyNext it >>= fun r => match r with
      | none => pure (.done .next)
      | some v => letOwnedTupleGo target0 it v >>= fun _ => assign target0 env v >>= fun _ =>
        eval iter env >>= fun x => standAt iter.pos >>= fun _ => foldedSetIterable iter env x >>= fun x => holding [x] (pyIter x) >>= fun i =>
          runOwn (.compStart (.ListComp elt [⟨target0, iter0, [], 0⟩, ⟨target, iter, [], 0⟩] scope pos) 1 i acc env) env >>= fun _ =>
          again (.compLoop (.ListComp elt [⟨target0, iter0, [], 0⟩, ⟨target, iter, [], 0⟩] scope pos) 0 it acc env)) := by rfl
theorem loop0 (I : Nat → Shared → Prop)
    (turn : ∀ n s, I n s → wpAny (model prog w) A (pyNext it) (fun r s₁ => match r with
      | none => R (.ok .next) s₁
      | some v => wpAny (model prog w) A (assign target0 env v) (fun _ s₂ => wpAny (model prog w) A (eval iter env) (fun x s₃ => wpAny (model prog w) A (pyIter x) (fun i s₄ =>
          codeAny (model prog w) A (.compStart (.ListComp elt [⟨target0, iter0, [], 0⟩, ⟨target, iter, [], 0⟩] scope pos) 1 i acc env) (fun r s₅ => match r with | .ok _ => ∃ m, m < n ∧ I m s₅ | .error e => False) s₄)
            (notedBy (model prog w) A env fun e s' => R (.error e) s') s₃)
            (notedBy (model prog w) A env fun e s' => R (.error e) s') s₂) (notedBy (model prog w) A env fun e s' => R (.error e) s') s₁) (notedBy (model prog w) A env fun e s' => R (.error e) s') s)
    (n : Nat) (h : I n s) (ht : ∀ v, letOwnedTupleGo target0 it v = pure () := by intro _; rfl) (hs : ∀ x, foldedSetIterable iter env x = pure x := by intro _; rfl) :
    codeAny (model prog w) A (.compLoop (.ListComp elt [⟨target0, iter0, [], 0⟩, ⟨target, iter, [], 0⟩] scope pos) 0 it acc env) R s := by
  refine codeAny_loop rfl I (fun n s hI => ?_) n h
  show wpAny _ A ((compTurn (.ListComp elt [⟨target0, iter0, [], 0⟩, ⟨target, iter, [], 0⟩] scope pos) 0 it acc env).onRaise (fun x => do noteFrame x env; theTreesLotGoes x)) _ _ s
  refine wpAny_noted ?_
  rw [turn0]
  refine wpAny_bind (wpAny_standAt (wpAny_bind (wpAny_mono (turn n s hI) (fun r s₁ h₁ => ?_) fun _ _ h' => h')))
  cases r with
  | none => exact wpAny_pure h₁
  | some v =>
    refine wpAny_bind (wpAny_of_eq (ht v) ?_)
    refine wpAny_bind (wpAny_mono h₁ (fun _ s₂ h₂ => ?_) fun _ _ h' => h')
    refine wpAny_bind (wpAny_mono h₂ (fun x s₃ h₃ => ?_) fun _ _ h' => h')
    refine wpAny_bind (wpAny_standAt (wpAny_bind (wpAny_of_eq (hs x) (wpAny_bind (wpAny_holding (wpAny_mono h₃ (fun i s₄ h₄ => ?_) fun _ _ h' => h'))))))
    refine wpAny_bind (wpAny_runOwn (codeAny_mono h₄ fun r s₅ h₅ => ?_))
    cases r with
    | ok f => exact wpAny_pure ⟨rfl, h₅⟩
    | error e => exact h₅.elim
end
section
variable {C : Cx} {scope : Scope}
theorem sub_cons {x : Str} {d : D} {vs0 vs : List (Str × D)} (h : ∀ y e, vs0.lookup y = some e → vs.lookup y = some e) : ∀ y e, ((x, d) :: vs0).lookup y = some e → ((x, d) :: vs).lookup y = some e := fun y e q => by
  rw [List.lookup_cons] at q ⊢
  cases hb : y == x with
  | true => rw [hb] at q; exact q
  | false => rw [hb] at q; exact h y e q
theorem sub_self {x : Str} {d : D} {vs0 : List (Str × D)} (h : vs0.lookup x = none) : ∀ y e, vs0.lookup y = some e → ((x, d) :: vs0).lookup y = some e := fun y e q => by
  rw [List.lookup_cons]
  cases hb : y == x with
  | true => rw [beq_iff_eq.mp hb] at q; rw [h] at q; cases q
  | false => exact q
theorem comp_inner {K0 F0 : Fz} {elt iter : Expr} {g0 : Comprehension} {x : Str} {px pos : Pos} {it acc : Addr} {ds : List D} {P : Nat → Obj → Prop} {R : Result → Shared → Prop} {vs0 : List (Str × D)} {out0 : List D} {nm : Mu} {s : Shared} (g : D → D) (I : IterOk C.G C.A K0 F0 it ds P) (hl : out0.length + ds.length ≤ 100000)
    (hasg : ∀ d mu vs, Asg C { vars := vs, mu := mu } (.Name x px) d { vars := (x, d) :: vs, mu := mu }) (hx0 : vs0.lookup x = none) (step : ∀ d mu, d ∈ ds → Ev C { vars := (x, d) :: vs0, mu := mu } elt (g d))
    (hR : ∀ F' s' vs, (∀ y e, vs0.lookup y = some e → vs.lookup y = some e) → Mo C K0 { vars := vs, mu := (acc, .list (out0 ++ ds.map g)) :: nm } F' s' → Fle F0 F' → R (.ok .next) s')
    {vs1 : List (Str × D)} (hv1 : ∀ y e, vs0.lookup y = some e → vs1.lookup y = some e) (X : Mo C K0 { vars := vs1, mu := (it, .obj (P 0)) :: (acc, .list out0) :: nm } F0 s) :
    codeAny C.G.M C.A (.compLoop (.ListComp elt [g0, ⟨.Name x px, iter, [], 0⟩] scope pos) 1 (.ref it) (.ref acc) C.env) R s := by
  refine loop1 (prog := C.G.prog) (w := C.G.w) (fun n s => ∃ k vs F, n + k = ds.length ∧ Fle F0 F ∧ (∀ y e, vs0.lookup y = some e → vs.lookup y = some e) ∧
    Mo C K0 { vars := vs, mu := (it, .obj (P k)) :: (acc, .list (out0 ++ (ds.take k).map g)) :: nm } F s) ?_ ds.length ⟨0, vs1, F0, by simp, Fle.refl _, hv1, by simpa using X⟩
  rintro n s ⟨k, vs, F, hn, hF, hvs, X⟩
  have hit : ∃ o, s.heap.get? it = some o ∧ P k o := (X.am.mus (it, .obj (P k)) (.head _)).1
  cases n with
  | zero =>
    have hk : k = ds.length := by lia
    subst hk
    refine I.stop F s _ _ hF X.am.frz X.am.keep hit fun h' t hs => ?_
    have X' := X.dropExt (t := t) rfl hs
    rw [List.take_length] at X'
    exact hR F _ vs hvs X' hF
  | succ n =>
    have hk : k < ds.length := by lia
    refine I.item k ds[k] F s _ _ hF X.am.frz X.am.keep (List.getElem?_eq_getElem hk) hit fun h' v t hs hit' hr => ?_
    have X1 := X.turn (pre := []) (mo' := .obj (P (k + 1))) (t := t) rfl hs hit'
    refine hasg ds[k] _ vs K0 F _ v _ _ X1 hr fun s2 X2 => ?_
    replace X2 := X2.weak (σ' := { vars := (x, ds[k]) :: vs0, mu := (it, .obj (P (k + 1))) :: (acc, .list (out0 ++ (ds.take k).map g)) :: nm }) (sub_cons hvs) rfl
    refine step ds[k] _ (List.getElem_mem hk) K0 F s2 _ _ X2 fun F3 v3 s3 X3 g3 r3 => ?_
    obtain ⟨oa, vsa, hoa, ⟨hl100, na, rfl⟩, hra⟩ := (X3.am.mus (acc, .list (out0 ++ (ds.take k).map g)) (.tail _ (.head _))).1
    have hlo : vsa.length = out0.length + k := by
      rw [hra.length, List.length_append, List.length_map, List.length_take]; lia
    refine wpAny_list_append_plain ⟨na, hoa⟩ (fun h7 hp7 hs7 => ?_) (by rw [List.size_toArray]; exact fitsSz (by lia))
    obtain ⟨n7, hp7⟩ := hp7
    have e1 : out0 ++ (ds.take (k + 1)).map g = (out0 ++ (ds.take k).map g) ++ [g ds[k]] := by
      rw [List.take_add_one, List.getElem?_eq_getElem hk, List.map_append, ← List.append_assoc]; rfl
    have X4 := X3.turn (pre := [(it, .obj (P (k + 1)))]) (post := nm) (mo' := .list (out0 ++ (ds.take (k + 1)).map g)) (t := s3.toks) rfl hs7 ⟨_, vsa ++ [v3], hp7, ⟨by rw [List.length_append]; simp; lia, n7, by simp⟩, by rw [e1]; exact hra.append (.cons r3 .nil)⟩
    exact ⟨n, Nat.lt_succ_self n, k + 1, _, F3, by lia, hF.trans g3, sub_self hx0, X4⟩
theorem comp_outer {K0 F0 : Fz} {elt iter0 iter : Expr} {x y : Str} {px py pos : Pos} {it acc : Addr} {ds : List D} {P : Nat → Obj → Prop} {R : Result → Shared → Prop} {vs0 : List (Str × D)} {s : Shared} (sub : D → List D) (g : D → D → D) (I : IterOk C.G C.A K0 F0 it ds P) (hl : (ds.map fun d => (sub d).length).sum ≤ 50000) (hl2 : ds.length ≤ 50000)
    (hasg : ∀ z pz, z = x ∨ z = y → ∀ d mu vs, Asg C { vars := vs, mu := mu } (.Name z pz) d { vars := (z, d) :: vs, mu := mu }) (hxy : x ≠ y) (hx0 : vs0.lookup x = none) (hy0 : vs0.lookup y = none)
    (hit : ∀ d mu, d ∈ ds → Ev C { vars := (y, d) :: vs0, mu := mu } iter (.list (sub d)))
    (step : ∀ d e mu, d ∈ ds → e ∈ sub d → Ev C { vars := (x, e) :: (y, d) :: vs0, mu := mu } elt (g d e))
    (hR : ∀ F' s' vs, Mo C K0 { vars := vs, mu := [(acc, .list (ds.flatMap fun d => (sub d).map (g d)))] } F' s' → Fle F0 F' → R (.ok .next) s')
    (X : Mo C K0 { vars := vs0, mu := [(it, .obj (P 0)), (acc, .list [])] } F0 s) (hs : ∀ x, foldedSetIterable iter C.env x = pure x := by intro _; rfl) :
    codeAny C.G.M C.A (.compLoop (.ListComp elt [⟨.Name y py, iter0, [], 0⟩, ⟨.Name x px, iter, [], 0⟩] scope pos) 0 (.ref it) (.ref acc) C.env) R s := by
  refine loop0 (prog := C.G.prog) (w := C.G.w) (fun n s => ∃ k vs F, n + k = ds.length ∧ Fle F0 F ∧ (∀ y e, vs0.lookup y = some e → vs.lookup y = some e) ∧
    Mo C K0 { vars := vs, mu := [(it, .obj (P k)), (acc, .list ((ds.take k).flatMap fun d => (sub d).map (g d)))] } F s) ?_ ds.length ⟨0, vs0, F0, by simp, Fle.refl _, fun _ _ e => e, by simpa using X⟩ (fun _ => rfl) hs
  rintro n s ⟨k, vs, F, hn, hF, hvs, X⟩
  have hi : ∃ o, s.heap.get? it = some o ∧ P k o := (X.am.mus (it, .obj (P k)) (.head _)).1
  cases n with
  | zero =>
    have hk : k = ds.length := by lia
    subst hk
    refine I.stop F s _ _ hF X.am.frz X.am.keep hi fun h' t hs' => ?_
    have X' := X.dropExt (t := t) rfl hs'
    rw [List.take_length] at X'
    exact hR F _ vs X' hF
  | succ n =>
    have hk : k < ds.length := by lia
    refine I.item k ds[k] F s _ _ hF X.am.frz X.am.keep (List.getElem?_eq_getElem hk) hi fun h' v t hs' hit' hr => ?_
    have X1 := X.turn (pre := []) (mo' := .obj (P (k + 1))) (t := t) rfl hs' hit'
    refine hasg y py (.inr rfl) ds[k] _ vs K0 F _ v _ _ X1 hr fun s2 X2 => ?_
    replace X2 := X2.weak (σ' := { vars := (y, ds[k]) :: vs0, mu := [(it, .obj (P (k + 1))), (acc, .list ((ds.take k).flatMap fun d => (sub d).map (g d)))] }) (sub_cons hvs) rfl
    refine hit ds[k] _ (List.getElem_mem hk) K0 F s2 _ _ X2 fun F3 v3 s3 X3 g3 r3 => ?_
    have S : Src K0 F3 v3 (sub ds[k]) := by
      obtain ⟨a, o, ws, rfl, h1, h2, h3⟩ := r3.list_inv
      exact .list (.inl h1) h2 h3
    refine pyIter_src X3.ok.rm.hh S X3.am.frz X3.am.keep fun o P2 hf2 hP2 IA => ?_
    have I2 := IA C.A X3.ok.rm.hh
    have X4 := X3.allocMu o (.obj (P2 0)) s3.toks ⟨o, Heap.get?_push_size _ hf2, hP2⟩
    have X5 := X4.perm (mu' := [(s3.heap.objs.size, .obj (P2 0)), (acc, .list ((ds.take k).flatMap fun d => (sub d).map (g d))), (it, .obj (P (k + 1)))]) (List.Perm.cons _ (List.Perm.swap ..))
    have hb : ((ds.take k).flatMap fun d => (sub d).map (g d)).length + (sub ds[k]).length ≤ 100000 := by
      rw [List.length_flatMap]
      simp only [List.length_map]
      have h1 : ((ds.take k).map fun d => (sub d).length).sum + (sub ds[k]).length ≤ (ds.map fun d => (sub d).length).sum := by
        have e : ds = ds.take k ++ ds[k] :: ds.drop (k + 1) := by rw [← List.drop_eq_getElem_cons hk, List.take_append_drop]
        have e2 := congrArg (fun l : List D => (l.map fun d => (sub d).length).sum) e
        simp only [List.map_append, List.map_cons, List.sum_append, List.sum_cons] at e2
        lia
      lia
    have body : codeAny C.G.M C.A (.compLoop (.ListComp elt [⟨.Name y py, iter0, [], 0⟩, ⟨.Name x px, iter, [], 0⟩] scope pos) 1 (.ref s3.heap.objs.size) (.ref acc) C.env)
        (fun r s₅ => match r with | .ok _ => ∃ m, m < n + 1 ∧ ∃ k vs F, m + k = ds.length ∧ Fle F0 F ∧ (∀ y e, vs0.lookup y = some e → vs.lookup y = some e) ∧ Mo C K0 { vars := vs, mu := [(it, .obj (P k)), (acc, .list ((ds.take k).flatMap fun d => (sub d).map (g d)))] } F s₅ | .error e => False)
        { s3 with heap := s3.heap.push o } := by
      refine comp_inner (F0 := F3) (vs0 := (y, ds[k]) :: vs0) (vs1 := (y, ds[k]) :: vs0) (nm := [(it, .obj (P (k + 1)))]) (g ds[k]) I2 hb (hasg x px (.inl rfl)) ?_ (fun d mu hd => step ds[k] d mu (List.getElem_mem hk) hd) (fun F' s' vs' hvs' X' g' => ?_) (fun _ _ e => e) X5
      · rw [List.lookup_cons, beq_eq_false_iff_ne.mpr hxy]; exact hx0
      · refine ⟨n, Nat.lt_succ_self n, k + 1, vs', F', by lia, (hF.trans g3).trans g', fun z e q => hvs' z e (sub_self hy0 z e q), ?_⟩
        have e1 : (ds.take (k + 1)).flatMap (fun d => (sub d).map (g d)) = ((ds.take k).flatMap fun d => (sub d).map (g d)) ++ (sub ds[k]).map (g ds[k]) := by
          rw [List.take_add_one, List.getElem?_eq_getElem hk, List.flatMap_append]; simp
        rw [e1]
        exact X'.perm (List.Perm.swap ..)
    exact compStart1 (prog := C.G.prog) (w := C.G.w) body (I2.self 0 _ _ _ ⟨o, Heap.get?_push_size _ hf2, hP2⟩ body)
variable {σ : St} {cl : List (Str × Addr)}
theorem compVars_none {env : Env} {x y : Str} {vars : List (Str × D)} (h : scope.names.lookup x ≠ some .free) : (compVars env scope cl y vars).lookup x = none := by
  cases q : (compVars env scope cl y vars).lookup x with
  | none => rfl
  | some e =>
    unfold compVars at q
    obtain ⟨q1, _⟩ := lookup_filter (fun n => sees env scope cl y n) q
    simp only [sees, Bool.and_eq_true] at q1
    exact absurd (by simpa using q1.2) h
theorem EvC.flat {elt iter0 iter : Expr} {x y : Str} {px py pos : Pos} {d : D} {ds : List D} (sub : D → List D) (g : D → D → D) (ok : CompOk C scope cl) (hx : scope.names.lookup x = some .local ∨ scope.names.lookup x = some .cell) (hy : scope.names.lookup y = some .local ∨ scope.names.lookup y = some .cell) (hxy : x ≠ y)
    (hv : Ev C σ iter0 d) (hi : ItD C σ d ds) (hl : (ds.map fun d => (sub d).length).sum ≤ 50000) (hl2 : ds.length ≤ 50000)
    (hit : ∀ L d mu, d ∈ ds → Ev (compCx C σ scope cl L) { vars := (y, d) :: compVars C.env scope cl y σ.vars, mu := mu } iter (.list (sub d)))
    (step : ∀ L d e mu, d ∈ ds → e ∈ sub d → Ev (compCx C σ scope cl L) { vars := (x, e) :: (y, d) :: compVars C.env scope cl y σ.vars, mu := mu } elt (g d e))
    (hs : ∀ x, foldedSetIterable iter0 C.env x = pure x := by intro _; rfl) (hs2 : ∀ env x, foldedSetIterable iter env x = pure x := by intro _ _; rfl) :
    EvC C σ elt [⟨.Name y py, iter0, [], 0⟩, ⟨.Name x px, iter, [], 0⟩] scope pos (NewL σ (ds.flatMap fun d => (sub d).map (g d))) := fun use K F s Q E X hQ => by
  refine wpAny_comprehension_free rfl hs ok.clos ok.kind ok.names (hv K F s _ E X fun F1 v s1 X1 g1 r1 => ?_)
  have S := hi.src X1 r1
  have A0 := X1.am.leave (pas := []) rfl
  refine pyIter_src X.ok.rm.hh S X1.am.frz A0.keep fun o P hf hP IA => ?_
  have I := IA C.A X.ok.rm.hh
  have A1 := A0.allocMu o (.obj (P 0)) s1.toks ⟨o, Heap.get?_push_size _ hf, hP⟩
  refine wpAny_newObj_type ?_
  have A2 := A1.allocMu { cls := .type "list", data := .seq ([] : List Value).toArray } (.list []) s1.toks ⟨_, [], Heap.get?_push_size _ rfl, ⟨by simp, 0, rfl⟩, .nil⟩
  have A3 := A2.perm (mu' := [(s1.heap.objs.size, .obj (P 0)), ((s1.heap.push o).objs.size, .list [])]) (List.Perm.swap ..)
  refine comp_enter (x := y) X1 ok A3 fun L s2 hLn X2 => ?_
  have hnf : ∀ {z}, scope.names.lookup z = some .local ∨ scope.names.lookup z = some .cell → (compVars C.env scope cl y σ.vars).lookup z = none := fun {z} h => compVars_none (by rcases h with h | h <;> (rw [h]; intro e; cases e))
  have loop : codeAny C.G.M C.A (.compLoop (.ListComp elt [⟨.Name y py, iter0, [], 0⟩, ⟨.Name x px, iter, [], 0⟩] scope pos) 0 (.ref s1.heap.objs.size) (.ref (s1.heap.push o).objs.size) (compCx C σ scope cl L).env)
      (compPost C.G.M C.A E use Q (.ref (s1.heap.push o).objs.size) L) s2 := by
    refine comp_outer (C := compCx C σ scope cl L) (K0 := full F1 s1.heap []) (F0 := F1) (vs0 := compVars C.env scope cl y σ.vars) sub g I hl hl2 (fun z pz hz d mu vs => ?_) hxy (hnf hx) (hnf hy) (fun d mu hd => hit L d mu hd) (fun d e mu hd he => step L d e mu hd he) (fun F' s' vs X' g' => ?_) X2 (fun x => hs2 _ x)
    · rcases hz with rfl | rfl
      · exact compAsg hx
      · exact compAsg hy
    · have B := X1.back (pas := []) (oth := σ.mu) (mu' := [((s1.heap.push o).objs.size, .list (ds.flatMap fun d => (sub d).map (g d)))]) rfl X'.am g'
      obtain ⟨p1, p2, p3⟩ := X'.priv L (.head _)
      have hs1 : ∀ o', s1.heap.get? L ≠ some o' := fun o' e => by rw [hLn] at e; cases e
      refine hQ F' _ s' _ L ⟨_, rfl, rfl⟩ B (g1.trans g') p1 ?_ ?_ ?_ ?_
      · cases e : K L with
        | none => rfl
        | some o' => exact absurd (X1.am.keep _ _ e) (hs1 o')
      · intro p hp e
        rcases List.mem_cons.mp hp with rfl | hp
        · exact X'.pmu _ (.head _) (e ▸ .head _)
        · obtain ⟨o', ho'⟩ := (X1.am.mus p hp).1.some
          exact hs1 o' (e ▸ ho')
      · intro hp
        obtain ⟨o', ho'⟩ := (X1.priv L hp).2.2
        exact hs1 o' ho'
      · obtain ⟨m, hm, _⟩ := X'.loc
        exact ⟨m, hm⟩
  exact codeAny_compStart_list loop (I.self 0 s2 _ _ ((X2.am.mus (s1.heap.objs.size, .obj (P 0)) (.head _)).1) loop)
end
end Mine
end

section
set_option Elab.async false
set_option linter.unusedVariables false
set_option linter.unusedSimpArgs false
set_option maxRecDepth 100000
namespace Mine
open PySem PySem.W PyProof.Rows PySem.Calls
noncomputable def encBool : Enc Bool := ⟨inferInstance, .bool, .bool, 1, fun a b h => by cases a <;> cases b <;> simp [PyData.eqv], fun a => by simp [PyData.depth]⟩
noncomputable abbrev bs (l : List Bool) : List D := l.map .bool
section
variable {C : Cx} {σ : St} {Φ : Out → St → Prop}
theorem Vs.bool {b : Bool} : Vs encBool C σ (.bool b) b := Vw.bool b
theorem Ev.and {x y : Expr} {p : Pos} {a b : Bool} (hx : Ev C σ x (.bool a)) (hy : a = true → Ev C σ y (.bool b)) : Ev C σ (.BoolOp .And [x, y] p) (.bool (a && b)) := fun K F s Q E X hQ => by
  refine BoolOp_and (hx K F s _ E X fun F1 v s1 X1 g1 r1 => ?_)
  cases r1.bool_inv
  refine wpAny_truthy_bool ?_
  cases a with
  | false => exact hQ F1 _ s1 X1 g1 (.bool false)
  | true => exact BoolOp_one (hy rfl K F1 s1 Q E X1 fun F2 v s2 X2 g2 r2 => hQ F2 v s2 X2 (g1.trans g2) r2)
theorem Ev.listZip {e1 e2 : Expr} {d1 d2 : D} {ds1 ds2 : List D} {p1 p2 p3 p4 : Pos} (hl : BN C "list" (.type "list")) (hz : BN C "zip" (.type "zip")) (h1 : Ev C σ e1 d1) (h2 : Ev C σ e2 d2) (i1 : Items C σ d1 ds1) (i2 : Items C σ d2 ds2) (hlen : ds1.length = ds2.length)
    (hs : starEach [.Call (.Name "zip" p2) [e1, e2] [] p3] C.env = [(false, eval (.Call (.Name "zip" p2) [e1, e2] [] p3) C.env)] := by rfl) (hs2 : starEach [e1, e2] C.env = [(false, eval e1 C.env), (false, eval e2 C.env)] := by rfl) :
    Ev C σ (.Call (.Name "list" p1) [.Call (.Name "zip" p2) [e1, e2] [] p3] [] p4) (.list (List.zipWith (fun a b => .tup [a, b]) ds1 ds2)) := fun K F s Q E X hQ => by
  refine Call_Name1 (bName X hl.kind hl.mg hl.mb ?_ hl.nd) hs
  refine callWith_bt (.inr ⟨_, rfl⟩) rfl (Calls.evalArgs_plain (Calls.spliced_cons ?_))
  refine Call_Name2 (bName X hz.kind hz.mg hz.mb ?_ hz.nd) hs2
  refine callWith_bt (.inr ⟨_, rfl⟩) rfl (Calls.evalArgs_plain (Calls.spliced_cons (h1 K F s _ E X fun F1 v1 s1 X1 g1 r1 => Calls.spliced_cons (h2 K F1 s1 _ E X1 fun F2 v2 s2 X2 g2 r2 => Calls.spliced_nil ?_))))
  obtain ⟨l1, vs1, n1, rfl, a1, a2, a3⟩ := i1.at X2 (r1.mono g2)
  obtain ⟨l2, vs2, n2, rfl, b1, b2, b3⟩ := i2.at X2 r2
  have hl1 : l1 < s2.heap.objs.size := Heap.lt_size a1
  have hl2 : l2 < s2.heap.objs.size := Heap.lt_size b1
  refine call_zip_2 (IsL.isList a1) (IsL.isList b1) fun h' q1 q2 q3 q4 q5 q6 q7 => Calls.spliced_nil ?_
  have hn : ∀ i, s2.heap.get? (s2.heap.objs.size + i) = Option.none := fun i => Heap.get?_none_of_le (Nat.le_add_right _ _)
  have D := zipApart_new hl1 hl2
  have la := a2.length
  have lb := b2.length
  refine call_list_zip (s := { s2 with heap := h' }) X2.ok.rm.hh D q1 q2 ⟨_, _, q3⟩ q4 q5 ((IsL.isList a1).at fun o e => q7 _ o e) ((IsL.isList b1).at fun o e => q7 _ o e) (by simp; lia) (by simp; lia) fun h3 acc c' k1 k2 k3 => ?_
  have old : ∀ c o, s2.heap.get? c = some o → h3.get? c = some o := fun c o e => by
    have nn : ∀ i, c ≠ s2.heap.objs.size + i := fun i q => by rw [q, hn i] at e; cases e
    exact k1 c o (nn 4) (nn 3) (nn 0) (nn 1) (q7 c o e)
  have gF : Fle F2 (F2.news s2.heap h3 fun _ => False) := Fz.news_le
  have fz3 : ∀ b o, F2 b = some o → h3.get? b = some o := fun b o e => old b o (X2.am.frz _ _ e)
  have inN : ∀ c o, s2.heap.get? c = Option.none → h3.get? c = some o → (F2.news s2.heap h3 fun _ => False) c = some o := fun c o e1 e2 => Fz.news_of fz3 e2 (.inl ⟨e1, fun z => z⟩)
  have X3 : Mo C K σ (F2.news s2.heap h3 fun _ => False) { s2 with heap := h3 } := X2.grow (t := s2.toks) old gF (fun a o e => Fz.news_new e) fun a o e => Fz.news_at fz3 e
  have hlen' : acc.size = ds1.length := by rw [k3.1]; simp [la]
  refine hQ _ _ _ X3 ((g1.trans g2).trans gF) (.list (vs := acc.toList) (inN _ _ (by show s2.heap.get? h'.objs.size = Option.none; rw [q6]; exact hn 5) k2) ⟨by rw [Array.length_toList, hlen']; lia, c', rfl⟩ ?_)
  refine RepL.of_get (by rw [Array.length_toList, hlen', List.length_zipWith]; lia) fun j v d e1 e2 => ?_
  have hj : j < ds1.length := by
    have := (List.getElem?_eq_some_iff.mp e1).1
    rw [Array.length_toList, hlen'] at this; exact this
  obtain ⟨T, x, y, t1, t2, t3, t4, t5⟩ := k3.2 j (by simp; lia)
  have t1' : acc.toList[j]? = some (Value.ref T) := by simpa using t1
  rw [t1'] at e1; cases e1
  have hnT : s2.heap.get? T = Option.none := by
    cases q : s2.heap.get? T with
    | none => rfl
    | some o => have := q7 _ _ q; rw [show h'.get? T = Option.none from t5] at this; cases this
  obtain ⟨da, ea, ra⟩ := a2.get' (i := j) (v := x) (by simpa using t2)
  obtain ⟨db, eb, rb⟩ := b2.get' (i := j) (v := y) (by simpa using t3)
  rw [List.getElem?_zipWith, ea, eb] at e2
  cases e2
  exact .tup (vs := [x, y]) (inN _ _ hnT t4) ⟨by simp, 0, rfl⟩ (.cons (ra.mono gF) (.cons (rb.mono gF) .nil))
theorem WP.forZip {x y : Str} {px py tp zp cp : Pos} {kk : Nat} {e1 e2 : Expr} {body orelse ss : List Stmt} {pos : Pos} {d1 d2 : D} {ds1 ds2 : List D} {mu1 mu2 : Mu} (hz : BN C "zip" (.type "zip")) (h1 : EvD C σ e1 d1 mu1) (h2 : EvD C (σ.setMu mu1) e2 d2 mu2)
    (I : Nat → St → Prop) (hx : Stores C x) (hy : Stores C y) (hit : ∀ k σ, I k σ → Items C σ d1 ds1 ∧ Items C σ d2 ds2) (h0 : I 0 (σ.setMu mu2))
    (turn : ∀ k σ a b, ds1[k]? = some a → ds2[k]? = some b → I k σ → WP C ((σ.set x a).set y b) body fun o σ' => match o with | .next => I (k + 1) σ' | .cont => I (k + 1) σ' | .brk => WP C σ' ss Φ | .ret d => Φ (.ret d) σ')
    (done : ∀ σ, I (min ds1.length ds2.length) σ → WP C σ orelse fun o σ' => match o with | .next => WP C σ' ss Φ | o => Φ o σ')
    (hs : ∀ v, foldedSetIterable (.Call (.Name "zip" zp) [e1, e2] [] cp) C.env v = pure v := by intro _; rfl) (hs2 : starEach [e1, e2] C.env = [(false, eval e1 C.env), (false, eval e2 C.env)] := by rfl) :
    WP C σ (.For (.Tuple [.Name x px, .Name y py] kk tp) (.Call (.Name "zip" zp) [e1, e2] [] cp) body orelse pos :: ss) Φ := WP.cons fun K F s Q E X hQ => by
  refine wpAny_For ?_ hs
  refine Call_Name2 (bName X hz.kind hz.mg hz.mb ?_ hz.nd) hs2
  refine callWith_bt (.inr ⟨_, rfl⟩) rfl (Calls.evalArgs_plain (Calls.spliced_cons (h1 K F s _ E X fun F1 v1 s1 da mua qa X1 g1 r1 => ?_)))
  obtain ⟨rfl, rfl⟩ := qa
  refine Calls.spliced_cons (h2 K F1 s1 _ E X1 fun F2 v2 s2 db mub qb X2 g2 r2 => ?_)
  obtain ⟨rfl, rfl⟩ := qb
  refine Calls.spliced_nil ?_
  exact forZip_loop (kk := kk) (tp := tp) (E := E) I hx hy hit turn done h0 X2 (r1.mono g2) r2 fun f o F' s' σ' ho X' g hΦ => hQ f o F' s' σ' ho X' ((g1.trans g2).trans g) hΦ
end
end Mine
end

section
set_option Elab.async false
set_option linter.unusedVariables false
set_option linter.unusedSimpArgs false
set_option maxRecDepth 100000
namespace Mine
open PySem PySem.W PyProof.Rows PySem.Calls
noncomputable def TabL (gl : Addr) (fd : FuncData) : MO := .fobj fun F o => (∃ ps, o = tabObj ps) ∧ FnF F gl fd
section
variable {C : Cx} {σ : St}
theorem Mo.tabL {K F : Fz} {s : Shared} {P gl : Addr} {fd : FuncData} (X : Mo C K σ F s) (h : (P, TabL gl fd) ∈ σ.mu) : FnF F gl fd := by
  obtain ⟨o, F0, g, _, _, q⟩ := (X.am.mus _ h).1
  exact q.mono g
theorem EvX.lam {body : Expr} {params : Arguments} {lsc : Scope} {lp : Pos} {fa c1 P1 cL PL : Addr} {doc pm cdv ct : Value} {an : Option Addr} {ms : Str → Option Value} {rest : Mu} {clos : List (Str × Addr)}
    (hσ : σ.mu.Perm ((PL, TabQ fun _ => C.env.qual ++ "<lambda>") :: rest)) (hgens : C.G.s0.gens = #[])
    (H : KPre C.G.hb C.G.mg C.G.mb ms fa c1 P1 doc pm cdv ct an) (hL : C.env.code = .ref cL) (hLd : CodeHd C.G.hb cL PL) (hcl : closureFor lsc C.env = pure clos) (hdef : defaultsOf params C.env = ([], [])) :
    EvX C σ (.Lambda params body lsc lp) (fun d mu => ∃ gl c' ctv, d = .ref gl ∧ mu = (PL, TabL gl (kla_fn "<lambda>" (C.env.qual ++ "<lambda>") params body lsc clos ((C.G.mg "__name__").getD .none) (.ref c') ctv)) :: rest) := fun K F1 s1 Q E X1 hQ => by
  have hsb : ∀ b o, C.G.hb.get? b = some o → s1.heap.get? b = some o := fun b o e => X1.am.frz _ _ (X1.am.base _ _ e)
  have X1p : Mo C K (σ.setMu _) F1 s1 := X1.perm hσ.symm
  obtain ⟨oL, F0, gL, hPL, ps, rfl, htL, hvL⟩ := (X1p.am.mus (PL, TabQ fun _ => C.env.qual ++ "<lambda>") (.head _)).1
  have hPLF : F1 PL = none := (X1p.am.mus _ (.head _)).2.1
  have hgP : mainGlobals ≠ PL := by
    rintro rfl
    obtain ⟨o, es, ep, e, q, _⟩ := H.nsg.keeps hsb
    rw [hPL] at e; cases e; cases q
  refine kla_eval hdef (kla_any (mg := C.G.mg) (ps := ps) (Fc := fun c => ∃ o, F1 c = some o) hcl X1.ok.gl (H.nsg.keeps hsb) hL (hLd.keeps hsb) hPL htL (fun pos v e => ?_) hgP ?_ (fun ⟨o, q⟩ => by rw [hPLF] at q; cases q) fun c' ctv gl h' tk ps' ng hgl hx hrec hnc htb ht' hv' => ?_)
  · obtain ⟨c, o, vs, t, e1, e2, e3⟩ := hvL pos v e
    exact ⟨⟨c, e1, o, gL _ _ e2⟩, c, o, vs, t, e1, X1.am.frz _ _ (gL _ _ e2), e3⟩
  · obtain ⟨bm, ob, b1, b2, b3, b4, b5, b6⟩ := H.bm
    exact ⟨bm, ob, b1, b2, b3, (fun q => by rw [q] at b4; rw [hsb _ _ b4] at hPL; cases hPL; cases b5), hsb _ _ b4, b5, b6⟩
  · obtain ⟨hp1, gg1, dd1, tt1, oo1⟩ := s1
    have hgg : gg1 = #[] := X1.am.gens.trans hgens
    subst hgg
    have fz1 : ∀ b o, F1 b = some o → h'.get? b = some o := fun b o e => hx b o (fun q => by rw [q, hPLF] at e; cases e) (X1.am.frz _ _ e)
    have gF : Fle F1 (F1.news hp1 h' fun _ => False) := Fz.news_le
    have fz2 : ∀ b o, (F1.news hp1 h' fun _ => False) b = some o → h'.get? b = some o := fun b o e => Fz.news_at fz1 e
    have nw2 : ∀ b o, (F1.news hp1 h' fun _ => False) b = some o → F1 b = some o ∨ hp1.get? b = none := fun b o e => Fz.news_new e
    have in2 : ∀ b o, h'.get? b = some o → (hp1.get? b = none ∨ ∃ o, F1 b = some o) → (F1.news hp1 h' fun _ => False) b = some o := fun b o e q => Fz.news_of fz1 e (q.imp (fun q => ⟨q, fun z => z⟩) id)
    have no2 : ∀ b, F1 b = none → (∃ o, hp1.get? b = some o) → (F1.news hp1 h' fun _ => False) b = none := fun b q z => Fz.news_none q (.inr z)
    generalize F1.news hp1 h' (fun _ => False) = F2 at *
    have hFn : FnF F2 gl (kla_fn "<lambda>" (C.env.qual ++ "<lambda>") params body lsc clos ((C.G.mg "__name__").getD .none) (.ref c') ctv) := by
      obtain ⟨c3, o3, vs3, t3, e1, e2, e3, e4⟩ := hrec
      cases e1
      exact ⟨⟨_, in2 _ _ hgl (.inl ng), rfl⟩, c', o3, vs3, t3, rfl, in2 _ _ e2 (by rcases hnc with q | q <;> first | exact .inl q | exact .inr q), e3, e4⟩
    have X2 : Mo C K (σ.setMu ([(PL, TabL gl (kla_fn "<lambda>" (C.env.qual ++ "<lambda>") params body lsc clos ((C.G.mg "__name__").getD .none) (.ref c') ctv))] ++ rest)) F2 ⟨h', #[], dd1, tk, oo1⟩ := X1p.turnAll (ch := [(PL, TabQ fun _ => C.env.qual ++ "<lambda>")]) rfl (fun b o n e => hx b o (by simpa using n) e) gF nw2 fz2 (fun p hp => by
      obtain rfl := List.mem_singleton.mp hp
      exact ⟨⟨_, F2, Fle.refl _, htb, ⟨ps', rfl⟩, hFn⟩, no2 _ hPLF ⟨_, hPL⟩, .inl (.head _)⟩) (by simp)
    exact hQ F2 (.ref gl) _ (.ref gl) _ ⟨gl, c', ctv, rfl, rfl⟩ X2 gF (.ref gl)
end
end Mine
end

section
set_option Elab.async false
set_option linter.unusedVariables false
set_option linter.unusedSimpArgs false
set_option maxRecDepth 100000
namespace Mine
open PySem PySem.W PyProof.Rows PySem.Calls
noncomputable def hid (l : List Env) (h : Heap) : Heap := hideAll h (l.filterMap (·.frame))
theorem funFrames_of {h : Heap} {as : List Addr} : ∀ (l : List Env), (∀ env ∈ l, env.scope.kind ≠ .module ∧ ∃ L o, env.frame = some L ∧ L ∈ as ∧ h.get? L = some o ∧ ∀ vs, o.data ≠ .fields vs) → h.FunFrames (hideAll h as) l
  | [], _ => trivial
  | env :: l, H => by
    obtain ⟨h1, L, o, h2, h3, h4, h5⟩ := H env (.head _)
    exact ⟨h1, ⟨L, o, h2, hideAll_none _ h3, h4, h5⟩, funFrames_of l fun e he => H e (.tail _ he)⟩
noncomputable def FrmK (outer : List Env) : Pred := fun K F => ∀ env ∈ outer, env.scope.kind ≠ .module ∧ ∃ L o, env.frame = some L ∧ K L = some o ∧ ∀ vs, o.data ≠ .fields vs
theorem FrmK.mon {outer : List Env} : (FrmK outer).Mon := fun K K' F F' h gK gF env he => let ⟨h1, L, o, h2, h3, h4⟩ := h env he; ⟨h1, L, o, h2, gK _ _ h3, h4⟩
section
variable {M : Model} {A : Around} {E : Value → Shared → Prop} {s : Shared} {h : Heap} {env : Env} {outer : List Env} {L e : Addr}
theorem note_made {cls : String} {args : List Value} {Q : Unit → Shared → Prop} (hfr : A.frames = some (env :: outer)) (hf : env.frame = some L) (hl : h.FunFrames (hid (env :: outer) h) (env :: outer)) (hx : Heap.MadeExc h s.heap e cls args)
    (hQ : ∀ h' a0, Heap.HeldW (hid (env :: outer) h) (env :: outer) e (.type cls) a0 L h' → s.heap.UpToSlots h' → Q () { s with heap := h' }) : wpAny M A (noteFrame (.ref e) env) Q E s := by
  obtain ⟨t, he, htn, ht⟩ := hx.there
  have hen : (hid (env :: outer) h).get? e = none := by
    cases q : (hid (env :: outer) h).get? e with
    | none => rfl
    | some o => have := of_hideAll _ q; rw [hx.new] at this; cases this
  unfold noteFrame
  simp only [hf]
  refine wpAny_bind (wpAny_field he rfl (x := .none) rfl ?_)
  rw [if_neg (by decide)]
  refine wpAny_entryW (base := hid (env :: outer) h) (a0 := .ref t) hfr (hl.of_keeps fun b o hb _ => ⟨o, hx.keeps b o hb, rfl⟩) hf he (fun b o hb => hx.keeps b o (of_hideAll _ hb)) hen rfl (by show 1 < 6; decide) rfl fun h' hN => ?_
  obtain ⟨k1, k2, k3, k4⟩ := hN
  exact hQ h' _ ⟨k1, hen, k2, k3⟩ k4
theorem came_held {B : Heap} {l : List Env} {cls a0 : Value} (hf : env.frame = some L) (hh : Heap.HeldW B l e cls a0 L s.heap)
    (hE : ∀ h', Heap.HeldW B l e cls a0 L h' → s.heap.UpToSlots h' → E (.ref e) { s with heap := h' }) : cameBackBy M A env E (.ref e) s := by
  obtain ⟨hkb, hen, hl, oe, vs, T, oT, ts, he, hcls, hd, h1, hnT, hTe, hT, hdT, h3⟩ := hh
  have hsz3 : 3 < ts.size := (Array.getElem?_eq_some_iff.mp h3).1
  have other : ∀ b, b ≠ T → (s.heap.update T (Obj.mapFields (·.setIfInBounds 3 (rawInt L)))).get? b = s.heap.get? b := fun b hb => Heap.get?_update_other _ _ (Ne.symm hb)
  have noRecord : ∀ b o, s.heap.get? b = some o → (∀ vs, o.data ≠ .fields vs) → b ≠ T := fun b o hb hnf q => by
    rw [q, hT] at hb; injection hb with hb; subst hb; exact hnf ts hdT
  unfold cameBackBy
  refine wpAny_bind (wpAny_field he hd h1 ?_)
  rw [if_neg (show ¬ ((Value.ref T == Value.none) = true) from by simp)]
  rw [hf]
  unfold setFlight
  refine wpAny_bind (wpAny_field he hd h1 ?_)
  rw [if_pos (show (Value.ref T != Value.none) = true from by simp)]
  refine wpAny_setField hT hdT hsz3 (hE _ ⟨fun b o hbo => (other b fun q => by rw [q, hnT] at hbo; cases hbo).trans (hkb b o hbo), hen, hl.of_keeps fun b o hb hnf => ⟨o, (other b (noRecord b o hb hnf)).trans hb, rfl⟩, ?_⟩ fun b o hb hnf => ⟨o.slots, (other b (noRecord b o hb hnf)).trans hb⟩)
  exact ⟨oe, vs, T, _, _, (other e (Ne.symm hTe)).trans he, hcls, hd, h1, hnT, hTe, Heap.get?_update_self _ hT (Obj.isFreed_of_fields (Obj.data_mapFields hdT _)), Obj.data_mapFields hdT _, by simp [hsz3]⟩
theorem leave_held {B : Heap} {cls a0 : Value} {Q : Unit → Shared → Prop} (hf : env.frame = some L) (hh : Heap.HeldW B (env :: outer) e cls a0 L s.heap) (hQ : ∀ h', Heap.FlyingW B outer e cls a0 h' → s.heap.UpToSlots h' → Q () { s with heap := h' }) : wpAny M A (leaving env (.ref e)) Q E s := by
  unfold leaving
  refine wpAny_bind (wpAny_noteFrame_againW hf hh.2.2.2 ?_)
  refine wpAny_landsW hh fun h' hfl hu => ?_
  obtain ⟨k1, k2, ⟨_, _, k3⟩, k4⟩ := hfl
  exact hQ h' ⟨k1, k2, k3, k4⟩ hu
end
noncomputable def WP2 (C : Cx) (σ : St) (ss : List Stmt) (Φ : Out → St → Prop) (Ψ : St → Prop) : Prop :=
  ∀ (K F : Fz) (s : Shared) (Q : Flow → Shared → Prop) (E : Value → Shared → Prop), Mo C K σ F s →
    (∀ f o F' s' σ', OutIs F' f o → Mo C K σ' F' s' → Fle F F' → Φ o σ' → Q f s') →
    (∀ F' sm σ' h' e args, Mo C K σ' F' sm → Fle F F' → Ψ σ' → Heap.MadeExc sm.heap h' e "RuntimeError" args → E (.ref e) { sm with heap := h' }) → wpAny C.G.M C.A (execs ss C.env) Q E s
noncomputable def WP3 (C : Cx) (outer : List Env) (σ : St) (ss : List Stmt) (Φ : Out → St → Prop) (Ψ : St → Prop) : Prop :=
  ∀ (K F : Fz) (s : Shared) (Q : Flow → Shared → Prop) (E : Value → Shared → Prop), Mo C K σ F s →
    (∀ f o F' s' σ', OutIs F' f o → Mo C K σ' F' s' → Fle F F' → Φ o σ' → Q f s') →
    (∀ F' sm σ' h' e a0, Mo C K σ' F' sm → Fle F F' → Ψ σ' → Heap.HeldW (hid (C.env :: outer) sm.heap) (C.env :: outer) e (.type "RuntimeError") a0 C.env.locals h' → sm.heap.UpToSlots h' → E (.ref e) { sm with heap := h' }) → wpAny C.G.M C.A (execs ss C.env) Q E s
theorem execs_app {env : Env} : ∀ (ss1 ss2 : List Stmt), execs (ss1 ++ ss2) env = (do match ← execs ss1 env with | .next => execs ss2 env | f => pure f)
  | [], _ => rfl
  | st :: ss1, ss2 => by
    rw [List.cons_append, execs_cons, execs_cons, execs_app ss1 ss2, bind_assoc]
    congr 1
    funext f
    cases f <;> first | rfl | simp
section
variable {C : Cx} {σ : St} {Φ : Out → St → Prop} {Ψ : St → Prop} {outer : List Env}
theorem WP2.of {ss : List Stmt} (h : WP C σ ss Φ) : WP2 C σ ss Φ Ψ := fun K F s Q E X hQ _ => h K F s Q E X hQ
theorem WP2.app (ss1 : List Stmt) {ss2 : List Stmt} (h : WP C σ ss1 fun o σ' => match o with | .next => WP2 C σ' ss2 Φ Ψ | o => Φ o σ') : WP2 C σ (ss1 ++ ss2) Φ Ψ := fun K F s Q E X hQ hE => by
  rw [execs_app]
  refine wpAny_bind (h K F s _ E X fun f o F' s' σ' ho X' g hΦ => ?_)
  cases o with
  | next =>
    cases f <;> try exact ho.elim
    exact hΦ K F' s' Q E X' (fun f o F2 s2 σ2 ho2 X2 g2 h2 => hQ f o F2 s2 σ2 ho2 X2 (g.trans g2) h2) fun F2 sm σ2 h2 e args X2 g2 => hE F2 sm σ2 h2 e args X2 (g.trans g2)
  | brk => cases f <;> first | exact ho.elim | exact wpAny_pure (hQ _ .brk F' s' σ' ho X' g hΦ)
  | cont => cases f <;> first | exact ho.elim | exact wpAny_pure (hQ _ .cont F' s' σ' ho X' g hΦ)
  | ret d => cases f <;> first | exact ho.elim | exact wpAny_pure (hQ _ (.ret d) F' s' σ' ho X' g hΦ)
theorem WP3.app (ss1 : List Stmt) {ss2 : List Stmt} (h : WP C σ ss1 fun o σ' => match o with | .next => WP3 C outer σ' ss2 Φ Ψ | o => Φ o σ') : WP3 C outer σ (ss1 ++ ss2) Φ Ψ := fun K F s Q E X hQ hE => by
  rw [execs_app]
  refine wpAny_bind (h K F s _ E X fun f o F' s' σ' ho X' g hΦ => ?_)
  cases o with
  | next =>
    cases f <;> try exact ho.elim
    exact hΦ K F' s' Q E X' (fun f o F2 s2 σ2 ho2 X2 g2 h2 => hQ f o F2 s2 σ2 ho2 X2 (g.trans g2) h2) fun F2 sm σ2 h2 e args X2 g2 => hE F2 sm σ2 h2 e args X2 (g.trans g2)
  | brk => cases f <;> first | exact ho.elim | exact wpAny_pure (hQ _ .brk F' s' σ' ho X' g hΦ)
  | cont => cases f <;> first | exact ho.elim | exact wpAny_pure (hQ _ .cont F' s' σ' ho X' g hΦ)
  | ret d => cases f <;> first | exact ho.elim | exact wpAny_pure (hQ _ (.ret d) F' s' σ' ho X' g hΦ)
theorem WP2.ifs {test : Expr} {b : Bool} {body orelse ss : List Stmt} {pos : Pos} (ht : EvT C σ test b) (h1 : b = true → WP2 C σ body (fun _ _ => False) Ψ) (h2 : b = false → orelse = [] ∧ WP2 C σ ss Φ Ψ) : WP2 C σ (.If test body orelse pos :: ss) Φ Ψ := fun K F s Q E X hQ hE => by
  refine wpAny_execs_cons (wpAny_If (ht K F s _ E X fun F' s' X' g => ?_))
  cases b with
  | true => exact h1 rfl K F' s' _ E X' (fun f o F2 s2 σ2 ho X2 g2 r => r.elim) fun F2 sm σ2 h2 e args X2 g2 => hE F2 sm σ2 h2 e args X2 (g.trans g2)
  | false =>
    obtain ⟨rfl, h⟩ := h2 rfl
    exact wpAny_execs_nil (h K F' s' Q E X' (fun f o F2 s2 σ2 ho X2 g2 r => hQ f o F2 s2 σ2 ho X2 (g.trans g2) r) fun F2 sm σ2 h2 e args X2 g2 => hE F2 sm σ2 h2 e args X2 (g.trans g2))
theorem WP2.raise {p p2 p3 pos : Pos} {k : Nat} {msg : Str} {ss : List Stmt} (hb : BN C "RuntimeError" (.type "RuntimeError")) (h : Ψ σ) : WP2 C σ (.Raise (some (.Call (.Name "RuntimeError" p) [.Constant (.str msg) k p2] [] p3)) none pos :: ss) Φ Ψ := fun K F s Q E X hQ hE => by
  refine wpAny_execs_cons (wpAny_Raise_call PySem.F.excCall_RuntimeError PySem.F.excRaise_RuntimeError X.ok.rm.hh rfl (bName X hb.kind hb.mg hb.mb ⟨rfl, ?_⟩ hb.nd))
  refine Calls.evalArgs_plain (Calls.spliced_cons (wpAny_Constant_str (k := k) (pos := p2) (Calls.spliced_nil ⟨rfl, by size_fits, fun h' e hm => ?_⟩)))
  exact hE F { s with toks := s.toks + 1 } σ h' e _ (X.toks _) (Fle.refl _) h hm
theorem Mo.funFrames {K F : Fz} {s : Shared} (X : Mo C K σ F s) (hf : C.env.frame = some C.env.locals) (hpre : ∀ K F, C.pre K F → FrmK outer K F) : s.heap.FunFrames (hid (C.env :: outer) s.heap) (C.env :: outer) := by
  refine funFrames_of _ fun env he => ?_
  rcases List.mem_cons.mp he with rfl | he
  · obtain ⟨m, ⟨o, es, ep, e, d, _⟩, _⟩ := X.loc
    exact ⟨by rw [X.ok.fn]; nofun, _, o, hf, List.mem_filterMap.mpr ⟨_, .head _, hf⟩, e, fun vs q => by rw [d] at q; cases q⟩
  · obtain ⟨h1, L, o, h2, h3, h4⟩ := hpre _ _ X.pre env he
    exact ⟨h1, L, o, h2, List.mem_filterMap.mpr ⟨_, .tail _ he, h2⟩, X.am.keep _ _ h3, h4⟩
theorem WP3.while {test : Expr} {body : List Stmt} {pos : Pos} (hfr : C.A.frames = some (C.env :: outer)) (hf : C.env.frame = some C.env.locals) (hpre : ∀ K F, C.pre K F → FrmK outer K F) (I : Nat → St → Prop) (n : Nat) (h0 : I n σ)
    (turn : ∀ n σ, I n σ → EvT C σ test true ∧ WP2 C σ body (fun o σ' => match o with | .next => ∃ m, m < n ∧ I m σ' | .ret d => Φ (.ret d) σ' | _ => False) Ψ) :
    WP3 C outer σ [.While test body [] pos] Φ Ψ := fun K F s Q E X hQ hE => by
  refine wpAny_execs_cons ?_
  refine wpAny_While (codeAny_whileLoop (prog := C.G.prog) (w := C.G.w) (fun n s' => ∃ σ' F', I n σ' ∧ Mo C K σ' F' s' ∧ Fle F F') ?_ n ⟨σ, F, h0, X, Fle.refl _⟩)
  rintro n s1 ⟨σ1, F1, hI, X1, g1⟩
  obtain ⟨ht, hb⟩ := turn n σ1 hI
  refine ht K F1 s1 _ _ X1 fun F2 s2 X2 g2 => ?_
  simp only [if_true]
  refine hb K F2 s2 _ _ X2 (fun f o F3 s3 σ3 ho X3 g3 hΦ => ?_) fun F3 sm σ3 h3 e args X3 g3 hΨ hm => ?_
  · have g := (g1.trans g2).trans g3
    cases o with
    | next => cases f <;> first | exact ho.elim | (obtain ⟨m, hm, hI'⟩ := hΦ; exact ⟨m, hm, σ3, F3, hI', X3, g⟩)
    | cont => exact hΦ.elim
    | brk => exact hΦ.elim
    | ret d => cases f <;> first | exact ho.elim | exact hQ _ (.ret d) F3 s3 σ3 ho X3 g hΦ
  · refine note_made (s := { sm with heap := h3 }) hfr hf (X3.funFrames hf hpre) hm fun h4 a0 H4 u4 => ?_
    refine came_held (s := { sm with heap := h4 }) hf H4 fun h5 H5 u5 => ?_
    exact hE F3 sm σ3 h5 e a0 X3 ((g1.trans g2).trans g3) hΨ H5 (((Heap.UpToSlots.of_keeps hm.keeps).trans u4).trans u5)
end
end Mine
end

section
set_option Elab.async false
set_option linter.unusedVariables false
set_option linter.unusedSimpArgs false
set_option maxRecDepth 100000
namespace Mine
open PySem PySem.W PyProof.Rows PySem.Calls
noncomputable def wb4 : List Stmt := match ((bo 4)[1]?).getD (.Pass ⟨0, 0, 0, 0⟩) with | .While _ b _ _ => b | _ => []
noncomputable def pkD : Option Int → D
  | some c => .int c
  | none => .none
section
variable {G : Gx} {f : Addr} {name qual : Str} {dV kV doc pm cdv ct : Value} {an : Option Addr}
theorem c3_choice {A : Around} {L fa : Addr} {n : Nat} {P : Pred} {cur sub prs : Prs} {done : List Int} {σ : St} (hadr : cur.map (·.1) = prs.map (·.1)) (hsub : sub.filter ne = cur.filter ne) (hmem : ∀ p ∈ sub, p ∈ cur) (hsz : sub.length ≤ 1000)
    (hmu : σ.mu = (fa, .list (zs done)) :: ent cur) (hres : σ.v "result" = some (.ref fa)) (hseq : σ.v "sequences" = some (.list (refs sub))) {Φ : Out → St → Prop}
    (hret : (∀ p ∈ cur, p.2 = []) → Φ (.ret (.list (zs done))) { vars := [("result", .list (zs done))], mu := ent cur })
    (hnext : ∀ σ', σ'.mu = (fa, .list (zs done)) :: ent cur → σ'.v "sequences" = some (.list (refs (cur.filter ne))) → σ'.v "result" = some (.ref fa) → σ'.v "candidate" = some (pkD (pick (rowsOf cur))) → cur.filter ne ≠ [] → Φ .next σ') :
    WP (mgCx G A name qual doc pm cdv ct an f L n P) σ (wb4.take 3) Φ := by
  refine WP.setC rfl (EvC.plain (scope := _) sub (fun p => .ref p.1) ne (fun p => .ref p.1) (compOk0 rfl rfl (by decide) (by decide)) (.inl rfl) (Ev.name hseq) ItD.list (by lia) fun L p hp => ⟨?_, fun _ => Ev.name rfl⟩) ?_
  · exact EvT.cast (EvT.list (Ev.name rfl) (Items.ro (ds := zs p.2) (List.mem_append_left _ (hmu ▸ List.mem_cons_of_mem _ (ent_mem (hmem p hp)))))) (by unfold ne; rw [zs_isEmpty])
  rintro d mu ⟨sa, rfl, rfl⟩
  refine WP.frz [("sequences", .list (refs (cur.filter ne))), ("result", .ref fa)] (mu := (fa, .list (zs done)) :: ent cur) (by rw [← hmu]; rfl) (List.forall_mem_cons.mpr ⟨.inr ⟨rfl, by rw [← hsub]; rfl⟩, List.forall_mem_cons.mpr ⟨.inl hres, by simp⟩⟩) ?_
  have hS : ∀ p ∈ cur.filter ne, p ∈ cur ∧ ne p = true := fun p hp => List.mem_filter.mp hp
  have hpk : pick (rowsOf (cur.filter ne)) = pick (rowsOf cur) := by rw [rowsOf_filter, pick_filter]
  generalize hSd : cur.filter ne = S at hS hpk hnext
  refine WP.ifs (EvT.not (EvT.list (Ev.name (d := .list (refs S)) rfl) Items.list)) (fun hb => ?_) (fun hb => ?_)
  · have hS0 : S = [] := by
      rw [refs_isEmpty] at hb
      cases S with
      | nil => rfl
      | cons _ _ => simp at hb
    have hall := filter_nil_all (hSd.trans hS0)
    exact WP.frz [("result", .list (zs done))] (mu := ent cur) rfl (List.forall_mem_cons.mpr ⟨.inr ⟨rfl, rfl⟩, by simp⟩) (WP.ret (Ev.name rfl) (hret hall))
  refine WP.nil ?_
  show WP _ _ _ _
  have hS1 : S ≠ [] := fun e => by subst e; simp at hb; exact hb rfl
  have hSne : ∀ p ∈ S, ne p = true := fun p hp => (hS p hp).2
  refine WP.for (d := .list (refs S)) (ds := refs S) (fun k σ => σ.mu = (fa, .list (zs done)) :: ent cur ∧ σ.v "sequences" = some (.list (refs S)) ∧ σ.v "result" = some (.ref fa) ∧ (∀ i, i < k → ∀ p, S[i]? = some p → free (rowsOf S) (p.2.headD 0) = false) ∧ (0 < k → σ.v "candidate" = some .none))
    (Ev.name rfl) (.inl rfl) ⟨rfl, rfl, rfl, fun i hi => absurd hi (Nat.not_lt_zero i), fun h => absurd h (Nat.lt_irrefl 0)⟩ (fun d σ => σ.set "s1" d) (fun _ _ _ => rfl) (fun _ _ => rfl) (fun d σ => Asg.local rfl) (fun k d σ hk hI => ?_) (fun σ hI => ?_)
  · obtain ⟨h1, h2, h3, h4, _⟩ := hI
    obtain ⟨p, hp, rfl⟩ := refs_get hk
    have hpS := List.mem_of_getElem? hp
    have hpm : (p.1, MO.list (zs p.2)) ∈ σ.mu := by rw [h1]; exact .tail _ (ent_mem (hS p hpS).1)
    refine WP.set (.inl rfl) (Ev.idx (d := .ref p.1) (Ev.name rfl) (Items.mu hpm) Ev.int (by decide) (head_get (ne_nil (hSne p hpS)))) ?_
    refine WP.for (d := .list (refs S)) (ds := refs S) (fun j σ => σ.mu = (fa, .list (zs done)) :: ent cur ∧ σ.v "sequences" = some (.list (refs S)) ∧ σ.v "result" = some (.ref fa) ∧ σ.v "candidate" = some (.int (p.2.headD 0)) ∧ ∀ i, i < j → ∀ q, S[i]? = some q → p.2.headD 0 ∉ q.2.tail)
      (Ev.name h2) (.inl rfl) ⟨h1, h2, h3, rfl, fun i hi => absurd hi (Nat.not_lt_zero i)⟩ (fun d σ => σ.set "s2" d) (fun _ _ _ => rfl) (fun _ _ => rfl) (fun d σ => Asg.local rfl) (fun j d σ hj hJ => ?_) (fun σ hJ => ?_)
    · obtain ⟨j1, j2, j3, j4, j5⟩ := hJ
      obtain ⟨q, hq, rfl⟩ := refs_get hj
      have hqS := List.mem_of_getElem? hq
      have hqm : (q.1, MO.list (zs q.2)) ∈ σ.mu := by rw [j1]; exact .tail _ (ent_mem (hS q hqS).1)
      refine WP.ifs (EvT.cmp (Ev.name (d := .int (p.2.headD 0)) j4) (Ev.cast (d' := .list (zs q.2.tail)) (Ev.of_new (EvN.from (n := 1) (Ev.name (d := .ref q.1) rfl) (Items.mu hqm) Ev.int)) (by rw [← List.map_drop, List.drop_one])) (Cm.in Items.list)) (fun hb => ?_) (fun hb => ?_)
      · refine WP.set (.inl rfl) Ev.none (WP.brk (WP.nil ⟨j1, j2, j3, fun i hi r hr => ?_, fun _ => rfl⟩))
        by_cases hik : i < k
        · exact h4 i hik r hr
        · have : i = k := by lia
          subst this
          rw [hp] at hr; cases hr
          cases hf : free (rowsOf S) (p.2.headD 0) with
          | false => rfl
          | true => exact absurd (of_decide_eq_true hb) (free_iff.mp hf j q hq)
      · refine WP.nil (WP.nil ⟨j1, j2, j3, j4, fun i hi r hr => ?_⟩)
        by_cases hij : i < j
        · exact j5 i hij r hr
        · have : i = j := by lia
          subst this
          rw [hq] at hr; cases hr
          exact of_decide_eq_false hb
    · obtain ⟨j1, j2, j3, j4, j5⟩ := hJ
      have hfree : free (rowsOf S) (p.2.headD 0) = true := free_iff.mpr fun j q hq => j5 j (by rw [refs, List.length_map]; exact (List.getElem?_eq_some_iff.mp hq).1) q hq
      have hcp := pick_at hSne hp hfree h4
      rw [hpk] at hcp
      exact WP.brk (WP.nil (hnext σ j1 j2 j3 (by rw [hcp]; exact j4) hS1))
  · obtain ⟨h1, h2, h3, h4, h5⟩ := hI
    have hnone := pick_not hSne fun i hi => h4 i (by rw [refs, List.length_map]; exact hi)
    rw [hpk] at hnone
    exact WP.nil (WP.nil (hnext σ h1 h2 h3 (by rw [hnone]; exact h5 (by rw [refs, List.length_map]; exact List.length_pos_iff.mpr hS1)) hS1))
theorem c3_strike {A : Around} {L fa : Addr} {n : Nat} {P : Pred} {cur : Prs} {done : List Int} {c : Int} {σ : St} (hmu : σ.mu = (fa, .list (zs done)) :: ent cur) (hres : σ.v "result" = some (.ref fa)) (hseq : σ.v "sequences" = some (.list (refs (cur.filter ne)))) (hcan : σ.v "candidate" = some (.int c)) (hdl : done.length < 100000) {Φ : Out → St → Prop}
    (hnext : ∀ σ', σ'.mu = (fa, .list (zs (done ++ [c]))) :: ent (stripP c cur) → σ'.v "sequences" = some (.list (refs (cur.filter ne))) → σ'.v "result" = some (.ref fa) → Φ .next σ') :
    WP (mgCx G A name qual doc pm cdv ct an f L n P) σ (wb4.drop 4) Φ := by
  have hS : ∀ p ∈ cur.filter ne, p ∈ cur ∧ ne p = true := fun p hp => List.mem_filter.mp hp
  generalize hSd : cur.filter ne = S at hS hnext hseq
  refine WP.exprX (EvX.append (ds := zs done) (e := .int c) (mu' := (fa, .list (zs done ++ [.int c])) :: ent cur) (Ev.name hres) (Ev.name hcan) (by rw [hmu]; exact MuSet.head) (by simpa using hdl)) ?_
  rintro d mu ⟨rfl, rfl⟩
  refine WP.for (d := .list (refs S)) (ds := refs S) (fun k σ => ∃ pre post : Prs, cur = pre ++ post ∧ k = (pre.filter ne).length ∧ σ.mu = (fa, .list (zs (done ++ [c]))) :: (ent (stripP c pre) ++ ent post) ∧ σ.v "sequences" = some (.list (refs S)) ∧ σ.v "result" = some (.ref fa) ∧ σ.v "candidate" = some (.int c))
    (Ev.name hseq) (.inl rfl) ⟨[], cur, rfl, rfl, by rw [← zs_snoc]; rfl, hseq, hres, hcan⟩ (fun d σ => σ.set "seq" d) (fun _ _ _ => rfl) (fun _ _ => rfl) (fun d σ => Asg.local rfl) (fun k d σ hk hK => ?_) (fun σ hK => ?_)
  · obtain ⟨pre, post, k1, k2, k3, k4, k5, k6⟩ := hK
    obtain ⟨q, hq, rfl⟩ := refs_get hk
    have hsp : S = pre.filter ne ++ post.filter ne := by rw [← hSd, k1, List.filter_append]
    obtain ⟨S1, hS1'⟩ : ∃ S1, post.filter ne = q :: S1 := by
      rw [hsp, k2, List.getElem?_append_right (Nat.le_refl _), Nat.sub_self] at hq
      cases hpf : post.filter ne with
      | nil => rw [hpf] at hq; simp at hq
      | cons a b => rw [hpf] at hq; simp at hq; exact ⟨b, by rw [hq]⟩
    obtain ⟨a, b, rfl, ha, hqn, hb1⟩ := filter_split hS1'
    have hqm : (q.1, MO.list (zs q.2)) ∈ σ.mu := by
      rw [k3]
      exact .tail _ (List.mem_append_right _ (ent_mem (by simp)))
    have hfin : ∀ σ' : St, σ'.mu = (fa, .list (zs (done ++ [c]))) :: (ent (stripP c pre) ++ (ent a ++ (q.1, MO.list (zs (strip1 c q.2))) :: ent b)) → σ'.v "sequences" = some (.list (refs S)) → σ'.v "result" = some (.ref fa) → σ'.v "candidate" = some (.int c) →
        ∃ pre post : Prs, cur = pre ++ post ∧ k + 1 = (pre.filter ne).length ∧ σ'.mu = (fa, .list (zs (done ++ [c]))) :: (ent (stripP c pre) ++ ent post) ∧ σ'.v "sequences" = some (.list (refs S)) ∧ σ'.v "result" = some (.ref fa) ∧ σ'.v "candidate" = some (.int c) := fun σ' e1 e2 e3 e4 => by
      refine ⟨pre ++ (a ++ [q]), b, by rw [k1]; simp, ?_, ?_, e2, e3, e4⟩
      · rw [List.filter_append, List.filter_append, List.length_append, ← k2, List.filter_eq_nil_iff.mpr fun x hx => by simp [ha x hx]]
        simp [hqn]
      · rw [e1, stripP_append, stripP_append, stripP_empty ha, ent_append, ent_append]
        simp [stripP, ent]
    refine WP.ifs (EvT.cmp (Ev.idx (d := .ref q.1) (Ev.name rfl) (Items.mu hqm) Ev.int (by decide) (head_get (ne_nil hqn))) (Ev.name k6) Cm.eq) (fun hb => ?_) (fun hb => ?_)
    · obtain ⟨x, l, hxl⟩ : ∃ x l, q.2 = x :: l := List.exists_cons_of_ne_nil (ne_nil hqn)
      have hx : x = c := by rw [hxl] at hb; simpa using hb
      refine WP.del0 (a := q.1) (e := .int x) (ds := zs l) (mu' := (fa, .list (zs (done ++ [c]))) :: (ent (stripP c pre) ++ (ent a ++ (q.1, MO.list (zs l)) :: ent b))) (Ev.name rfl) Ev.int ?_ (WP.nil (WP.nil (hfin _ ?_ k4 k5 k6)))
      · show MuSet σ.mu _ _ _ _
        rw [k3, ent_append]
        have : ent (q :: b) = (q.1, MO.list (.int x :: zs l)) :: ent b := by unfold ent; rw [List.map_cons, hxl]; rfl
        rw [this]
        exact .tail (.right (.right .head))
      · rw [hxl]; simp [strip1, hx]; rfl
    · refine WP.nil (WP.nil (hfin _ ?_ k4 k5 k6))
      show σ.mu = _
      have : strip1 c q.2 = q.2 := by
        unfold strip1
        rw [if_neg]
        intro e
        obtain ⟨x, l, hxl⟩ : ∃ x l, q.2 = x :: l := List.exists_cons_of_ne_nil (ne_nil hqn)
        rw [hxl] at e hb
        simp at e
        simp [e] at hb
      rw [this, k3, ent_append]
      rfl
  · obtain ⟨pre, post, k1, k2, k3, k4, k5, k6⟩ := hK
    have hpost : ∀ q ∈ post, ne q = false := by
      have : S.length = (pre.filter ne).length + (post.filter ne).length := by rw [← hSd, k1, List.filter_append, List.length_append]
      rw [refs, List.length_map] at k2
      have h0 : post.filter ne = [] := List.eq_nil_of_length_eq_zero (by lia)
      intro q hq
      simpa using List.filter_eq_nil_iff.mp h0 q hq
    exact WP.nil (WP.nil (hnext σ (by rw [k3, k1, stripP_append, stripP_empty hpost, ent_append]) k4 k5))
noncomputable def RaiseMu (prs : Prs) (mu : Mu) : Prop := (∃ r ∈ (mrg (rowsOf prs)).2, r ≠ []) ∧ ∃ junk cur, mu = junk ++ ent cur ∧ rowsOf cur = (mrg (rowsOf prs)).2 ∧ cur.map (·.1) = prs.map (·.1)
theorem c3_body {A : Around} {L : Addr} {n : Nat} {P : Pred} {prs : Prs} {outer : List Env} (hfr : A.frames = some outer) (hpre : ∀ K F, P K F → FrmK outer K F) (hR : BN (mgCx G A name qual doc pm cdv ct an f L n P) "RuntimeError" (.type "RuntimeError"))
    (hz : prs.length ≤ 1000) (hz2 : ∀ p ∈ prs, p.2.length ≤ 1000) (hol : (mrg (rowsOf prs)).1.length ≤ 1000) :
    WP3 (mgCx G A name qual doc pm cdv ct an f L n P) outer { vars := [("sequences", .list (refs prs))], mu := ent prs } (bo 4)
      (Fin fun d mu => (∀ r ∈ (mrg (rowsOf prs)).2, r = []) ∧ d = .list (zs (mrg (rowsOf prs)).1) ∧ mu = ent (prs.map fun p => (p.1, []))) (fun σ => RaiseMu prs σ.mu) := by
  refine WP3.app ((bo 4).take 1) (ss2 := (bo 4).drop 1) ?_
  refine WP.setX (.inl rfl) (EvN.list (ds := []) EvL.nil (by simp)) ?_
  rintro d mu ⟨fa, rfl, rfl⟩
  refine WP.nil ?_
  refine WP3.while (body := wb4) (Around.frames_deeper hfr) rfl hpre (fun n σ => ∃ (cur sub : Prs) (done : List Int), n = total (rowsOf cur) ∧ cur.map (·.1) = prs.map (·.1) ∧ sub.filter ne = cur.filter ne ∧ (∀ p ∈ sub, p ∈ cur) ∧ sub.length ≤ 1000 ∧ (∀ p ∈ cur, p.2.length ≤ 1000) ∧
    done ++ (mrg (rowsOf cur)).1 = (mrg (rowsOf prs)).1 ∧ (mrg (rowsOf cur)).2 = (mrg (rowsOf prs)).2 ∧ σ.mu = (fa, .list (zs done)) :: ent cur ∧ σ.v "result" = some (.ref fa) ∧ σ.v "sequences" = some (.list (refs sub))) (total (rowsOf prs))
    ⟨prs, prs, [], rfl, rfl, rfl, fun _ h => h, hz, hz2, rfl, rfl, rfl, rfl, rfl⟩ ?_
  rintro n σ ⟨cur, sub, done, rfl, hadr, hsub, hmem, hsz, hsz2, hout, hrest, hmu, hres, hseq⟩
  refine ⟨EvT.bool Ev.bool, WP2.app (wb4.take 3) (ss2 := wb4.drop 3) (c3_choice hadr hsub hmem hsz hmu hres hseq (fun hall => ?_) fun σ' m1 m2 m3 m4 hne => ?_)⟩
  · have hpn := pick_all_nil (rows := rowsOf cur) (fun r hr => by
      obtain ⟨p, hp, rfl⟩ := List.mem_map.mp hr
      exact hall p hp)
    have hm := mrg_none hpn
    refine ⟨?_, ?_, congrArg ent (all_nil_eq hall hadr)⟩
    · rw [← hrest, hm]
      intro r hr
      obtain ⟨p, hp, rfl⟩ := List.mem_map.mp hr
      exact hall p hp
    · rw [← hout, hm]; simp
  · cases hc : pick (rowsOf cur) with
    | none =>
      rw [hc] at m4
      refine WP2.ifs (Ev.isNone (Ev.name m4) (.inl rfl)) (fun _ => WP2.raise hR ?_) (fun h => nomatch h)
      have hm := mrg_none hc
      obtain ⟨p, hp⟩ := List.exists_mem_of_ne_nil _ hne
      refine ⟨⟨p.2, ?_, ne_nil (List.mem_filter.mp hp).2⟩, [(fa, .list (zs done))], cur, m1, by rw [← hrest, hm], hadr⟩
      rw [← hrest, hm]
      exact List.mem_map_of_mem (List.mem_filter.mp hp).1
    | some c =>
      rw [hc] at m4
      have hcs := mrg_some hc
      have hdl : done.length < 100000 := by
        have : done.length ≤ (mrg (rowsOf prs)).1.length := by rw [← hout, List.length_append]; lia
        lia
      refine WP2.ifs (Ev.isNone (Ev.name m4) (.inr ⟨c, rfl⟩)) (fun h => nomatch h) (fun _ => ⟨rfl, WP2.of (c3_strike m1 m3 m2 m4 hdl fun σ2 q1 q2 q3 => ?_)⟩)
      refine ⟨total (rowsOf (stripP c cur)), ?_, stripP c cur, stripP c (cur.filter ne), done ++ [c], rfl, ?_, stripP_filter cur, ?_, ?_, ?_, ?_, ?_, q1, q3, ?_⟩
      · rw [rowsOf_strip]; exact strip_lt (pick_mem hc)
      · rw [← hadr, stripP, List.map_map]; rfl
      · intro q hq
        obtain ⟨q', hq', rfl⟩ := List.mem_map.mp hq
        exact List.mem_map.mpr ⟨q', (List.mem_filter.mp hq').1, rfl⟩
      · rw [stripP, List.length_map, ← hsub]; exact Nat.le_trans (List.length_filter_le _ _) hsz
      · intro q hq
        obtain ⟨q', hq', rfl⟩ := List.mem_map.mp hq
        have := hsz2 q' hq'
        show (strip1 c q'.2).length ≤ 1000
        unfold strip1
        split
        · rw [List.length_tail]; lia
        · exact this
      · rw [rowsOf_strip, ← hout, hcs]; simp
      · rw [rowsOf_strip, ← hrest, hcs]
      · rw [q2, stripP, refs, refs, List.map_map]; rfl
end
end Mine
end

section
set_option Elab.async false
set_option linter.unusedVariables false
set_option linter.unusedSimpArgs false
set_option maxRecDepth 100000
namespace Mine
open PySem PySem.W PyProof.Rows PySem.Calls
theorem WP2.toWP {C : Cx} {σ : St} {Φ : Out → St → Prop} {ss : List Stmt} (h : WP2 C σ ss Φ fun _ => False) : WP C σ ss Φ := fun K F s Q E X hQ => h K F s Q E X hQ fun _ _ _ _ _ _ _ _ q => q.elim
noncomputable def lessF (l : List Env) (K : Fz) : Fz := fun a => if a ∈ l.filterMap (·.frame) then none else K a
theorem lessF_some {l : List Env} {K : Fz} {a : Addr} {o : Obj} (h : lessF l K a = some o) : a ∉ l.filterMap (·.frame) ∧ K a = some o := by
  unfold lessF at h
  split at h
  · cases h
  · rename_i q; exact ⟨q, h⟩
theorem lessF_none {l : List Env} {K : Fz} {a : Addr} (h : K a = none) : lessF l K a = none := by
  unfold lessF; split
  · rfl
  · exact h
theorem Am.weakK {G : Gx} {K K' F : Fz} {mu : Mu} {s : Shared} (X : Am G K mu F s) (h : Fle K' K) : Am G K' mu F s :=
  ⟨X.ok, X.base, X.frz, fun a o e => X.dis a o (h a o e), fun a o e => X.keep a o (h a o e), fun p hp => ⟨(X.mus p hp).1, (X.mus p hp).2.1, by
    cases e : K' p.1 with
    | none => rfl
    | some o => have := h _ _ e; rw [(X.mus p hp).2.2] at this; cases this⟩, X.nd, X.gens, X.drawn, X.os⟩
theorem Am.stays {G : Gx} {K F : Fz} {mu : Mu} {s : Shared} {B h' : Heap} {t : Nat} (X : Am G K mu F { s with heap := B }) (h : B.StaysIn h') : Am G K mu F { s with heap := h', toks := t } :=
  ⟨X.ok, X.base, fun a o e => h _ _ (X.frz a o e), X.dis, fun a o e => h _ _ (X.keep a o e), fun p hp => ⟨(X.mus p hp).1.mono (Fle.refl _) fun o e => h _ _ e, (X.mus p hp).2⟩, X.nd, X.gens, X.drawn, X.os⟩
theorem Mo.hid {C : Cx} {K F : Fz} {σ : St} {s : Shared} {outer : List Env} {mu : Mu} (X : Mo C K σ F s) (hf : C.env.frame = some C.env.locals) (hK : FrmK outer K F) (hm : ∀ p ∈ mu, p ∈ σ.mu) (nd : (mu.map (·.1)).Nodup) :
    Am C.G (lessF (C.env :: outer) K) mu F { s with heap := Mine.hid (C.env :: outer) s.heap } := by
  have hout : ∀ {a : Addr}, a ∈ (C.env :: outer).filterMap (·.frame) → a = C.env.locals ∨ ∃ o, K a = some o := fun {a} h => by
    obtain ⟨env, he, hf'⟩ := List.mem_filterMap.mp h
    rcases List.mem_cons.mp he with rfl | he
    · rw [hf] at hf'; exact .inl (Option.some.inj hf').symm
    · obtain ⟨_, L, o, h2, h3, _⟩ := hK env he
      rw [h2] at hf'; cases hf'
      exact .inr ⟨o, h3⟩
  have hl := X.priv _ X.ok.loc
  have hid' : ∀ a o, s.heap.get? a = some o → a ≠ C.env.locals → K a = none → (Mine.hid (C.env :: outer) s.heap).get? a = some o := fun a o e n k => hideAll_get _ e fun q => by
    rcases hout q with q | ⟨o', q⟩
    · exact n q
    · rw [k] at q; cases q
  refine ⟨X.am.ok, X.am.base, fun a o e => hid' a o (X.am.frz _ _ e) (fun q => by rw [q, hl.1] at e; cases e) ?_, fun a o e => X.am.dis _ _ (lessF_some e).2, fun a o e => hideAll_get _ (X.am.keep _ _ (lessF_some e).2) (lessF_some e).1, fun p hp => ?_, nd, X.am.gens, X.am.drawn, X.am.os⟩
  · cases q : K a with
    | none => rfl
    | some o' => rw [X.am.dis _ _ q] at e; cases e
  · obtain ⟨h1, h2, h3⟩ := X.am.mus p (hm p hp)
    exact ⟨h1.mono (Fle.refl _) fun o e => hid' _ o e (fun q => X.pmu p (hm p hp) (q ▸ X.ok.loc)) h3, h2, lessF_none h3⟩
section
variable {G : Gx} {n : Nat} {P : Pred} {f : Addr} {fd : FuncData} {body : List Stmt} {ns : List Str} {ds : List D} {pas : Mu}
theorem enter_fn {A : Around} {K F : Fz} {s : Shared} {vs : List Value} {Q : Value → Shared → Prop} {E : Value → Shared → Prop} (hmon : P.Mon) (ok : FnOk G fd body ns ds.length) (hf : FnF F f fd) (hcell : ∀ x ∈ fd.scope.names, x.2 ≠ .cell) (hloc : ∀ x ∈ ns, fd.scope.names.lookup x = some .local)
    (hclo : fd.closure = []) (hr : Room A (n + 1)) (hp : P K F) (X : Am G K pas F s) (r : RepL F vs ds)
    (h : ∀ L s1, s.heap.get? L = none → Mo (fnCx G A fd f L n P) K { vars := ns.zip ds, mu := pas } F s1 → wpAny G.M (fnCx G A fd f L n P).A (execs body (fnCx G A fd f L n P).env) (fun fl s' => Q (match fl with | .ret v => v | _ => .none) s')
      (fun e s' => wpAny G.M (fnCx G A fd f L n P).A (leaving (fnCx G A fd f L n P).env e) (fun _ s'' => E e s'') E s') s1) : wpAny G.M A (call (.ref f) vs) Q E s := by
  obtain ⟨⟨o, h1, h2⟩, c, oc, cvs, t, h3, h4, h5, h6⟩ := hf
  have hl := r.length
  refine wpAny_call (codeAny_call_def (prog := G.prog) (w := G.w) (body := body) (binds := ns.zip vs) (by have := hr.dp; lia) (X.frz _ _ h1) h2 X.nl ⟨c, oc, cvs, t, h3, X.frz _ _ h4, h5, h6⟩ ok.body (ok.bind s vs (fun a o e => X.frz _ _ (X.base _ _ e)) hl) hcell
    (fun x hx => hloc _ (by obtain ⟨a, b⟩ := x; exact (List.of_mem_zip hx).1)) (fun h₀ hns hk => ?_) ok.co ok.gen ok.kind)
  have ns0 := hns
  have freshL : ∀ o, s.heap.get? s.heap.objs.size ≠ some o := fun o e => Nat.lt_irrefl _ (Heap.lt_size e)
  refine h s.heap.objs.size _ (Heap.get?_none_of_le (Nat.le_refl _)) ⟨⟨ok.kind, ok.gl, ok.bu, hr.deeper, .head _, ?_, fun x hx => ?_, hmon⟩, (X.grow (t := s.toks + (ns.zip vs).length) hk (Fle.refl _) (fun _ _ e => .inl e) fun a o e => hk _ _ (X.frz _ _ e)), fun a ha => ?_, fun x hx => ?_, ⟨_, ns0, fun x d e => ?_⟩, fun p hp ha => ?_, (fun p hp => nomatch hp), hp⟩
  · show fd.closure.Pairwise _; rw [hclo]; exact List.Pairwise.nil
  · have hx' : x ∈ fd.closure := hx
    rw [hclo] at hx'; cases hx'
  · obtain rfl : a = s.heap.objs.size := by simpa [fnCx] using ha
    obtain ⟨oL, es, ep, eL, _⟩ := ns0
    exact ⟨X.fresh, X.freshK, oL, eL⟩
  · have hx' : x ∈ fd.closure := hx
    rw [hclo] at hx'; cases hx'
  · obtain ⟨v, q1, q2⟩ := lookup_zip r e
    refine ⟨v, ?_, q2⟩
    unfold VarAt
    rw [show (fnCx G A fd f s.heap.objs.size n P).env.kindOf x = some .local from hloc x (List.of_mem_zip q1).1]
    exact lookup_rev ok.nd q1
  · obtain ⟨o', ho'⟩ := (X.mus p hp).1.some
    have : p.1 = s.heap.objs.size := by simpa [fnCx] using ha
    rw [this] at ho'
    exact freshL _ ho'
end
section
variable {G : Gx} {f : Addr} {name qual : Str} {doc pm cdv ct : Value} {an : Option Addr}
theorem c3_raise {A : Around} {K F : Fz} {s : Shared} {v : Value} {Q : Value → Shared → Prop} {E : Value → Shared → Prop} {n : Nat} {prs : Prs} {outer : List Env} (hF : FnF G.hb.get? f (fdN 4 name qual .none .none doc pm an cdv ct)) (hR1 : G.mg "RuntimeError" = none) (hR2 : G.mb "RuntimeError" = some (.type "RuntimeError"))
    (hfr : A.frames = some outer) (hr : Room A (n + 1)) (hK : FrmK outer K F) (X : Am G K (ent prs) F s) (r : Rep F v (.list (refs prs))) (hz : prs.length ≤ 1000) (hz2 : ∀ p ∈ prs, p.2.length ≤ 1000) (hol : (mrg (rowsOf prs)).1.length ≤ 1000) (hx : ∃ r ∈ (mrg (rowsOf prs)).2, r ≠ [])
    (hE : ∀ (B : Heap) (F' : Fz) (h' : Heap) (sm : Shared) (e : Addr) (a0 : Value) (cur : Prs), rowsOf cur = (mrg (rowsOf prs)).2 → cur.map (·.1) = prs.map (·.1) → Am G (lessF outer K) (ent cur) F' { sm with heap := B } → Fle F F' → Heap.FlyingW B outer e (.type "RuntimeError") a0 h' →
      (∀ env ∈ outer, ∀ L o, env.frame = some L → K L = some o → ∃ sl, h'.get? L = some { o with slots := sl }) → E (.ref e) { sm with heap := h' }) : wpAny G.M A (call (.ref f) [v]) Q E s := by
  refine enter_fn (fd := fdN 4 name qual .none .none doc pm an cdv ct) (ns := ["sequences"]) (body := bo 4) (ds := [.list (refs prs)]) FrmK.mon ⟨rfl, fun s vs hb h => ?_, by decide, rfl, rfl, rfl, rfl, rfl⟩ (hF.mono X.base) (show ∀ x ∈ (sc 4).names, _ by decide) (show ∀ x ∈ (["sequences"] : List Str), (sc 4).names.lookup x = _ by decide) rfl hr hK X (.cons r .nil) fun L s1 hL X1 => ?_
  · match vs, h with
    | [a], _ => exact BindsTo.of_eq rfl
  refine c3_body hfr (fun K F h => h) ⟨rfl, hR1, hR2, rfl⟩ hz hz2 hol K F s1 _ _ X1 (fun fl o F' s' σ' ho X' g hΦ => ?_) fun F' sm σ' h' e a0 X' g hΨ hH hu => ?_
  · exfalso
    obtain ⟨r0, hr1, hr2⟩ := hx
    cases o with
    | next => exact hr2 (hΦ.1 r0 hr1)
    | brk => exact hΦ
    | cont => exact hΦ
    | ret d => exact hr2 (hΦ.1 r0 hr1)
  · obtain ⟨_, junk, cur, m1, m2, m3⟩ := hΨ
    refine leave_held (s := { sm with heap := h' }) rfl hH fun h2 H2 u2 => ?_
    have nd := X'.am.nd
    rw [m1, List.map_append, List.nodup_append] at nd
    have A1 := X'.hid (outer := outer) (mu := ent cur) rfl (FrmK.mon _ _ _ _ hK (Fle.refl _) g) (fun p hp => by rw [m1]; exact List.mem_append_right _ hp) nd.2.1
    refine hE _ F' h2 sm e a0 cur m2 m3 (A1.weakK fun a o e => ?_) g H2 fun env he L' o h1 h2 => ?_
    · obtain ⟨q1, q2⟩ := lessF_some e
      unfold lessF
      rw [if_neg]
      · exact q2
      · intro hm
        obtain ⟨env, he, hf⟩ := List.mem_filterMap.mp hm
        rcases List.mem_cons.mp he with rfl | he
        · have : L = a := Option.some.inj hf
          rw [← this, (X'.priv L (.head _)).2.1] at q2; cases q2
        · exact q1 (List.mem_filterMap.mpr ⟨env, he, hf⟩)
    · obtain ⟨_, L2, o2, e1, e2, e3⟩ := hK env he
      rw [e1] at h1; cases h1
      rw [e2] at h2; cases h2
      exact (hu.trans u2) _ _ (X'.am.keep _ _ e2) e3
theorem c3_sem {n : Nat} {P : Pred} {prs : Prs} (hmon : P.Mon) (hF : FnF G.hb.get? f (fdN 4 name qual .none .none doc pm an cdv ct)) (hz : prs.length ≤ 1000) (hz2 : ∀ p ∈ prs, p.2.length ≤ 1000) (hok : ∀ r ∈ (mrg (rowsOf prs)).2, r = []) (hol : (mrg (rowsOf prs)).1.length ≤ 1000) :
    CallSem G (n + 1) P f (ent prs) [.list (refs prs)] (fun d mu => d = .list (zs (mrg (rowsOf prs)).1) ∧ mu = ent (prs.map fun p => (p.1, []))) := by
  refine call_fn (fd := fdN 4 name qual .none .none doc pm an cdv ct) (ns := ["sequences"]) (body := bo 4) hmon ⟨rfl, fun s vs hb h => ?_, by decide, rfl, rfl, rfl, rfl, rfl⟩ (fun K F hb _ => hF.mono hb) (show ∀ x ∈ (sc 4).names, _ by decide) (show ∀ x ∈ (["sequences"] : List Str), (sc 4).names.lookup x = _ by decide) [] (fun K F _ => ⟨fun x hx => (nomatch hx), fun x d h => (nomatch h)⟩) List.Pairwise.nil (by simp) fun A L hr => ?_
  · match vs, h with
    | [a], _ => exact BindsTo.of_eq rfl
  refine WP.setX (.inl rfl) (EvN.list (ds := []) EvL.nil (by simp)) ?_
  rintro d mu ⟨fa, rfl, rfl⟩
  refine WP.while (body := wb4) (fun n σ => ∃ (cur sub : Prs) (done : List Int), n = total (rowsOf cur) ∧ cur.map (·.1) = prs.map (·.1) ∧ sub.filter ne = cur.filter ne ∧ (∀ p ∈ sub, p ∈ cur) ∧ sub.length ≤ 1000 ∧ (∀ p ∈ cur, p.2.length ≤ 1000) ∧
    done ++ (mrg (rowsOf cur)).1 = (mrg (rowsOf prs)).1 ∧ (mrg (rowsOf cur)).2 = (mrg (rowsOf prs)).2 ∧ σ.mu = (fa, .list (zs done)) :: ent cur ∧ σ.v "result" = some (.ref fa) ∧ σ.v "sequences" = some (.list (refs sub))) (total (rowsOf prs))
    ⟨prs, prs, [], rfl, rfl, rfl, fun _ h => h, hz, hz2, rfl, rfl, rfl, rfl, rfl⟩ ?_
  rintro n σ ⟨cur, sub, done, rfl, hadr, hsub, hmem, hsz, hsz2, hout, hrest, hmu, hres, hseq⟩
  refine ⟨true, EvT.bool Ev.bool, fun _ => ?_, fun h => (nomatch h)⟩
  refine WP2.toWP (WP2.app (wb4.take 3) (ss2 := wb4.drop 3) (c3_choice hadr hsub hmem hsz hmu hres hseq (fun hall => ?_) fun σ' m1 m2 m3 m4 hne => ?_))
  · have hpn := pick_all_nil (rows := rowsOf cur) (fun r hr => by
      obtain ⟨p, hp, rfl⟩ := List.mem_map.mp hr
      exact hall p hp)
    have hm := mrg_none hpn
    refine ⟨?_, congrArg ent (all_nil_eq hall hadr)⟩
    rw [← hout, hm]; simp
  · obtain ⟨c, hc⟩ : ∃ c, pick (rowsOf cur) = some c := by
      cases e : pick (rowsOf cur) with
      | some c => exact ⟨c, rfl⟩
      | none =>
        exfalso
        have hm := mrg_none e
        rw [hm] at hrest
        obtain ⟨p, hp⟩ := List.exists_mem_of_ne_nil _ hne
        have h1 := hok p.2 (by rw [← hrest]; exact List.mem_map_of_mem (List.mem_filter.mp hp).1)
        exact ne_nil (List.mem_filter.mp hp).2 h1
    rw [hc] at m4
    have hcs := mrg_some hc
    have hdl : done.length < 100000 := by
      have : done.length ≤ (mrg (rowsOf prs)).1.length := by rw [← hout, List.length_append]; lia
      lia
    refine WP2.ifs (Ev.isNone (Ev.name m4) (.inr ⟨c, rfl⟩)) (fun h => nomatch h) (fun _ => ⟨rfl, WP2.of (c3_strike m1 m3 m2 m4 hdl fun σ2 q1 q2 q3 => ?_)⟩)
    refine ⟨total (rowsOf (stripP c cur)), ?_, stripP c cur, stripP c (cur.filter ne), done ++ [c], rfl, ?_, stripP_filter cur, ?_, ?_, ?_, ?_, ?_, q1, q3, ?_⟩
    · rw [rowsOf_strip]; exact strip_lt (pick_mem hc)
    · rw [← hadr, stripP, List.map_map]; rfl
    · intro q hq
      obtain ⟨q', hq', rfl⟩ := List.mem_map.mp hq
      exact List.mem_map.mpr ⟨q', (List.mem_filter.mp hq').1, rfl⟩
    · rw [stripP, List.length_map, ← hsub]; exact Nat.le_trans (List.length_filter_le _ _) hsz
    · intro q hq
      obtain ⟨q', hq', rfl⟩ := List.mem_map.mp hq
      have := hsz2 q' hq'
      show (strip1 c q'.2).length ≤ 1000
      unfold strip1
      split
      · rw [List.length_tail]; lia
      · exact this
    · rw [rowsOf_strip, ← hout, hcs]; simp
    · rw [rowsOf_strip, ← hrest, hcs]
    · rw [q2, stripP, refs, refs, List.map_map]; rfl
end
end Mine
end

section
set_option Elab.async false
set_option linter.unusedVariables false
set_option linter.unusedSimpArgs false
set_option maxRecDepth 100000
namespace Mine
open PySem PySem.W PyProof.Rows PySem.Calls
section
variable {C : Cx} {σ : St} {Φ : Out → St → Prop}
theorem EvX.listX {es : List Expr} {pos : Pos} {ds : List D} {mu : Mu} (h : EvLX C σ es ds mu) (hz : ds.length ≤ 100000) : EvX C σ (.List es pos) (fun d mu' => ∃ a, d = .ref a ∧ mu' = (a, .list ds) :: mu) := fun K F s Q E X hQ =>
  wpAny_List (h pos K F s _ E X fun F' vs s' X' g r => by
    have hl := r.length
    exact ⟨fitsSz (by lia), hQ F' _ _ _ _ ⟨_, rfl, rfl⟩ (X'.newList r (by lia) _) g (.ref _)⟩)
theorem WP.tryRet {body ss : List Stmt} {h₀ : ExceptHandler} {hs : List ExceptHandler} {pos : Pos} (h : WP C σ body fun o σ' => match o with | .ret d => Φ (.ret d) σ' | _ => False) : WP C σ (.Try body (h₀ :: hs) [] [] pos :: ss) Φ := WP.cons fun K F s Q E X hQ =>
  wpAny_Try_except (h K F s _ _ X fun f o F' s' σ' ho X' g hΦ => by
    cases o with
    | next => exact hΦ.elim
    | brk => exact hΦ.elim
    | cont => exact hΦ.elim
    | ret d => cases f <;> first | exact ho.elim | exact hQ _ (.ret d) F' s' σ' ho X' g hΦ)
end
section
variable {G : Gx} {f fc : Addr} {name qual : Str} {doc pm cdv ct : Value} {an : Option Addr}
noncomputable abbrev meCx (G : Gx) (A : Around) (name qual : Str) (doc pm cdv ct : Value) (an : Option Addr) (f L : Addr) (n : Nat) (P : Pred) : Cx := fnCx G A (fdN 13 name qual .none .none doc pm an cdv ct) f L n P
theorem met_sem {n : Nat} {P : Pred} {prs : Prs} (hmon : P.Mon) (hF : FnF G.hb.get? f (fdN 13 name qual .none .none doc pm an cdv ct)) (hc : G.mg "_c3_merge" = some (.ref fc)) (hs : CallSem G n P fc (ent prs) [.list (refs prs)] (fun d mu => d = .list (zs (mrg (rowsOf prs)).1) ∧ mu = ent (prs.map fun p => (p.1, [])))) :
    CallSem G (n + 1) P f (ent prs) [.list (refs prs)] (fun d mu => ∃ a, d = .ref a ∧ mu = (a, .list [.list (zs (mrg (rowsOf prs)).1)]) :: ent (prs.map fun p => (p.1, []))) := by
  refine call_fn (fd := fdN 13 name qual .none .none doc pm an cdv ct) (ns := ["rows"]) (body := bo 13) hmon ⟨rfl, fun s vs hb h => ?_, by decide, rfl, rfl, rfl, rfl, rfl⟩ (fun K F hb _ => hF.mono hb) (show ∀ x ∈ (sc 13).names, _ by decide) (show ∀ x ∈ (["rows"] : List Str), (sc 13).names.lookup x = _ by decide) [] (fun K F _ => ⟨fun x hx => (nomatch hx), fun x d h => (nomatch h)⟩) List.Pairwise.nil (by simp) fun A L hr => ?_
  · match vs, h with
    | [a], _ => exact BindsTo.of_eq rfl
  refine WP.tryRet (WP.retX (EvX.listX (ds := [.list (zs (mrg (rowsOf prs)).1)]) (mu := ent (prs.map fun p : Addr × List Int => (p.1, []))) (EvLX.cons (EvX.mono (EvX.callS (oth := []) (Ev.glob rfl hc) (EvL.cons (Ev.name (d := .list (refs prs)) rfl) EvL.nil) (by rw [List.append_nil (ent prs)]) hs (Nat.le_refl _) (fun K F s X => X.preFull (fun a ha => ?_))) fun d mu h => ?_) (EvLX.of EvL.nil)) (by simp)) fun d mu h => h)
  · obtain ⟨p, hp, rfl⟩ := List.mem_map.mp ha
    exact (X.am.mus p (List.mem_append_left _ hp)).2.2
  · obtain ⟨mu', ⟨h1, h2⟩, h3⟩ := h
    exact ⟨h1, by rw [h3, h2, List.append_nil]; rfl⟩
theorem met_catch {nc qc : Str} {dc pc cdc ctc : Value} {ac : Option Addr} {A : Around} {K F : Fz} {s : Shared} {v : Value} {Q : Value → Shared → Prop} {E : Value → Shared → Prop} {n : Nat} {prs : Prs} {outer : List Env} (hF : FnF G.hb.get? f (fdN 13 name qual .none .none doc pm an cdv ct))
    (hc : G.mg "_c3_merge" = some (.ref fc)) (hFc : FnF G.hb.get? fc (fdN 4 nc qc .none .none dc pc ac cdc ctc)) (hR1 : G.mg "RuntimeError" = none) (hR2 : G.mb "RuntimeError" = some (.type "RuntimeError"))
    (hfr : A.frames = some outer) (hr : Room A (n + 1 + 1)) (hK : FrmK outer K F) (X : Am G K (ent prs) F s) (r : Rep F v (.list (refs prs))) (hz : prs.length ≤ 1000) (hz2 : ∀ p ∈ prs, p.2.length ≤ 1000) (hol : (mrg (rowsOf prs)).1.length ≤ 1000) (hx : ∃ r ∈ (mrg (rowsOf prs)).2, r ≠ [])
    (hQ : ∀ (F' : Fz) (s' : Shared) (a : Addr) (cur : Prs), rowsOf cur = (mrg (rowsOf prs)).2 → cur.map (·.1) = prs.map (·.1) → Am G (lessF outer K) ((a, .list []) :: ent cur) F' s' → Fle F F' →
      (∀ env ∈ outer, ∀ L o, env.frame = some L → K L = some o → (∃ sl, s'.heap.get? L = some { o with slots := sl }) ∧ F' L = none ∧ ∀ p ∈ (a, MO.list []) :: ent cur, p.1 ≠ L) → Q (.ref a) s') : wpAny G.M A (call (.ref f) [v]) Q E s := by
  refine enter_fn (n := n + 1) (fd := fdN 13 name qual .none .none doc pm an cdv ct) (ns := ["rows"]) (body := bo 13) (ds := [.list (refs prs)]) FrmK.mon ⟨rfl, fun s vs hb h => ?_, by decide, rfl, rfl, rfl, rfl, rfl⟩ (hF.mono X.base) (show ∀ x ∈ (sc 13).names, _ by decide) (show ∀ x ∈ (["rows"] : List Str), (sc 13).names.lookup x = _ by decide) rfl hr hK X (.cons r .nil) fun L s1 hL X1 => ?_
  · match vs, h with
    | [a], _ => exact BindsTo.of_eq rfl
  refine wpAny_execs_cons (wpAny_Try_except ?_)
  refine wpAny_execs_cons (wpAny_Return_some (wpAny_List (wpAny_items_cons ?_)))
  refine wpAny_Call_NameR (gName X1 rfl hc ?_)
  obtain ⟨⟨oc, hc1, hc2⟩, _⟩ := id hFc
  refine callWith_function (o := oc) (fd := fdN 4 nc qc .none .none dc pc ac cdc ctc) (Calls.evalArgs_plain (Calls.spliced_cons ((Ev.name (σ := { vars := [("rows", .list (refs prs))], mu := ent prs }) rfl) K F s1 _ _ X1 fun F2 v2 s2 X2 g2 r2 => Calls.spliced_nil ?_)))
  refine ⟨⟨X2.am.frz _ _ (X2.am.base _ _ hc1), hc2⟩, ?_⟩
  have hp2 : ∀ p ∈ ent prs, F2 p.1 = none ∧ K p.1 = none ∧ p.1 ≠ L := fun p hp => ⟨(X2.am.mus p hp).2.1, (X2.am.mus p hp).2.2, fun q => X2.pmu p hp (q ▸ .head _)⟩
  have notPas : ∀ a, (K a = none → False) ∨ a = L → a ∉ (ent prs).map (·.1) := fun a h hm => by
    obtain ⟨p, hp, rfl⟩ := List.mem_map.mp hm
    obtain ⟨q1, q2, q3⟩ := hp2 p hp
    rcases h with h | h
    · exact h q2
    · exact q3 h
  have kf : ∀ a o, K a = some o → full F2 s2.heap ((ent prs).map (·.1)) a = some o := fun a o e => full_of (X2.am.dis _ _ e) (notPas a (.inl fun q => by rw [e] at q; cases q)) (X2.am.keep _ _ e)
  have hK2 : FrmK ((meCx G A name qual doc pm cdv ct an f L (n + 1) (FrmK outer)).env :: outer) (full F2 s2.heap ((ent prs).map (·.1))) F2 := by
    intro env he
    rcases List.mem_cons.mp he with rfl | he
    · obtain ⟨m, ⟨o, es, ep, e, d, _⟩, _⟩ := X2.loc
      exact ⟨by rw [X2.ok.fn]; nofun, L, o, rfl, full_of (X2.priv L (.head _)).1 (notPas L (.inr rfl)) e, fun vs q => by rw [d] at q; cases q⟩
    · obtain ⟨h1, L', o, h2, h3, h4⟩ := hK env he
      exact ⟨h1, L', o, h2, kf _ _ h3, h4⟩
  refine c3_raise (n := n) (outer := (meCx G A name qual doc pm cdv ct an f L (n + 1) (FrmK outer)).env :: outer) hFc hR1 hR2 (Around.frames_deeper hfr) X2.ok.rm hK2 (X2.am.leave (oth := []) (List.append_nil _).symm) r2 hz hz2 hol hx fun B F' h' sm e a0 cur c1 c2 AB g3 HF hu => ?_
  refine wpAny_looks_onW (s := { sm with heap := h' }) (Around.frames_deeper hfr) rfl HF fun h4 H4 u4 => ?_
  refine wpAny_landsW (s := { sm with heap := h4 }) H4 fun h5 H5 u5 => ?_
  have A5 := AB.stays (t := sm.toks) H5.1
  obtain ⟨ob, hob, hobc⟩ := H5.there
  refine wpAny_handleBy_builtin (s := { sm with heap := h5 }) (X := "RuntimeError") (T := "RuntimeError") (b := true) PySem.F.isExc_RuntimeError PySem.F.notTuple_RuntimeError (by rw [isSubtype_type]; kernel_rfl) ?_
  refine Name_function_global X2.ok.fn rfl (loadGlobal_builtin (by rw [X2.ok.gl]; exact A5.ns) hR1 (by rw [X2.ok.bu]; exact A5.nsb) hR2 ⟨rfl, ⟨ob, hob, hobc⟩, ?_⟩) rfl
  simp only [if_true]
  refine lands_againW (s := { sm with heap := h5 }) H5 fun h6 H6 u6 => ?_
  refine wpAny_execs_cons (wpAny_Return_some (wpAny_List (wpAny_items_nil ⟨by size_fits, ?_⟩)))
  have A6 := AB.stays (t := sm.toks) H6.1
  have A7 : Am G (lessF outer K) ((h6.objs.size, MO.list []) :: ent cur) F' { sm with heap := h6.push { cls := .type "list", data := .seq ([] : List Value).toArray } } := by
    refine Am.allocMu (s := { sm with heap := h6 }) (A6.weakK fun a o e => ?_) _ (.list []) sm.toks ⟨_, [], Heap.get?_push_size _ rfl, ⟨by simp, 0, rfl⟩, .nil⟩
    obtain ⟨q1, q2⟩ := lessF_some e
    unfold lessF
    rw [if_neg]
    · exact kf _ _ q2
    · intro hm
      obtain ⟨env, he, hf⟩ := List.mem_filterMap.mp hm
      rcases List.mem_cons.mp he with rfl | he
      · have : L = a := Option.some.inj hf
        rw [← this, (X2.priv L (.head _)).2.1] at q2; cases q2
      · exact q1 (List.mem_filterMap.mpr ⟨env, he, hf⟩)
  refine hQ F' _ _ cur c1 c2 A7 (g2.trans g3) fun env he L' o h1 h2 => ?_
  have hB : B.get? L' = none := by
    have := (H6.2.2.1).mem (b := L') (List.mem_filterMap.mpr ⟨env, .tail _ he, h1⟩)
    exact this.1
  obtain ⟨_, L2, o2, q1, q2, q3⟩ := hK env he
  rw [q1] at h1; cases h1
  rw [q2] at h2; cases h2
  obtain ⟨sl, hs⟩ := hu env (.tail _ he) _ _ q1 (kf _ _ q2)
  obtain ⟨sl2, hs2⟩ := ((u4.trans u5).trans u6) _ _ hs q3
  refine ⟨⟨sl2, Heap.get?_push_of_some _ hs2⟩, ?_, fun p hp q => ?_⟩
  · cases z : F' L' with
    | none => rfl
    | some o' => have := AB.frz _ _ z; rw [hB] at this; cases this
  · rcases List.mem_cons.mp hp with rfl | hp
    · exact Nat.lt_irrefl _ (Heap.lt_size (q ▸ hs2))
    · obtain ⟨o', ho'⟩ := (AB.mus p hp).1.some
      rw [q, hB] at ho'; cases ho'
end
section
variable {C : Cx} {σ : St}
theorem Mo.slotsL {K F : Fz} {s : Shared} {h' : Heap} {oL : Obj} {sl : Array (Option Value)} {t : Nat} (X : Mo C K σ F s) (hs : Heap.SameBut C.env.locals s.heap h') (e0 : s.heap.get? C.env.locals = some oL) (e1 : h'.get? C.env.locals = some { oL with slots := sl }) : Mo C K σ F { s with heap := h', toks := t } := by
  have hp := X.priv _ X.ok.loc
  have hL : ∀ c ∈ C.env.cells, ∀ o, s.heap.get? c.2 = some o → h'.get? c.2 = some o := fun c hc o e => (hs.2 _ (X.ok.cne c hc)).trans e
  have ex : ∀ b o, s.heap.get? b = some o → ∃ o, h'.get? b = some o := fun b o e => by
    by_cases h : b = C.env.locals
    · subst h; exact ⟨_, e1⟩
    · exact ⟨o, (hs.2 b h).trans e⟩
  obtain ⟨m, ⟨o, es, ep, q1, q2, q3⟩, hm⟩ := X.loc
  rw [e0] at q1; cases q1
  refine ⟨X.ok, X.am.other hs hp.1 hp.2.1 (fun p hq e => X.pmu p hq (e ▸ X.ok.loc)), fun b hb => ?_, fun c hc => ?_, ⟨m, ⟨_, es, ep, e1, q2, q3⟩, fun y dy e => ?_⟩, X.pmu, fun p hq => ?_, X.pre⟩
  · obtain ⟨h1, h2, o, h3⟩ := X.priv b hb
    exact ⟨h1, h2, ex b o h3⟩
  · obtain ⟨⟨v, o, e1, e2⟩, e3⟩ := X.live c hc
    exact ⟨⟨v, o, hL c hc _ e1, e2⟩, e3⟩
  · obtain ⟨v', e1, e2⟩ := hm y dy e
    exact ⟨v', e1.mono hL, e2⟩
  · obtain ⟨q1, o, q2⟩ := X.ro p hq
    exact ⟨q1.sameBut hs (fun e => by { have := (X.priv _ X.ok.loc).2.1; rw [e, this] at q2; cases q2 }), o, q2⟩
theorem EvX.metX {f fc : Addr} {name qual nc qc : Str} {doc pm cdv ct dc pc cdc ctc : Value} {an ac : Option Addr} {x : Str} {p pos : Pos} {e : Expr} {n : Nat} {prs : Prs} {oth : Mu} (hF : FnF C.G.hb.get? f (fdN 13 name qual .none .none doc pm an cdv ct)) (hk : C.env.kindOf x = some .globalImplicit) (hv : C.G.mg x = some (.ref f)) (hxd : (x == ("__debug__" : Str)) = false)
    (hc : C.G.mg "_c3_merge" = some (.ref fc)) (hFc : FnF C.G.hb.get? fc (fdN 4 nc qc .none .none dc pc ac cdc ctc)) (hR1 : C.G.mg "RuntimeError" = none) (hR2 : C.G.mb "RuntimeError" = some (.type "RuntimeError"))
    (hfr : C.A.frames = some [C.env]) (hfl : C.env.frame = some C.env.locals) (hn : n + 2 ≤ C.rm) (he : Ev C σ e (.list (refs prs))) (hσ : σ.mu.Perm (ent prs ++ oth)) (hz : prs.length ≤ 1000) (hz2 : ∀ p ∈ prs, p.2.length ≤ 1000) (hol : (mrg (rowsOf prs)).1.length ≤ 1000) (hx : ∃ r ∈ (mrg (rowsOf prs)).2, r ≠ [])
    (hs : starEach [e] C.env = [(false, eval e C.env)] := by rfl) :
    EvX C σ (.Call (.Name x p) [e] [] pos) (fun d mu => ∃ a cur, d = .ref a ∧ rowsOf cur = (mrg (rowsOf prs)).2 ∧ cur.map (·.1) = prs.map (·.1) ∧ mu = ((a, .list []) :: ent cur) ++ oth) := fun K F s Q E X hQ => by
  refine wpAny_Call_NameR (gName X hk hv ?_ hxd)
  obtain ⟨⟨of, hf1, hf2⟩, _⟩ := id hF
  rw [hs]
  refine callWith_function (o := of) (fd := fdN 13 name qual .none .none doc pm an cdv ct) (Calls.evalArgs_plain (Calls.spliced_cons (he K F s _ _ X fun F2 v2 s2 X2 g2 r2 => Calls.spliced_nil ?_)))
  refine ⟨⟨X2.am.frz _ _ (X2.am.base _ _ hf1), hf2⟩, ?_⟩
  have X2p := X2.perm hσ.symm
  obtain ⟨m0, ⟨oL, es, ep, eL, dL, _⟩, _⟩ := X2.loc
  have hpl := X2.priv _ X2.ok.loc
  have hLp : C.env.locals ∉ (ent prs).map (·.1) := fun hm => by
    obtain ⟨q, hq, e⟩ := List.mem_map.mp hm
    exact X2p.pmu q (List.mem_append_left _ hq) (e ▸ X2.ok.loc)
  have hL : full F2 s2.heap ((ent prs).map (·.1)) C.env.locals = some oL := full_of hpl.1 hLp eL
  have hK : FrmK [C.env] (full F2 s2.heap ((ent prs).map (·.1))) F2 := fun env he => by
    obtain rfl := List.mem_singleton.mp he
    exact ⟨by rw [X2.ok.fn]; nofun, _, oL, hfl, hL, fun vs q => by rw [dL] at q; cases q⟩
  refine met_catch (n := n) hF hc hFc hR1 hR2 hfr (X2.ok.rm.mono hn) hK (X2p.am.leave rfl) r2 hz hz2 hol hx fun F' s' a cur c1 c2 A' g3 hfin => ?_
  obtain ⟨⟨sl, q1⟩, q2, q3⟩ := hfin C.env (.head _) _ _ hfl hL
  have hsb : Heap.SameBut C.env.locals s2.heap (s2.heap.update C.env.locals fun o => { o with slots := sl }) := Heap.SameBut.update ..
  have hup : (s2.heap.update C.env.locals fun o => { o with slots := sl }).get? C.env.locals = some { oL with slots := sl } := Heap.get?_update_self _ eL ((kts_isFreed oL sl).trans (Heap.get?_some_iff.mp eL).2)
  have X3 := X2p.slotsL (t := s2.toks) hsb eL hup
  generalize s2.heap.update C.env.locals (fun o => { o with slots := sl }) = h3 at *
  have A3 : Am C.G (full F2 h3 ((ent prs).map (·.1))) ((a, .list []) :: ent cur) F' s' := by
    have kk : ∀ b o, full F2 h3 ((ent prs).map (·.1)) b = some o → b ≠ C.env.locals → lessF [C.env] (full F2 s2.heap ((ent prs).map (·.1))) b = some o := fun b o e n => by
      obtain ⟨p1, p2, p3⟩ := full_some e
      unfold lessF
      rw [if_neg]
      · exact full_of p1 p2 ((hsb.2 b n).symm.trans p3)
      · intro hm
        obtain ⟨env, he, hf⟩ := List.mem_filterMap.mp hm
        obtain rfl := List.mem_singleton.mp he
        rw [hfl] at hf; cases hf; exact n rfl
    refine ⟨A'.ok, A'.base, A'.frz, fun b o e => ?_, fun b o e => ?_, fun p hp => ⟨(A'.mus p hp).1, (A'.mus p hp).2.1, ?_⟩, A'.nd, A'.gens, A'.drawn, A'.os⟩
    · by_cases n : b = C.env.locals
      · subst n; exact q2
      · exact A'.dis _ _ (kk b o e n)
    · by_cases n : b = C.env.locals
      · subst n
        rw [(full_some e).2.2] at hup
        cases hup; exact q1
      · exact A'.keep _ _ (kk b o e n)
    · cases z : full F2 h3 ((ent prs).map (·.1)) p.1 with
      | none => rfl
      | some o => have := kk _ _ z (q3 p hp); rw [(A'.mus p hp).2.2] at this; cases this
  have B := X3.back (pas := ent prs) (oth := oth) rfl A3 g3
  exact hQ F' (.ref a) s' (.ref a) _ ⟨a, cur, rfl, c1, c2, rfl⟩ B (g2.trans g3) (.ref a)
end
end Mine
end

section
namespace Mine
noncomputable abbrev Wd := List Int
noncomputable abbrev Tie := List (List Bool)
noncomputable def Let (a : Int) : Prop := 0 ≤ a ∧ a < 4
noncomputable def WdOk (w : Wd) : Prop := ∀ a ∈ w, Let a
noncomputable def tie (T : Tie) (a b : Int) : Bool := (T.getD a.toNat []).getD b.toNat false
structure TieOk (T : Tie) : Prop where
  len : T.length = 4
  row : ∀ r ∈ T, r.length = 4
  self : ∀ a, Let a → tie T a a = true
  sym : ∀ a b, Let a → Let b → tie T a b = tie T b a
noncomputable def numGo : List Int → Wd → List Int
  | _, [] => []
  | s, a :: w => (a + 4 * s.getD a.toNat 0) :: numGo (s.set a.toNat (s.getD a.toNat 0 + 1)) w
noncomputable def numW (w : Wd) : List Int := numGo [0, 0, 0, 0] w
noncomputable def pairsI : List (Int × Int) := [(0, 1), (0, 2), (0, 3), (1, 2), (1, 3), (2, 3)]
noncomputable def ownR (t : List Int) (a : Int) : List Int := t.filter fun x => x.fmod 4 == a
noncomputable def pairR (t : List Int) (p : Int × Int) : List Int := t.filter fun x => x.fmod 4 == p.1 || x.fmod 4 == p.2
noncomputable def rowsT (T : Tie) (t : List Int) : List (List Int) := ([0, 1, 2, 3].map (ownR t)) ++ ((pairsI.filter fun p => tie T p.1 p.2).map (pairR t))
noncomputable def rowsW (T : Tie) (w : Wd) : List (List Int) := rowsT T (numW w)
noncomputable def layW (T : Tie) : Wd → Int → Wd
  | [], a => [a]
  | b :: w, a => if (b :: w).any (tie T a) || decide (b < a) then b :: layW T w a else a :: b :: w
noncomputable def leastW (T : Tie) (w : Wd) : Wd := w.foldl (layW T) []
noncomputable def stepA (T : Tie) (w : Wd) (st : List Int) (a : Int) : Int := (w.zip st).foldl (fun s p => if tie T a p.1 && decide (s ≤ p.2) then p.2 + 1 else s) 0
noncomputable def stepsW (T : Tie) (w : Wd) : List Int := w.foldl (fun st a => st ++ [stepA T w st a]) []
noncomputable def keyP (p : Int × Int) : Int := 4 * p.1 + p.2
noncomputable def SrtOk (T : Tie) (w s : Wd) : Prop := ∃ q : List (Int × Int), q.Perm ((stepsW T w).zip w) ∧ q.Pairwise (fun u v => keyP u ≤ keyP v) ∧ s = q.map (·.2)
noncomputable def strike (T : Tie) (a : Int) : Wd → Option Wd
  | [] => none
  | b :: r => if tie T a b then (if b = a then some r else none) else (strike T a r).map (b :: ·)
noncomputable def alikeW (T : Tie) : Wd → Wd → Bool
  | [], r => r.isEmpty
  | a :: w, r => match strike T a r with
    | none => false
    | some r' => alikeW T w r'
noncomputable def halve : Nat → Int → Int
  | 0, b => b
  | k + 1, b => (halve k b).fdiv 2
noncomputable def bitI (k : Nat) (b : Int) : Bool := (halve k b).fmod 2 == 1
noncomputable def tiesW (b : Int) : Tie := [[true, bitI 0 b, bitI 1 b, bitI 2 b], [bitI 0 b, true, bitI 3 b, bitI 4 b], [bitI 1 b, bitI 3 b, true, bitI 5 b], [bitI 2 b, bitI 4 b, bitI 5 b, true]]
noncomputable def swapAt (o : Wd) (p : Nat) : Wd := o.take p ++ [o.getD (p + 1) 0, o.getD p 0] ++ o.drop (p + 2)
noncomputable def swapW (w : Wd) (script : List Int) : Wd := (List.range (w.length - 1)).foldl (fun o p => if ((script.getD p 0).fdiv 4).fmod 2 == 1 then swapAt o p else o) w
noncomputable def mixG {α : Type} : Int → List α → List α → List α
  | t, o :: os, w :: ws => (if t.fmod 2 == 0 then w else o) :: mixG (t + 1) os ws
  | _, _, _ => []
noncomputable abbrev mixW (t : Int) (a b : List (List Int)) : List (List Int) := mixG t a b
structure OneOk (T : Tie) (w : Wd) : Prop where
  mrg : mrg (rowsW T w) = (numW (leastW T w), (rowsW T w).map fun _ => [])
  rows : rowsW T (leastW T w) = rowsW T w
  srt : ∀ s, SrtOk T w s → rowsW T s = rowsW T w ∧ leastW T s = leastW T w
structure MixOk (T : Tie) (m : List (List Int)) : Prop where
  done : (∀ r ∈ (mrg m).2, r = []) → (mrg m).1 = numW ((mrg m).1.map fun x => x.fmod 4) ∧ rowsW T ((mrg m).1.map fun x => x.fmod 4) = m ∧ leastW T ((mrg m).1.map fun x => x.fmod 4) = (mrg m).1.map fun x => x.fmod 4
  left : (∃ r ∈ (mrg m).2, r ≠ []) → ∀ (i : Nat) (l w : List Int), (mrg m).2[i]? = some l → m[i]? = some w → l.length ≤ w.length ∧ l = w.drop (w.length - l.length) ∧ (l ≠ [] → l.headD 0 ∈ (mrg m).2.flatMap List.tail)
  tails : (∃ r ∈ (mrg m).2, r ≠ []) → (mrg m).2.flatMap List.tail ≠ []
structure Law1 (T : Tie) (w o : Wd) (t : Int) : Prop where
  one : OneOk T w
  two : OneOk T o
  least : (leastW T w = leastW T o) ↔ alikeW T w o = true
  srt : ∀ s s', SrtOk T w s → SrtOk T o s' → (s = s' ↔ alikeW T w o = true)
  mix : MixOk T (mixW t (rowsW T w) (rowsW T o))
noncomputable def drawn1 (script : List Int) : Wd := (script.take 9).map fun x => x.fmod 4
noncomputable def LawOk1 (script : List Int) : Prop := Law1 (tiesW (script.sum.fmod 64)) (drawn1 script) (swapW (drawn1 script) script) script.sum
end Mine
end

section
set_option Elab.async false
set_option linter.unusedVariables false
set_option linter.unusedSimpArgs false
set_option maxRecDepth 100000
namespace Mine
open PySem PySem.W PyProof.Rows PySem.Calls
noncomputable abbrev tsD (T : Tie) : D := .list (T.map fun r => .list (bs r))
theorem zs_getT (l : List Int) {a : Int} (h : Let a) (hl : l.length = 4) : (zs l)[a.toNat]? = some (.int (l.getD a.toNat 0)) := zs_get l (by have := h.1; have := h.2; lia)
theorem numGo_drop {s : List Int} {w : Wd} {k : Nat} {a : Int} (h : w[k]? = some a) : numGo s (w.drop k) = (a + 4 * s.getD a.toNat 0) :: numGo (s.set a.toNat (s.getD a.toNat 0 + 1)) (w.drop (k + 1)) := by
  obtain ⟨hk, rfl⟩ := List.getElem?_eq_some_iff.mp h
  rw [← List.getElem_cons_drop (h := hk), numGo]
section
variable {C : Cx} {σ : St} {Φ : Out → St → Prop}
theorem Ev.tie {e ea eb : Expr} {p1 p2 : Pos} {T : Tie} {a b : Int} (h4 : T.length = 4 ∧ ∀ r ∈ T, r.length = 4) (ha : Let a) (hb : Let b) (he : Ev C σ e (tsD T)) (h1 : Ev C σ ea (.int a)) (h2 : Ev C σ eb (.int b))
    (ho1 : ∀ x t, subscripted ea false (.ref x) (.int a t) = operate [.ref x, .int a t] (getItem (.ref x) (.int a t)) := by intro _ _; with_unfolding_all rfl) (ho2 : ∀ x t, subscripted eb false (.ref x) (.int b t) = operate [.ref x, .int b t] (getItem (.ref x) (.int b t)) := by intro _ _; with_unfolding_all rfl) :
    Ev C σ (.Subscript (.Subscript e ea p1) eb p2) (.bool (Mine.tie T a b)) := by
  obtain ⟨a0, a4⟩ := ha
  obtain ⟨b0, b4⟩ := hb
  have hk : a.toNat < T.length := by rw [h4.1]; lia
  have hr : T[a.toNat].length = 4 := h4.2 _ (List.getElem_mem hk)
  have hkb : b.toNat < T[a.toNat].length := by rw [hr]; lia
  refine Ev.idx (d := .list (bs T[a.toNat])) (Ev.idx (d := tsD T) he Items.list h1 a0 (by rw [List.getElem?_map, List.getElem?_eq_getElem hk]; rfl) ho1) Items.list h2 b0 ?_ ho2
  rw [List.getElem?_map, List.getElem?_eq_getElem hkb]
  simp [Mine.tie, hk, hkb]
end
section
variable {G : Gx} {f fc : Addr} {name qual : Str} {doc pm cdv ct : Value} {an : Option Addr}
noncomputable abbrev nuCx (G : Gx) (A : Around) (name qual : Str) (doc pm cdv ct : Value) (an : Option Addr) (f L : Addr) (n : Nat) (P : Pred) : Cx := fnCx G A (fdN 6 name qual .none .none doc pm an cdv ct) f L n P
theorem num_body {A : Around} {L : Addr} {n : Nat} {P : Pred} {w : Wd} (hw : WdOk w) (hz : w.length ≤ 1000) :
    WP (nuCx G A name qual doc pm cdv ct an f L n P) { vars := [("word", .list (zs w))], mu := [] } (bo 6) (Fin fun d _ => d = .list (zs (numW w))) := by
  refine WP.setX (.inl rfl) (EvN.list (ds := zs [0, 0, 0, 0]) (EvL.cons Ev.int (EvL.cons Ev.int (EvL.cons Ev.int (EvL.cons Ev.int EvL.nil)))) (by simp)) ?_
  rintro d mu ⟨sa, rfl, rfl⟩
  refine WP.setX (.inl rfl) (EvN.list (ds := []) EvL.nil (by simp)) ?_
  rintro d mu ⟨ta, rfl, rfl⟩
  refine WP.for (d := .list (zs w)) (ds := zs w) (fun k σ => ∃ s t : List Int, t.length = k ∧ t ++ numGo s (w.drop k) = numW w ∧ s.length = 4 ∧ σ.mu = [(ta, .list (zs t)), (sa, .list (zs s))] ∧ σ.v "seen" = some (.ref sa) ∧ σ.v "told" = some (.ref ta))
    (Ev.name rfl) (.inl rfl) ⟨[0, 0, 0, 0], [], rfl, rfl, rfl, rfl, rfl, rfl⟩ (fun d σ => σ.set "a" d) (fun _ _ _ => rfl) (fun _ _ => rfl) (fun d σ => Asg.local rfl) (fun k d σ hk hI => ?_) (fun σ hI => ?_)
  · obtain ⟨s, t, h0, h1, h2, h3, h4, h5⟩ := hI
    have hk' : k < w.length := by have := (List.getElem?_eq_some_iff.mp hk).1; rwa [zs_length] at this
    rw [zs_get w hk'] at hk
    cases hk
    have ha : Let (w.getD k 0) := by
      have : w.getD k 0 = w[k] := by simp [hk']
      rw [this]; exact hw _ (List.getElem_mem hk')
    have hg : w[k]? = some (w.getD k 0) := by simp [hk']
    generalize w.getD k 0 = a at ha hg
    have hst := numGo_drop (s := s) hg
    have iS : ∀ m vars, Items (nuCx G A name qual doc pm cdv ct an f L n P) { vars := vars, mu := [(ta, MO.list m), (sa, .list (zs s))] } (.ref sa) (zs s) := fun m vars => Items.mu (.tail _ (.head _))
    refine WP.exprX (EvX.append (a := ta) (ds := zs t) (e := .int (a + 4 * s.getD a.toNat 0)) (mu' := [(ta, .list (zs t ++ [.int (a + 4 * s.getD a.toNat 0)])), (sa, .list (zs s))]) (Ev.name h5) (Ev.bin (Ev.name (d := .int a) rfl) (Ev.bin Ev.int (Ev.idx (d := .ref sa) (Ev.name h4) (Items.mu (by show (sa, MO.list (zs s)) ∈ σ.mu; rw [h3]; exact .tail _ (.head _))) (Ev.name (d := .int a) rfl) ha.1 (zs_getT s ha h2)) (Op.mul (PySem.IntMulOk.of_left (PySem.intBits_le_64 (by lia) (by lia))))) Op.add) (by show MuSet σ.mu _ _ _ _; rw [h3]; exact .head) (by rw [zs_length]; lia)) ?_
    rintro d mu ⟨rfl, rfl⟩
    refine WP.setItem (a := sa) (k := a) (d := .int (s.getD a.toNat 0 + 1)) (ds := zs s) (mu' := [(ta, .list (zs t ++ [.int (a + 4 * s.getD a.toNat 0)])), (sa, .list (zs (s.set a.toNat (s.getD a.toNat 0 + 1))))]) (Ev.bin (Ev.idx (d := .ref sa) (Ev.name h4) (iS _ _) (Ev.name (d := .int a) rfl) ha.1 (zs_getT s ha h2)) Ev.int Op.add) (Ev.name h4) (Ev.name rfl) ha.1 (by rw [zs_length, h2]; have := ha.1; have := ha.2; lia) ?_ ?_
    · rw [zs_set]; exact .tail .head
    · refine WP.nil ⟨s.set a.toNat (s.getD a.toNat 0 + 1), t ++ [a + 4 * s.getD a.toNat 0], by simp [h0], ?_, by simp [h2], by rw [zs_snoc]; rfl, h4, h5⟩
      rw [← h1, hst]; simp
  · obtain ⟨s, t, h0, h1, h2, h3, h4, h5⟩ := hI
    rw [zs_length, List.drop_length] at h1
    have h1' : t = numW w := by rw [← h1]; simp [numGo]
    refine WP.nil (WP.frz [("told", .list (zs t))] (a := ta) (ds := zs t) (mu := [(sa, .list (zs s))]) h3 (List.forall_mem_cons.mpr ⟨.inr ⟨h5, rfl⟩, by simp⟩) (WP.ret (Ev.name rfl) ?_))
    exact congrArg (fun l => D.list (zs l)) h1'
theorem num_sem {n : Nat} {P : Pred} {w : Wd} (hmon : P.Mon) (hF : FnF G.hb.get? f (fdN 6 name qual .none .none doc pm an cdv ct)) (hw : WdOk w) (hz : w.length ≤ 1000) : CallSem G (n + 1) P f [] [.list (zs w)] (Pure (.list (zs (numW w)))) := by
  refine CallSem.pure (call_fn (fd := fdN 6 name qual .none .none doc pm an cdv ct) (ns := ["word"]) (body := bo 6) hmon ⟨rfl, fun s vs hb h => ?_, by decide, rfl, rfl, rfl, rfl, rfl⟩ (fun K F hb _ => hF.mono hb) (show ∀ x ∈ (sc 6).names, _ by decide) (show ∀ x ∈ (["word"] : List Str), (sc 6).names.lookup x = _ by decide) [] (fun K F _ => ⟨fun x hx => (nomatch hx), fun x d h => (nomatch h)⟩) List.Pairwise.nil (by simp) fun A L hr => ?_)
  · match vs, h with
    | [a], _ => exact BindsTo.of_eq rfl
  · exact num_body hw hz
end
end Mine
end

section
set_option Elab.async false
set_option linter.unusedVariables false
set_option linter.unusedSimpArgs false
set_option maxRecDepth 100000
namespace Mine
open PySem PySem.W PyProof.Rows PySem.Calls
theorem compOkE {C : Cx} {scope : Scope} {cl : List (Str × Addr)} (h1 : closureFor scope C.env = pure cl) (h2 : scope.kind = .function) (h3 : ∀ y ∈ scope.names, y.2 = .local → scope.names.lookup y.1 = some .local) (h4 : ∀ x ∈ cl, C.env.cells.lookup x.1 = some x.2) (h5 : cl.Pairwise fun x y => x.1 ≠ y.1) (h6 : ∀ y ∈ scope.names, y.2 = .cell → scope.names.lookup y.1 ≠ some .free) : CompOk C scope cl :=
  ⟨h1, h2, h3, fun x c h => h4 (x, c) (mem_of_lookup h), fun x h => mem_of_lookup (h4 x h), h5, fun y hy hm => h6 _ hm rfl hy⟩
theorem ent_zip : ∀ prs : Prs, ent prs = zipMu (prs.map (·.1)) ((rowsOf prs).map zs)
  | [] => rfl
  | x :: l => congrArg (List.cons _) (ent_zip l)
theorem fresh_prs {σ : St} {t : List (List Int)} {d : D} {mu : Mu} (h : FreshL σ (t.map zs) d mu) : ∃ a prs, rowsOf prs = t ∧ d = .ref a ∧ mu = (a, .list (refs prs)) :: (ent prs ++ σ.mu) := by
  obtain ⟨a, as, hl, rfl, rfl⟩ := h
  rw [List.length_map] at hl
  exact ⟨a, pairUp as t, pair_rows hl, rfl, by rw [pair_refs hl, pair_ent]⟩
theorem prs_len {prs : Prs} {t : List (List Int)} (h : rowsOf prs = t) : prs.length = t.length := by rw [← h]; exact (List.length_map _).symm
theorem refs_lenU (prs : Prs) : (refs prs).length = prs.length := List.length_map _
noncomputable def off : Nat → Nat
  | 0 => 0
  | 1 => 3
  | 2 => 5
  | _ => 6
theorem off_at : ∀ k, k < 4 → ∀ j, j < 3 - k → pairsI[off k + j]? = some ((k : Int), (k : Int) + 1 + j) := by decide
theorem off_next : ∀ k, k < 4 → off k + (3 - k) = off (k + 1) := by decide
theorem take_pair {α : Type} {l : List α} {n : Nat} {x : α} (h : l[n]? = some x) : l.take (n + 1) = l.take n ++ [x] := by rw [List.take_add_one, h]; rfl
theorem rints_at {lo hi : Int} {j : Nat} {d : D} (h : (rints lo hi)[j]? = some d) : j < (hi - lo).toNat ∧ d = .int (lo + j) := by
  have hj := (List.getElem?_eq_some_iff.mp h).1
  have hj' : j < (hi - lo).toNat := by simpa [rints] using hj
  refine ⟨hj', ?_⟩
  rw [rints, List.getElem?_map, List.getElem?_range hj'] at h
  simpa using h.symm
section
variable {G : Gx} {f fc : Addr} {name qual : Str} {doc pm cdv ct : Value} {an : Option Addr}
noncomputable abbrev roCx (G : Gx) (A : Around) (name qual : Str) (doc pm cdv ct : Value) (an : Option Addr) (f L : Addr) (n : Nat) (P : Pred) : Cx := fnCxC G A (fdN 7 name qual .none .none doc pm an cdv ct) f L n P
structure RowI (T : Tie) (t : List Int) (ra : Addr) (m : Nat) (σ : St) : Prop where
  rows : ∃ prs, rowsOf prs = ([0, 1, 2, 3].map (ownR t)) ++ (((pairsI.take m).filter fun p => tie T p.1 p.2).map (pairR t)) ∧ σ.mu = (ra, .list (refs prs)) :: ent prs
  v1 : σ.v "rows" = some (.ref ra)
  v2 : σ.v "ties" = some (tsD T)
  v3 : σ.v "told" = some (.list (zs t))
theorem rows_body {A : Around} {L : Addr} {n : Nat} {P : Pred} {w : Wd} {T : Tie} (B : Bt G) (h4 : T.length = 4 ∧ ∀ r ∈ T, r.length = 4) (hz : (numW w).length ≤ 1000) (hc : G.mg "_law_numbers" = some (.ref fc)) (hs : CallSem G n P fc [] [.list (zs w)] (Pure (.list (zs (numW w))))) :
    WP (roCx G A name qual doc pm cdv ct an f L n P) { vars := [("word", .list (zs w)), ("ties", tsD T)], mu := [] } (bo 7) (Fin fun d mu => ∃ prs, rowsOf prs = rowsW T w ∧ d = .list (refs prs) ∧ mu = ent prs) := by
  refine WP.set (x := "told") (d := .list (zs (numW w))) (.inr ⟨rfl, L + 1, rfl, by show L + 1 ∈ [L, L + 3, L + 2, L + 1]; simp⟩) (Ev.call (Ev.glob rfl hc) (EvL.cons (Ev.name (d := .list (zs w)) rfl) EvL.nil) hs (Nat.le_refl _) (fun K F s X => X.preFull (by simp))) ?_
  have hrw : rowsW T w = rowsT T (numW w) := rfl
  rw [hrw]
  generalize numW w = t at hz
  refine WP.setC rfl (EvC.fresh (scope := _) (nats 4) D.int (fun _ => true) (fun i => zs (ownR t i)) (compOkE rfl rfl (by decide) (fun x hx => by obtain rfl := List.mem_singleton.mp hx; rfl) (List.pairwise_singleton _ _) (by decide)) (.inr rfl)
    (Ev.range ⟨rfl, B.range.1, B.range.2, rfl⟩ Ev.int) (by rw [show (nats 4).map D.int = rints 0 4 from (rints_nats 4).symm]; exact ItD.rng (by lia)) (by decide) fun L' nm i hi => ⟨rfl, fun _ => ?_⟩) ?_
  · refine EvN.cast (EvC.ev (EvC.plain (scope := _) t D.int (fun x => x.fmod 4 == i) D.int (compOkF rfl rfl (by decide) (fun x hx => by obtain rfl := List.mem_singleton.mp hx; rfl) (List.pairwise_singleton _ _) (by decide)) (.inl rfl) (Ev.name (d := .list (zs t)) rfl) ItD.list (by lia) fun L2 x hx => ⟨?_, fun hp => Ev.name rfl⟩)) rfl
    exact EvT.cmp (Ev.bin (Ev.name (d := .int x) rfl) Ev.int (Op.mod (by decide))) (Ev.name (d := .int i) rfl) Cm.eq
  rintro d mu hF
  rw [filter_tr] at hF
  obtain ⟨ra, prs0, hp0, rfl, rfl⟩ := fresh_prs (t := [0, 1, 2, 3].map (ownR t)) (by simpa [nats, List.range_succ] using hF)
  refine WP.for (d := .rng 0 4) (ds := rints 0 4) (fun k σ => RowI T t ra (off k) σ) (Ev.range ⟨rfl, B.range.1, B.range.2, rfl⟩ Ev.int) (.inr ⟨0, 4, rfl, rfl, by lia⟩) ⟨⟨prs0, by rw [hp0]; rfl, by simp [St.set, St.setMu]⟩, rfl, rfl, rfl⟩ (fun d σ => σ.set "a" d) (fun _ _ _ => rfl) (fun _ _ => rfl)
    (fun d σ => Asg.cell rfl (c := L + 2) rfl (by show L + 2 ∈ [L, L + 3, L + 2, L + 1]; simp)) (fun k d σ hk hI => ?_) (fun σ hI => ?_)
  · obtain ⟨hk4, rfl⟩ := rints_at hk
    have hk4 : k < 4 := hk4
    rw [Int.zero_add]
    refine WP.for (d := .rng ((k : Int) + 1) 4) (ds := rints ((k : Int) + 1) 4) (fun j σ => RowI T t ra (off k + j) σ ∧ σ.v "a" = some (.int k)) (Ev.of_just (EvX.call2 (.inr ⟨_, rfl⟩) ⟨rfl, B.range.1, B.range.2, rfl⟩ (Ev.bin (Ev.name (d := .int k) rfl) Ev.int Op.add) Ev.int C2.range)) (.inr ⟨_, _, rfl, rfl, by lia⟩) ⟨⟨hI.rows, hI.v1, hI.v2, hI.v3⟩, rfl⟩ (fun d σ => σ.set "b" d) (fun _ _ _ => rfl) (fun _ _ => rfl)
      (fun d σ => Asg.cell rfl (c := L + 3) rfl (by show L + 3 ∈ [L, L + 3, L + 2, L + 1]; simp)) (fun j d σ hj hJ => ?_) (fun σ hJ => ?_)
    · obtain ⟨hj4, rfl⟩ := rints_at hj
      have hj4 : j < 3 - k := by lia
      have hat := off_at k hk4 j hj4
      obtain ⟨⟨⟨prs, hp, hm⟩, v1, v2, v3⟩, va⟩ := hJ
      have hlen : prs.length ≤ 10 := by
        rw [prs_len hp]
        have h1 := List.length_filter_le (fun p : Int × Int => tie T p.1 p.2) (pairsI.take (off k + j))
        have h2 : (pairsI.take (off k + j)).length ≤ 6 := by rw [List.length_take]; exact Nat.le_trans (Nat.min_le_right _ _) (by decide)
        simp only [List.length_append, List.length_map, List.length_cons, List.length_nil]
        lia
      generalize hb : (k : Int) + 1 + j = b at hat
      have ha4 : Let (k : Int) := ⟨by lia, by lia⟩
      have hb4 : Let b := ⟨by lia, by lia⟩
      refine WP.ifs (b := tie T k b) (EvT.bool (Ev.tie h4 ha4 hb4 (Ev.name (d := tsD T) v2) (Ev.name (d := .int k) va) (Ev.name (d := .int b) rfl))) (fun ht => ?_) (fun ht => WP.nil (WP.nil ?_))
      · refine WP.keep [("b", .int b), ("rows", .ref ra), ("ties", tsD T), ("told", .list (zs t)), ("a", .int k)] (List.forall_mem_cons.mpr ⟨rfl, List.forall_mem_cons.mpr ⟨v1, List.forall_mem_cons.mpr ⟨v2, List.forall_mem_cons.mpr ⟨v3, List.forall_mem_cons.mpr ⟨va, by simp⟩⟩⟩⟩⟩) ?_
        show WP _ { vars := _, mu := σ.mu } _ _
        rw [hm]
        refine WP.exprX (EvX.appendX (a := ra) (ds := refs prs) (R' := fun mu => ∃ c, mu = (c, .list (zs (pairR t ((k : Int), b)))) :: (ra, .list (refs prs ++ [.ref c])) :: ent prs) (Ev.name rfl) (.head _)
          (EvC.ev (EvC.plain (scope := _) t D.int (fun x => x.fmod 4 == (k : Int) || x.fmod 4 == b) D.int (compOkF rfl rfl (by decide) (fun x hx => by simp only [List.mem_cons, List.not_mem_nil, or_false] at hx; rcases hx with rfl | rfl <;> rfl) (List.Pairwise.cons (fun y hy => by obtain rfl := List.mem_singleton.mp hy; show ("b" : Str) ≠ ("a" : Str); decide) (List.pairwise_singleton _ _)) (by decide)) (.inl rfl) (Ev.name (d := .list (zs t)) rfl) ItD.list (by lia) fun L2 x hx => ⟨?_, fun hp => Ev.name rfl⟩)) ?_ (by rw [refs_lenU]; lia)) ?_
        · exact EvT.or (EvT.cmp (Ev.bin (Ev.name (d := .int x) rfl) Ev.int (Op.mod (by decide))) (Ev.name (d := .int k) rfl) Cm.eq) fun _ => EvT.cmp (Ev.bin (Ev.name (d := .int x) rfl) Ev.int (Op.mod (by decide))) (Ev.name (d := .int b) rfl) Cm.eq
        · rintro e mu1 ⟨c, rfl, rfl⟩
          exact ⟨_, .tail .head, c, rfl⟩
        · rintro d mu ⟨rfl, c, rfl⟩
          refine WP.perm (mu' := (ra, .list (refs (prs ++ [(c, pairR t ((k : Int), b))]))) :: ent (prs ++ [(c, pairR t ((k : Int), b))])) ?_ (WP.nil (WP.nil ⟨⟨⟨_, ?_, rfl⟩, rfl, rfl, rfl⟩, rfl⟩))
          · rw [ent_append, show refs (prs ++ [(c, pairR t ((k : Int), b))]) = refs prs ++ [.ref c] from by simp [refs]]
            show List.Perm _ ((c, MO.list (zs (pairR t ((k : Int), b)))) :: (ra, .list (refs prs ++ [.ref c])) :: ent prs)
            refine List.Perm.trans (List.Perm.cons _ ?_) (List.Perm.swap ..)
            exact List.perm_append_singleton _ _
          · rw [Nat.add_succ, take_pair hat, List.filter_append, List.map_append, ← List.append_assoc, ← hp]
            simp [rowsOf, ht]
      · refine ⟨⟨⟨prs, ?_, hm⟩, v1, v2, v3⟩, va⟩
        rw [Nat.add_succ, take_pair hat, List.filter_append, List.map_append, ← List.append_assoc, ← hp]
        simp [ht]
    · refine WP.nil (WP.nil ?_)
      have e : off k + (rints ((k : Int) + 1) 4).length = off (k + 1) := by
        rw [← off_next k hk4, rints, List.length_map, List.length_range]
        congr 1; lia
      rw [← e]
      exact hJ.1
  · obtain ⟨⟨prs, hp, hm⟩, v1, v2, v3⟩ := hI
    refine WP.nil (WP.frz [("rows", .list (refs prs))] (a := ra) (ds := refs prs) (mu := ent prs) hm (List.forall_mem_cons.mpr ⟨.inr ⟨v1, rfl⟩, by simp⟩) (WP.ret (Ev.name rfl) ⟨prs, ?_, rfl, rfl⟩))
    rw [hp]
    rfl
theorem rows_sem {n : Nat} {P : Pred} {w : Wd} {T : Tie} (hmon : P.Mon) (hF : FnF G.hb.get? f (fdN 7 name qual .none .none doc pm an cdv ct)) (B : Bt G) (h4 : T.length = 4 ∧ ∀ r ∈ T, r.length = 4) (hz : (numW w).length ≤ 1000) (hc : G.mg "_law_numbers" = some (.ref fc)) (hs : CallSem G n P fc [] [.list (zs w)] (Pure (.list (zs (numW w))))) :
    CallSem G (n + 1) P f [] [.list (zs w), tsD T] (fun d mu => ∃ prs, rowsOf prs = rowsW T w ∧ d = .list (refs prs) ∧ mu = ent prs) := by
  refine call_fnC (fd := fdN 7 name qual .none .none doc pm an cdv ct) (ns := ["word", "ties"]) (body := bo 7) hmon ⟨rfl, fun s vs hb h => ?_, by decide, rfl, rfl, rfl, rfl, rfl⟩ (fun vs h => ?_) (fun K F hb _ => hF.mono hb) rfl (show ((cellsFrom 0 (sc 7).names []).map (·.1)).Nodup by decide) (show ∀ x ∈ (["word", "ties"] : List Str), (sc 7).names.lookup x = _ ∨ (sc 7).names.lookup x = _ by decide) fun A L hr => ?_
  · match vs, h with
    | [a, b], _ => exact BindsTo.of_eq rfl
  · match vs, h with
    | [a, b], _ => rfl
  · exact rows_body B h4 hz hc hs
end
section
variable {C : Cx} {σ : St}
theorem Ev.of_rows {e : Expr} {t : List (List Int)} (h : EvX C σ e fun d mu => ∃ prs, rowsOf prs = t ∧ d = .list (refs prs) ∧ mu = ent prs ++ σ.mu) : Ev C σ e (.list (zss t)) := fun K F s Q E X hQ =>
  h K F s Q E X fun F' v s' d mu ⟨prs, e0, e1, e2⟩ X' g r => by
    subst e0 e1 e2
    have he := ent_zip prs
    obtain ⟨F1, g1, X1, r1⟩ := Mo.freezeAll (as := prs.map (·.1)) (gs := (rowsOf prs).map zs) (mu := σ.mu) (by simp [rowsOf]) X' (by rw [← he]; rfl)
    refine hQ F1 v s' X1 (g.trans g1) ?_
    obtain ⟨a, o, vs, rfl, h1, h2, h3⟩ := r.list_inv
    have h3' : RepL F' vs ((prs.map (·.1)).map .ref) := by rw [List.map_map]; exact h3
    cases h3'.refs
    refine .list (g1 _ _ h1) h2 ?_
    have e : List.map Mine.D.list (List.map zs (rowsOf prs)) = zss (rowsOf prs) := by rw [List.map_map]; rfl
    rw [e] at r1
    exact r1
end
end Mine
end

section
namespace Mine
theorem getD_at {l : List Int} {i : Nat} (h : i < l.length) : l.getD i 0 = l[i] := by rw [List.getD_eq_getElem?_getD, List.getElem?_eq_getElem h]; rfl
theorem lay_at {T : Tie} {a : Int} : ∀ {w : Wd} {q p : Nat}, q ≤ p → p ≤ w.length → (∀ i, q ≤ i → i < w.length → tie T a (w.getD i 0) = false) → (q = 0 ∨ tie T a (w.getD (q - 1) 0) = true) → (∀ i, q ≤ i → i < p → w.getD i 0 < a) → (p = w.length ∨ ¬ w.getD p 0 < a) →
    layW T w a = w.take p ++ a :: w.drop p
  | [], q, p, _, h2, _, _, _, _ => by
    have : p = 0 := by simpa using h2
    subst this; rfl
  | b :: w, q, p, h1, h2, h3, h4, h5, h6 => by
    unfold layW
    cases q with
    | zero =>
      have hn : (b :: w).any (tie T a) = false := by
        rw [List.any_eq_false]
        intro x hx
        obtain ⟨i, hi, rfl⟩ := List.getElem_of_mem hx
        have := h3 i (Nat.zero_le _) hi
        rw [getD_at hi] at this
        rw [this]; simp
      rw [hn, Bool.false_or]
      cases p with
      | zero =>
        have : ¬ b < a := by
          rcases h6 with h | h
          · simp at h
          · simpa using h
        simp [this]
      | succ p =>
        have hb : b < a := by simpa using h5 0 (Nat.le_refl _) (Nat.succ_pos _)
        have ih := lay_at (T := T) (a := a) (w := w) (q := 0) (p := p) (Nat.zero_le _) (by simpa using h2) (fun i _ hi => by simpa using h3 (i + 1) (Nat.zero_le _) (by simpa using hi)) (.inl rfl) (fun i _ hi => by simpa using h5 (i + 1) (Nat.zero_le _) (by lia)) (by simpa using h6)
        rw [if_pos (by simpa using hb), ih]
        simp
    | succ q =>
      obtain ⟨p, rfl⟩ : ∃ p', p = p' + 1 := ⟨p - 1, by lia⟩
      have ht : tie T a ((b :: w).getD q 0) = true := by
        rcases h4 with h | h
        · simp at h
        · simpa using h
      have hq : q < (b :: w).length := by lia
      have hy : (b :: w).any (tie T a) = true := by
        rw [List.any_eq_true]
        refine ⟨(b :: w)[q], List.getElem_mem hq, ?_⟩
        rw [← ht, getD_at hq]
      have ih := lay_at (T := T) (a := a) (w := w) (q := q) (p := p) (by lia) (by simpa using h2) (fun i h hi => by simpa using h3 (i + 1) (by lia) (by simpa using hi)) (by
        cases q with
        | zero => exact .inl rfl
        | succ q => exact .inr (by simpa using ht)) (fun i h hi => by simpa using h5 (i + 1) (by lia) (by lia)) (by simpa using h6)
      rw [hy, Bool.true_or, if_pos rfl, ih]
      simp
theorem strike_at {T : Tie} {a : Int} : ∀ {r : Wd} {p : Nat}, p ≤ r.length → (∀ i, i < p → tie T a (r.getD i 0) = false) → (p = r.length ∨ tie T a (r.getD p 0) = true) →
    strike T a r = if p < r.length ∧ r.getD p 0 = a then some (r.take p ++ r.drop (p + 1)) else none
  | [], p, h1, _, _ => by simp [strike]
  | b :: r, 0, _, _, h3 => by
    have hb : tie T a b = true := by
      rcases h3 with h | h
      · simp at h
      · simpa using h
    simp [strike, hb]
  | b :: r, p + 1, h1, h2, h3 => by
    have hb : tie T a b = false := by simpa using h2 0 (Nat.succ_pos _)
    have ih := strike_at (T := T) (a := a) (r := r) (p := p) (by simpa using h1) (fun i hi => by simpa using h2 (i + 1) (by lia)) (by simpa using h3)
    simp only [strike, hb, Bool.false_eq_true, if_false, ih]
    by_cases h : p < r.length ∧ r.getD p 0 = a
    · rw [if_pos h, if_pos ⟨by simpa using h.1, by simpa using h.2⟩]
      simp
    · rw [if_neg h, if_neg]
      · rfl
      · intro ⟨q1, q2⟩
        exact h ⟨by simpa using q1, by simpa using q2⟩
end Mine
end

section
set_option Elab.async false
set_option linter.unusedVariables false
set_option linter.unusedSimpArgs false
set_option maxRecDepth 100000
namespace Mine
open PySem PySem.W PyProof.Rows PySem.Calls
theorem WdOk.at {w : Wd} (h : WdOk w) {i : Nat} (hi : i < w.length) : Let (w.getD i 0) := by rw [getD_at hi]; exact h _ (List.getElem_mem hi)
theorem zs_getI (l : List Int) {i : Nat} {k : Int} (hk : k = i) (h : i < l.length) : (zs l)[k.toNat]? = some (.int (l.getD i 0)) := by subst hk; rw [Int.toNat_natCast]; exact zs_get l h
section
variable {G : Gx} {f fc : Addr} {name qual : Str} {doc pm cdv ct : Value} {an : Option Addr}
noncomputable abbrev laCx (G : Gx) (A : Around) (name qual : Str) (doc pm cdv ct : Value) (an : Option Addr) (f L : Addr) (n : Nat) (P : Pred) : Cx := fnCx G A (fdN 8 name qual .none .none doc pm an cdv ct) f L n P
theorem lay_body {A : Around} {L : Addr} {n : Nat} {P : Pred} {w : Wd} {T : Tie} {a : Int} (B : Bt G) (h4 : T.length = 4 ∧ ∀ r ∈ T, r.length = 4) (hw : WdOk w) (ha : Let a) (hz : w.length ≤ 1000) :
    WP (laCx G A name qual doc pm cdv ct an f L n P) { vars := [("word", .list (zs w)), ("a", .int a), ("ties", tsD T)], mu := [] } (bo 8) (Fin fun d _ => d = .list (zs (layW T w a))) := by
  have hlen : ∀ {σ q1 q2 q3}, σ.v "word" = some (.list (zs w)) → Ev (laCx G A name qual doc pm cdv ct an f L n P) σ (.Call (.Name "len" q1) [.Name "word" q2] [] q3) (.int w.length) := fun {σ q1 q2 q3} h => Ev.len (x := "len") ⟨rfl, B.len.1, B.len.2, rfl⟩ (Ev.name h) Items.list (k := w.length) (by rw [zs_length])
  refine WP.set (x := "place") (d := .int w.length) (.inl rfl) (hlen rfl) ?_
  refine WP.while (fun m σ => ∃ q : Nat, m = q ∧ q ≤ w.length ∧ (∀ i, q ≤ i → i < w.length → tie T a (w.getD i 0) = false) ∧ σ.mu = [] ∧ σ.v "place" = some (.int q) ∧ σ.v "word" = some (.list (zs w)) ∧ σ.v "a" = some (.int a) ∧ σ.v "ties" = some (tsD T)) w.length
    ⟨w.length, rfl, Nat.le_refl _, fun i h1 h2 => by lia, rfl, rfl, rfl, rfl, rfl⟩ ?_
  rintro q σ ⟨_, rfl, hq, hun, hmu, v1, v2, v3, v4⟩
  refine ⟨decide (0 < q) && !tie T a (w.getD (q - 1) 0), EvT.cast (EvT.and (EvT.cmp (Ev.name v1) Ev.int Cm.gt) fun h0 => EvT.not (EvT.bool (Ev.tie (b := w.getD (q - 1) 0) h4 ha (hw.at (by have := of_decide_eq_true h0; lia)) (Ev.name v4) (Ev.name v3) (Ev.idx (d := .list (zs w)) (Ev.name v2) Items.list (Ev.bin (Ev.name v1) Ev.int Op.sub) (by have := of_decide_eq_true h0; lia) (zs_getI w (i := q - 1) (by have := of_decide_eq_true h0; lia) (by have := of_decide_eq_true h0; lia)))))) (by simp), fun hb => ?_, fun hb => ?_⟩
  · simp only [Bool.and_eq_true, decide_eq_true_eq, Bool.not_eq_true'] at hb
    refine WP.set (x := "place") (d := .int (q - 1 : Nat)) (.inl rfl) (Ev.cast (Ev.bin (Ev.name v1) Ev.int Op.sub) (by congr 1; lia)) (WP.nil ⟨q - 1, by lia, q - 1, rfl, by lia, fun i h1 h2 => ?_, hmu, rfl, v2, v3, v4⟩)
    by_cases e : i = q - 1
    · subst e; exact hb.2
    · exact hun i (by lia) h2
  · have htie : q = 0 ∨ tie T a (w.getD (q - 1) 0) = true := by
      by_cases h : q = 0
      · exact .inl h
      · have h0 : decide (0 < q) = true := by simp; lia
        rw [h0, Bool.true_and] at hb
        exact .inr (by simpa using hb)
    refine WP.while (fun m σ => ∃ p : Nat, m = w.length - p ∧ q ≤ p ∧ p ≤ w.length ∧ (∀ i, q ≤ i → i < p → w.getD i 0 < a) ∧ σ.mu = [] ∧ σ.v "place" = some (.int p) ∧ σ.v "word" = some (.list (zs w)) ∧ σ.v "a" = some (.int a)) (w.length - q)
      ⟨q, rfl, Nat.le_refl _, hq, fun i h1 h2 => by lia, hmu, v1, v2, v3⟩ ?_
    rintro m σ ⟨p, rfl, hqp, hp, hle, hmu, v1, v2, v3⟩
    refine ⟨decide (p < w.length) && decide (w.getD p 0 < a), EvT.cast (EvT.and (EvT.cmp (Ev.name v1) (hlen v2) Cm.lt) fun h0 => EvT.cmp (Ev.idx (d := .list (zs w)) (Ev.name v2) Items.list (Ev.name v1) (by lia) (zs_getI w (i := p) rfl (by have := of_decide_eq_true h0; lia))) (Ev.name v3) Cm.lt) (by simp), fun hb => ?_, fun hb => ?_⟩
    · simp only [Bool.and_eq_true, decide_eq_true_eq] at hb
      refine WP.set (x := "place") (d := .int (p + 1 : Nat)) (.inl rfl) (Ev.cast (Ev.bin (Ev.name v1) Ev.int Op.add) (by congr 1)) (WP.nil ⟨w.length - (p + 1), by lia, p + 1, rfl, by lia, by lia, fun i h1 h2 => ?_, hmu, rfl, v2, v3⟩)
      by_cases e : i = p
      · subst e; exact hb.2
      · exact hle i h1 (by lia)
    · have hend : p = w.length ∨ ¬ w.getD p 0 < a := by
        by_cases h : p = w.length
        · exact .inl h
        · have h0 : decide (p < w.length) = true := by simp; lia
          rw [h0, Bool.true_and] at hb
          exact .inr (by simpa using hb)
      refine WP.ret (d := .list (zs (layW T w a))) (Ev.of_new (EvN.cast (EvX.bin (d1 := .list (zs (w.take p ++ [a]))) (d2 := .list (zs (w.drop p))) (Ev.of_new (EvN.cast (EvX.bin (d1 := .list (zs (w.take p))) (d2 := .list (zs [a])) (Ev.of_new (EvN.cast (EvN.upto (n := p) (Ev.name v2) Items.list (Ev.name v1)) (zs_take _ _))) (Ev.of_new (EvN.list (EvL.cons (Ev.name v3) EvL.nil) (by simp))) (OpN.concat Items.list Items.list (by rw [zs_length, zs_length, List.length_take]; simp; lia))) (zs_append _ _))) (Ev.of_new (EvN.cast (EvN.from (n := p) (Ev.name v2) Items.list (Ev.name v1)) (zs_drop _ _))) (OpN.concat Items.list Items.list (by rw [zs_length, zs_length]; simp; lia))) (by rw [zs_append, lay_at hqp hp hun htie hle hend]; simp))) rfl
theorem lay_sem {n : Nat} {P : Pred} {w : Wd} {T : Tie} {a : Int} (hmon : P.Mon) (hF : FnF G.hb.get? f (fdN 8 name qual .none .none doc pm an cdv ct)) (B : Bt G) (h4 : T.length = 4 ∧ ∀ r ∈ T, r.length = 4) (hw : WdOk w) (ha : Let a) (hz : w.length ≤ 1000) : CallSem G (n + 1) P f [] [.list (zs w), .int a, tsD T] (Pure (.list (zs (layW T w a)))) := by
  refine CallSem.pure (call_fn (fd := fdN 8 name qual .none .none doc pm an cdv ct) (ns := ["word", "a", "ties"]) (body := bo 8) hmon ⟨rfl, fun s vs hb h => ?_, by decide, rfl, rfl, rfl, rfl, rfl⟩ (fun K F hb _ => hF.mono hb) (show ∀ x ∈ (sc 8).names, _ by decide) (show ∀ x ∈ (["word", "a", "ties"] : List Str), (sc 8).names.lookup x = _ by decide) [] (fun K F _ => ⟨fun x hx => (nomatch hx), fun x d h => (nomatch h)⟩) List.Pairwise.nil (by simp) fun A L hr => ?_)
  · match vs, h with
    | [a, b, c], _ => exact BindsTo.of_eq rfl
  · exact lay_body B h4 hw ha hz
noncomputable abbrev swCx (G : Gx) (A : Around) (name qual : Str) (doc pm cdv ct : Value) (an : Option Addr) (f L : Addr) (n : Nat) (P : Pred) : Cx := fnCx G A (fdN 12 name qual .none .none doc pm an cdv ct) f L n P
theorem swapAt_len {o : Wd} {p : Nat} (h : p + 1 < o.length) : (swapAt o p).length = o.length := by simp [swapAt]; lia
noncomputable def swapK (w : Wd) (script : List Int) (k : Nat) : Wd := (List.range k).foldl (fun o p => if ((script.getD p 0).fdiv 4).fmod 2 == 1 then swapAt o p else o) w
theorem swapK_succ (w : Wd) (script : List Int) (k : Nat) : swapK w script (k + 1) = if ((script.getD k 0).fdiv 4).fmod 2 == 1 then swapAt (swapK w script k) k else swapK w script k := by
  unfold swapK
  rw [List.range_succ, List.foldl_append]; rfl
theorem swapK_len {w : Wd} {script : List Int} : ∀ k, k ≤ w.length - 1 → (swapK w script k).length = w.length
  | 0, _ => rfl
  | k + 1, h => by
    have ih := swapK_len (w := w) (script := script) k (by lia)
    rw [swapK_succ]
    split
    · rw [swapAt_len (by rw [ih]; lia), ih]
    · exact ih
theorem swap_body {A : Around} {L : Addr} {n : Nat} {P : Pred} {w : Wd} {script : List Int} (B : Bt G) (hz : w.length ≤ 1000) (hs : w.length ≤ script.length) :
    WP (swCx G A name qual doc pm cdv ct an f L n P) { vars := [("word", .list (zs w)), ("script", .list (zs script))], mu := [] } (bo 12) (Fin fun d _ => d = .list (zs (swapW w script))) := by
  refine WP.set (x := "other") (d := .list (zs w)) (.inl rfl) (Ev.of_new (EvN.copy (Ev.name (d := .list (zs w)) rfl) Items.list)) ?_
  refine WP.for (d := .rng 0 ((w.length : Int) - 1)) (ds := rints 0 ((w.length : Int) - 1)) (fun k σ => σ.mu = [] ∧ σ.v "other" = some (.list (zs (swapK w script k))) ∧ σ.v "script" = some (.list (zs script)))
    (Ev.range ⟨rfl, B.range.1, B.range.2, rfl⟩ (Ev.bin (Ev.len (x := "len") ⟨rfl, B.len.1, B.len.2, rfl⟩ (Ev.name (d := .list (zs w)) rfl) Items.list (k := w.length) (by rw [zs_length])) Ev.int Op.sub)) (.inr ⟨_, _, rfl, rfl, by lia⟩) ⟨rfl, rfl, rfl⟩ (fun d σ => σ.set "place" d) (fun _ _ _ => rfl) (fun _ _ => rfl) (fun d σ => Asg.local rfl) (fun k d σ hk hI => ?_) (fun σ hI => ?_)
  · obtain ⟨hm, v1, v2⟩ := hI
    obtain ⟨hk1, rfl⟩ := rints_at hk
    rw [Int.zero_add]
    have hk1 : k < w.length - 1 := by lia
    have hl := swapK_len (w := w) (script := script) k (by lia)
    have hnext := swapK_succ w script k
    generalize swapK w script k = o at v1 hl hnext
    refine WP.ifs (b := ((script.getD k 0).fdiv 4).fmod 2 == 1) (EvT.cmp (Ev.bin (Ev.bin (Ev.idx (d := .list (zs script)) (Ev.name v2) Items.list (Ev.name (d := .int k) rfl) (by lia) (zs_getI script (i := k) rfl (by lia))) Ev.int (Op.div (by decide) (by decide))) Ev.int (Op.mod (by decide))) Ev.int Cm.eq) (fun hb => ?_) (fun hb => ?_)
    · refine WP.set (x := "other") (d := .list (zs (swapAt o k))) (.inl rfl) (Ev.of_new (EvN.cast (EvX.bin (d1 := .list (zs (o.take k ++ [o.getD (k + 1) 0, o.getD k 0]))) (d2 := .list (zs (o.drop (k + 2)))) (Ev.of_new (EvN.cast (EvX.bin (d1 := .list (zs (o.take k))) (d2 := .list (zs [o.getD (k + 1) 0, o.getD k 0])) (Ev.of_new (EvN.cast (EvN.upto (n := k) (Ev.name v1) Items.list (Ev.name rfl)) (zs_take _ _)))
        (Ev.of_new (EvN.list (EvL.cons (Ev.idx (d := .list (zs o)) (Ev.name v1) Items.list (Ev.bin (Ev.name (d := .int k) rfl) Ev.int Op.add) (by lia) (zs_getI o (i := k + 1) (by lia) (by lia))) (EvL.cons (Ev.idx (d := .list (zs o)) (Ev.name v1) Items.list (Ev.name (d := .int k) rfl) (by lia) (zs_getI o (i := k) rfl (by lia))) EvL.nil)) (by simp))) (OpN.concat Items.list Items.list (by rw [zs_length, zs_length, List.length_take]; simp; lia))) (zs_append _ _)))
        (Ev.of_new (EvN.cast (EvN.from (n := k + 2) (Ev.name v1) Items.list (Ev.cast (Ev.bin (Ev.name (d := .int k) rfl) Ev.int Op.add) (by congr 1))) (zs_drop _ _))) (OpN.concat Items.list Items.list (by rw [zs_length, zs_length]; simp; lia))) (by rw [zs_append]; rfl))) (WP.nil (WP.nil ⟨hm, ?_, v2⟩))
      rw [hnext, if_pos hb]; rfl
    · refine WP.nil (WP.nil ⟨hm, ?_, v2⟩)
      rw [hnext, if_neg (by simpa using hb)]; exact v1
  · obtain ⟨hm, v1, v2⟩ := hI
    refine WP.nil (WP.ret (Ev.name v1) ?_)
    have e : (rints 0 ((w.length : Int) - 1)).length = w.length - 1 := by rw [rints, List.length_map, List.length_range]; lia
    rw [e]; rfl
theorem swap_sem {n : Nat} {P : Pred} {w : Wd} {script : List Int} (hmon : P.Mon) (hF : FnF G.hb.get? f (fdN 12 name qual .none .none doc pm an cdv ct)) (B : Bt G) (hz : w.length ≤ 1000) (hs : w.length ≤ script.length) : CallSem G (n + 1) P f [] [.list (zs w), .list (zs script)] (Pure (.list (zs (swapW w script)))) := by
  refine CallSem.pure (call_fn (fd := fdN 12 name qual .none .none doc pm an cdv ct) (ns := ["word", "script"]) (body := bo 12) hmon ⟨rfl, fun s vs hb h => ?_, by decide, rfl, rfl, rfl, rfl, rfl⟩ (fun K F hb _ => hF.mono hb) (show ∀ x ∈ (sc 12).names, _ by decide) (show ∀ x ∈ (["word", "script"] : List Str), (sc 12).names.lookup x = _ by decide) [] (fun K F _ => ⟨fun x hx => (nomatch hx), fun x d h => (nomatch h)⟩) List.Pairwise.nil (by simp) fun A L hr => ?_)
  · match vs, h with
    | [a, b], _ => exact BindsTo.of_eq rfl
  · exact swap_body B hz hs
end
end Mine
end

section
set_option Elab.async false
set_option linter.unusedVariables false
set_option linter.unusedSimpArgs false
set_option maxRecDepth 100000
namespace Mine
open PySem PySem.W PyProof.Rows PySem.Calls
theorem strike_mem {T : Tie} {a : Int} : ∀ {r r' : Wd}, strike T a r = some r' → ∀ x ∈ r', x ∈ r
  | [], r', h => by cases h
  | b :: r, r', h => by
    unfold strike at h
    split at h
    · split at h
      · cases h; exact fun x hx => .tail _ hx
      · cases h
    · obtain ⟨q, h1, rfl⟩ := Option.map_eq_some_iff.mp h
      intro x hx
      rcases List.mem_cons.mp hx with rfl | hx
      · exact .head _
      · exact .tail _ (strike_mem h1 x hx)
section
variable {G : Gx} {f fc : Addr} {name qual : Str} {doc pm cdv ct : Value} {an : Option Addr}
noncomputable abbrev alCx (G : Gx) (A : Around) (name qual : Str) (doc pm cdv ct : Value) (an : Option Addr) (f L : Addr) (n : Nat) (P : Pred) : Cx := fnCx G A (fdN 10 name qual .none .none doc pm an cdv ct) f L n P
theorem alike_body {A : Around} {L : Addr} {n : Nat} {P : Pred} {w o : Wd} {T : Tie} (B : Bt G) (h4 : T.length = 4 ∧ ∀ r ∈ T, r.length = 4) (hw : WdOk w) (ho : WdOk o) (hz : o.length ≤ 1000) :
    WP (alCx G A name qual doc pm cdv ct an f L n P) { vars := [("word", .list (zs w)), ("other", .list (zs o)), ("ties", tsD T)], mu := [] } (bo 10) (Fin fun d _ => d = .bool (alikeW T w o)) := by
  refine WP.set (x := "rest") (d := .list (zs o)) (.inl rfl) (Ev.of_new (EvN.copy (Ev.name (d := .list (zs o)) rfl) Items.list)) ?_
  refine WP.for (d := .list (zs w)) (ds := zs w) (fun k σ => ∃ r, WdOk r ∧ r.length ≤ 1000 ∧ alikeW T (w.drop k) r = alikeW T w o ∧ σ.mu = [] ∧ σ.v "rest" = some (.list (zs r)) ∧ σ.v "ties" = some (tsD T))
    (Ev.name rfl) (.inl rfl) ⟨o, ho, hz, rfl, rfl, rfl, rfl⟩ (fun d σ => σ.set "a" d) (fun _ _ _ => rfl) (fun _ _ => rfl) (fun d σ => Asg.local rfl) (fun k d σ hk hI => ?_) (fun σ hI => ?_)
  · obtain ⟨r, hr, hz, hal, hmu, v1, v2⟩ := hI
    have hk' : k < w.length := by have := (List.getElem?_eq_some_iff.mp hk).1; rwa [zs_length] at this
    rw [zs_get w hk'] at hk
    cases hk
    have ha := hw.at hk'
    rw [← List.getElem_cons_drop (h := hk'), ← getD_at hk', alikeW] at hal
    generalize w.getD k 0 = a at ha hal
    have hlen : ∀ {σ q1 q2 q3}, σ.v "rest" = some (.list (zs r)) → Ev (alCx G A name qual doc pm cdv ct an f L n P) σ (.Call (.Name "len" q1) [.Name "rest" q2] [] q3) (.int r.length) := fun {σ q1 q2 q3} h => Ev.len (x := "len") ⟨rfl, B.len.1, B.len.2, rfl⟩ (Ev.name h) Items.list (k := r.length) (by rw [zs_length])
    refine WP.set (x := "place") (d := .int 0) (.inl rfl) Ev.int ?_
    refine WP.while (fun m σ => ∃ p : Nat, m = r.length - p ∧ p ≤ r.length ∧ (∀ i, i < p → tie T a (r.getD i 0) = false) ∧ σ.mu = [] ∧ σ.v "place" = some (.int p) ∧ σ.v "rest" = some (.list (zs r)) ∧ σ.v "a" = some (.int a) ∧ σ.v "ties" = some (tsD T)) r.length
      ⟨0, rfl, Nat.zero_le _, fun i h => by lia, hmu, rfl, v1, rfl, v2⟩ ?_
    rintro m σ ⟨p, rfl, hp, hun, hmu, v1, v2, v3, v4⟩
    refine ⟨decide (p < r.length) && !tie T a (r.getD p 0), EvT.cast (EvT.and (EvT.cmp (Ev.name v1) (hlen v2) Cm.lt) fun h0 => EvT.not (EvT.bool (Ev.tie (b := r.getD p 0) h4 ha (hr.at (by have := of_decide_eq_true h0; lia)) (Ev.name v4) (Ev.name v3) (Ev.idx (d := .list (zs r)) (Ev.name v2) Items.list (Ev.name v1) (by lia) (zs_getI r (i := p) rfl (by have := of_decide_eq_true h0; lia)))))) (by simp), fun hb => ?_, fun hb => ?_⟩
    · simp only [Bool.and_eq_true, decide_eq_true_eq, Bool.not_eq_true'] at hb
      refine WP.set (x := "place") (d := .int (p + 1 : Nat)) (.inl rfl) (Ev.cast (Ev.bin (Ev.name v1) Ev.int Op.add) (by congr 1)) (WP.nil ⟨r.length - (p + 1), by lia, p + 1, rfl, by lia, fun i h1 => ?_, hmu, rfl, v2, v3, v4⟩)
      by_cases e : i = p
      · subst e; exact hb.2
      · exact hun i (by lia)
    · have hend : p = r.length ∨ tie T a (r.getD p 0) = true := by
        by_cases h : p = r.length
        · exact .inl h
        · have h0 : decide (p < r.length) = true := by simp; lia
          rw [h0, Bool.true_and] at hb
          exact .inr (by simpa using hb)
      have hst := strike_at (a := a) hp hun hend
      refine WP.ifs (b := ((p : Int) == (r.length : Int)) || (r.getD p 0 != a)) (EvT.or (EvT.cmp (Ev.name v1) (hlen v2) Cm.eq) fun h0 => EvT.cmp (Ev.idx (d := .list (zs r)) (Ev.name v2) Items.list (Ev.name v1) (by lia) (zs_getI r (i := p) rfl (by have : ¬ (p : Int) = r.length := (by simpa using h0); lia))) (Ev.name v3) Cm.ne) (fun hb => ?_) (fun hb => WP.nil ?_)
      · refine WP.ret Ev.bool ?_
        show D.bool false = D.bool (alikeW T w o)
        rw [← hal, hst, if_neg]
        rintro ⟨q1, q2⟩
        simp at hb
        rcases hb with hb | hb
        · lia
        · exact hb (by simpa using q2)
      · have hb' : p < r.length ∧ r.getD p 0 = a := by
          simp at hb
          exact ⟨by lia, by simpa using hb.2⟩
        rw [if_pos hb'] at hst
        rw [hst] at hal
        refine WP.set (x := "rest") (d := .list (zs (r.take p ++ r.drop (p + 1)))) (.inl rfl) (Ev.of_new (EvN.cast (EvX.bin (d1 := .list (zs (r.take p))) (d2 := .list (zs (r.drop (p + 1)))) (Ev.of_new (EvN.cast (EvN.upto (n := p) (Ev.name v2) Items.list (Ev.name v1)) (zs_take _ _))) (Ev.of_new (EvN.cast (EvN.from (n := p + 1) (Ev.name v2) Items.list (Ev.cast (Ev.bin (Ev.name v1) Ev.int Op.add) (by congr 1))) (zs_drop _ _))) (OpN.concat Items.list Items.list (by rw [zs_length, zs_length, List.length_take]; simp; lia))) (zs_append _ _))) (WP.nil ⟨_, fun x hx => hr x (strike_mem hst x hx), ?_, hal, hmu, rfl, v4⟩)
        simp; lia
  · obtain ⟨r, hr, hz, hal, hmu, v1, v2⟩ := hI
    rw [zs_length, List.drop_length] at hal
    refine WP.nil (WP.ret (Ev.cast (Ev.cmp (Ev.name v1) (Ev.of_new (EvN.list (ds := []) EvL.nil (by simp))) (Cm.eqD (e := encList encInt) Vs.nums (b := ([] : List Int)) (Vs.nums (l := [])) (by decide))) rfl) ?_)
    show D.bool _ = D.bool (alikeW T w o)
    rw [← hal]
    cases r <;> simp [alikeW]
theorem alike_sem {n : Nat} {P : Pred} {w o : Wd} {T : Tie} (hmon : P.Mon) (hF : FnF G.hb.get? f (fdN 10 name qual .none .none doc pm an cdv ct)) (B : Bt G) (h4 : T.length = 4 ∧ ∀ r ∈ T, r.length = 4) (hw : WdOk w) (ho : WdOk o) (hz : o.length ≤ 1000) : CallSem G (n + 1) P f [] [.list (zs w), .list (zs o), tsD T] (Pure (.bool (alikeW T w o))) := by
  refine CallSem.pure (call_fn (fd := fdN 10 name qual .none .none doc pm an cdv ct) (ns := ["word", "other", "ties"]) (body := bo 10) hmon ⟨rfl, fun s vs hb h => ?_, by decide, rfl, rfl, rfl, rfl, rfl⟩ (fun K F hb _ => hF.mono hb) (show ∀ x ∈ (sc 10).names, _ by decide) (show ∀ x ∈ (["word", "other", "ties"] : List Str), (sc 10).names.lookup x = _ by decide) [] (fun K F _ => ⟨fun x hx => (nomatch hx), fun x d h => (nomatch h)⟩) List.Pairwise.nil (by simp) fun A L hr => ?_)
  · match vs, h with
    | [a, b, c], _ => exact BindsTo.of_eq rfl
  · exact alike_body B h4 hw ho hz
end
end Mine
end

section
set_option Elab.async false
set_option linter.unusedVariables false
set_option linter.unusedSimpArgs false
set_option maxRecDepth 100000
namespace Mine
open PySem PySem.W PyProof.Rows PySem.Calls
noncomputable def eN (b : Int) (m i : Nat) : Bool := if i < m then bitI i b else false
noncomputable def tN (b : Int) (m : Nat) : Tie := [[true, eN b m 0, eN b m 1, eN b m 2], [eN b m 0, true, eN b m 3, eN b m 4], [eN b m 1, eN b m 3, true, eN b m 5], [eN b m 2, eN b m 4, eN b m 5, true]]
noncomputable def gN (b : Int) (m : Nat) : List (List D) := (tN b m).map bs
theorem gN_row (b : Int) (m : Nat) {k : Nat} (hk : k < 4) : ∃ r : List Bool, (gN b m)[k]? = some (bs r) ∧ r.length = 4 := by
  match k, hk with
  | 0, _ => exact ⟨_, rfl, rfl⟩
  | 1, _ => exact ⟨_, rfl, rfl⟩
  | 2, _ => exact ⟨_, rfl, rfl⟩
  | 3, _ => exact ⟨_, rfl, rfl⟩
noncomputable def half1 (b : Int) (m k c : Nat) : List (List D) := (gN b m).set k (((gN b m).getD k []).set c (.bool (bitI m b)))
noncomputable def half2 (b : Int) (m k c : Nat) : List (List D) := (half1 b m k c).set c (((half1 b m k c).getD c []).set k (.bool (bitI m b)))
theorem tN_step (b : Int) : ∀ (k j : Nat), k < 4 → j < 3 - k → half2 b (off k + j) k (k + 1 + j) = gN b (off k + j + 1)
  | 0, 0, _, _ => rfl
  | 0, 1, _, _ => rfl
  | 0, 2, _, _ => rfl
  | 1, 0, _, _ => rfl
  | 1, 1, _, _ => rfl
  | 2, 0, _, _ => rfl
  | 0, j + 3, _, h => by lia
  | 1, j + 2, _, h => by lia
  | 2, j + 1, _, h => by lia
  | 3, j, _, h => by lia
  | k + 4, j, h, _ => by lia
theorem four {α : Type} {l : List α} (h : l.length = 4) : ∀ k, k < 4 → ∃ x, l[k]? = some x := fun k hk => ⟨l[k], by simp [h, hk]⟩
section
variable {G : Gx} {f fc : Addr} {name qual : Str} {doc pm cdv ct : Value} {an : Option Addr}
noncomputable abbrev tiCx (G : Gx) (A : Around) (name qual : Str) (doc pm cdv ct : Value) (an : Option Addr) (f L : Addr) (n : Nat) (P : Pred) : Cx := fnCx G A (fdN 11 name qual .none .none doc pm an cdv ct) f L n P
structure TieI (b : Int) (ta : Addr) (as : List Addr) (m : Nat) (σ : St) : Prop where
  mu : σ.mu = (ta, .list (as.map .ref)) :: zipMu as (gN b m)
  v1 : σ.v "ties" = some (.ref ta)
  v2 : σ.v "bits" = some (.int (halve m b))
theorem ties_body {A : Around} {L : Addr} {n : Nat} {P : Pred} {b : Int} (B : Bt G) :
    WP (tiCx G A name qual doc pm cdv ct an f L n P) { vars := [("bits", .int b)], mu := [] } (bo 11) (Fin fun d _ => d = tsD (tiesW b)) := by
  refine WP.setC rfl (EvC.fresh (scope := _) (nats 4) D.int (fun _ => true) (fun i => (nats 4).map fun j => .bool (i == j)) (compOkE rfl rfl (by decide) (fun x hx => nomatch hx) List.Pairwise.nil (by decide)) (.inr rfl)
    (Ev.range ⟨rfl, B.range.1, B.range.2, rfl⟩ Ev.int) (by rw [show (nats 4).map D.int = rints 0 4 from (rints_nats 4).symm]; exact ItD.rng (by lia)) (by decide) fun L' nm i hi => ⟨rfl, fun _ => ?_⟩) ?_
  · refine EvN.cast (EvC.ev (EvC.plain (scope := _) (nats 4) D.int (fun _ => true) (fun j => .bool (i == j)) (compOkF rfl rfl (by decide) (fun x hx => by obtain rfl := List.mem_singleton.mp hx; rfl) (List.pairwise_singleton _ _) (by decide)) (.inl rfl) (Ev.range ⟨rfl, B.range.1, B.range.2, rfl⟩ Ev.int) (by rw [show (nats 4).map D.int = rints 0 4 from (rints_nats 4).symm]; exact ItD.rng (by lia)) (by decide) fun L2 x hx => ⟨rfl, fun hp => ?_⟩)) (by rw [filter_tr])
    exact Ev.cmp (Ev.name (d := .int i) rfl) (Ev.name (d := .int x) rfl) Cm.eq
  rintro d mu hF
  rw [filter_tr] at hF
  obtain ⟨ta, as, hl, rfl, rfl⟩ := hF
  have hl : as.length = 4 := hl
  refine WP.for (d := .rng 0 4) (ds := rints 0 4) (fun k σ => TieI b ta as (off k) σ) (Ev.range ⟨rfl, B.range.1, B.range.2, rfl⟩ Ev.int) (.inr ⟨0, 4, rfl, rfl, by lia⟩) ⟨by simp [St.set, St.setMu]; rfl, rfl, rfl⟩ (fun d σ => σ.set "a" d) (fun _ _ _ => rfl) (fun _ _ => rfl)
    (fun d σ => Asg.local rfl) (fun k d σ hk hI => ?_) (fun σ hI => ?_)
  · obtain ⟨hk4, rfl⟩ := rints_at hk
    have hk4 : k < 4 := hk4
    rw [Int.zero_add]
    refine WP.for (d := .rng ((k : Int) + 1) 4) (ds := rints ((k : Int) + 1) 4) (fun j σ => TieI b ta as (off k + j) σ ∧ σ.v "a" = some (.int k)) (Ev.of_just (EvX.call2 (.inr ⟨_, rfl⟩) ⟨rfl, B.range.1, B.range.2, rfl⟩ (Ev.bin (Ev.name (d := .int k) rfl) Ev.int Op.add) Ev.int C2.range)) (.inr ⟨_, _, rfl, rfl, by lia⟩) ⟨⟨hI.mu, hI.v1, hI.v2⟩, rfl⟩ (fun d σ => σ.set "b" d) (fun _ _ _ => rfl) (fun _ _ => rfl)
      (fun d σ => Asg.local rfl) (fun j d σ hj hJ => ?_) (fun σ hJ => ?_)
    · obtain ⟨hj4, rfl⟩ := rints_at hj
      have hj4 : j < 3 - k := by lia
      obtain ⟨⟨hm, v1, v2⟩, va⟩ := hJ
      have hst := tN_step b k j hk4 hj4
      rw [show (k : Int) + 1 + j = ((k + 1 + j : Nat) : Int) by lia]
      have hc4 : k + 1 + j < 4 := by lia
      have hck : k + 1 + j ≠ k := by lia
      generalize k + 1 + j = c at *
      rw [show off k + (j + 1) = off k + j + 1 from rfl]
      generalize off k + j = m at *
      obtain ⟨ak, hak⟩ := four hl k hk4
      obtain ⟨ac, hac⟩ := four hl c hc4
      obtain ⟨rk, hrk, hrk4⟩ := gN_row b m hk4
      have hgk : (gN b m).getD k [] = bs rk := by rw [List.getD_eq_getElem?_getD, hrk]; rfl
      obtain ⟨rc, hrc, hrc4⟩ := gN_row b m hc4
      have h1c : (half1 b m k c)[c]? = some (bs rc) := by unfold half1; rw [List.getElem?_set_ne (Ne.symm hck)]; exact hrc
      have hgc : (half1 b m k c).getD c [] = bs rc := by rw [List.getD_eq_getElem?_getD, h1c]; rfl
      have hit : ∀ {vars mu}, Items (tiCx G A name qual doc pm cdv ct an f L n P) { vars := vars, mu := (ta, MO.list (as.map .ref)) :: mu } (.ref ta) (as.map .ref) := fun {vars mu} => Items.mu (.head _)
      have hat : ∀ {i : Nat} {x : Addr}, as[i]? = some x → (as.map D.ref)[((i : Nat) : Int).toNat]? = some (.ref x) := fun {i x} h => by rw [Int.toNat_natCast, List.getElem?_map, h]; rfl
      refine WP.keep [("b", .int c), ("ties", .ref ta), ("bits", .int (halve m b)), ("a", .int k)] (List.forall_mem_cons.mpr ⟨rfl, List.forall_mem_cons.mpr ⟨v1, List.forall_mem_cons.mpr ⟨v2, List.forall_mem_cons.mpr ⟨va, by simp⟩⟩⟩⟩) ?_
      show WP _ { vars := _, mu := σ.mu } _ _
      rw [hm]
      have hbit : ∀ {mu q1 q2 q3 q4 q5 k1 k2}, Ev (tiCx G A name qual doc pm cdv ct an f L n P) { vars := [("b", .int c), ("ties", .ref ta), ("bits", .int (halve m b)), ("a", .int k)], mu := mu } (.Compare (.BinOp (.Name "bits" q1) .Mod (.Constant (.int 2) k1 q2) q3) [.Eq] [.Constant (.int 1) k2 q4] q5) (.bool (bitI m b)) := fun {mu q1 q2 q3 q4 q5 k1 k2} =>
        Ev.cmp (Ev.bin (Ev.name (d := .int (halve m b)) rfl) Ev.int (Op.mod (by decide))) Ev.int Cm.eq
      refine WP.setItem (a := ak) (k := (c : Nat)) (d := .bool (bitI m b)) (ds := bs rk) (mu' := (ta, .list (as.map .ref)) :: zipMu as (half1 b m k c)) hbit (Ev.idx (d := .ref ta) (Ev.name rfl) hit (Ev.name (d := .int k) rfl) (by lia) (hat hak)) (Ev.name rfl) (by lia) (by rw [Int.toNat_natCast, List.length_map, hrk4]; exact hc4) ?_ ?_
      · rw [Int.toNat_natCast]
        unfold half1
        rw [hgk]
        exact .tail (MuSet.zip hak hrk)
      refine WP.setItem (a := ac) (k := (k : Nat)) (d := .bool (bitI m b)) (ds := bs rc) (mu' := (ta, .list (as.map .ref)) :: zipMu as (half2 b m k c)) hbit (Ev.idx (d := .ref ta) (Ev.name rfl) hit (Ev.name (d := .int c) rfl) (by lia) (hat hac)) (Ev.name rfl) (by lia) (by rw [Int.toNat_natCast, List.length_map, hrc4]; exact hk4) ?_ ?_
      · rw [Int.toNat_natCast]
        unfold half2
        rw [hgc]
        exact .tail (MuSet.zip hac h1c)
      rw [hst]
      exact WP.set (x := "bits") (d := .int (halve (m + 1) b)) (.inl rfl) (Ev.bin (Ev.name (d := .int (halve m b)) rfl) Ev.int (Op.div (by decide) (by decide))) (WP.nil ⟨⟨rfl, rfl, rfl⟩, rfl⟩)
    · refine WP.nil (WP.nil ?_)
      have e : off k + (rints ((k : Int) + 1) 4).length = off (k + 1) := by
        rw [← off_next k hk4, rints, List.length_map, List.length_range]
        congr 1; lia
      rw [← e]
      exact hJ.1
  · obtain ⟨hm, v1, v2⟩ := hI
    refine WP.nil (WP.freezeL (a := ta) (as := as) (gs := gN b 6) (mu := []) (vars := [("ties", tsD (tiesW b))]) hl (by rw [List.append_nil]; exact hm) (fun y e hy => ?_) (WP.ret (Ev.name rfl) rfl))
    have := mem_of_lookup hy
    obtain ⟨rfl, rfl⟩ : y = "ties" ∧ e = tsD (tiesW b) := by simpa using this
    exact .inr ⟨v1, rfl⟩
theorem ties_sem {n : Nat} {P : Pred} {b : Int} (hmon : P.Mon) (hF : FnF G.hb.get? f (fdN 11 name qual .none .none doc pm an cdv ct)) (B : Bt G) : CallSem G (n + 1) P f [] [.int b] (Pure (tsD (tiesW b))) := by
  refine CallSem.pure (call_fn (fd := fdN 11 name qual .none .none doc pm an cdv ct) (ns := ["bits"]) (body := bo 11) hmon ⟨rfl, fun s vs hb h => ?_, by decide, rfl, rfl, rfl, rfl, rfl⟩ (fun K F hb _ => hF.mono hb) (show ∀ x ∈ (sc 11).names, _ by decide) (show ∀ x ∈ (["bits"] : List Str), (sc 11).names.lookup x = _ by decide) [] (fun K F _ => ⟨fun x hx => (nomatch hx), fun x d h => (nomatch h)⟩) List.Pairwise.nil (by simp) fun A L hr => ?_)
  · match vs, h with
    | [a], _ => exact BindsTo.of_eq rfl
  · exact ties_body B
end
end Mine
end

section
open PySem PySem.W PyProof.Rows
set_option Elab.async false
set_option linter.unusedVariables false
namespace Mine
noncomputable def Hol (c : Nat → Nat → Bool) {α : Type} : KasT α → (α → Prop) → Prop
  | .ret a, R => R a
  | .ask i j k, R => Hol c (k (c i j)) R
theorem Hol.mono {c : Nat → Nat → Bool} {α : Type} {R R' : α → Prop} (h : ∀ a, R a → R' a) : ∀ {t : KasT α}, Hol c t R → Hol c t R'
  | .ret a, x => h a x
  | .ask i j k, x => Hol.mono h (t := k (c i j)) x
theorem Hol.bind {c : Nat → Nat → Bool} {α β : Type} {f : α → KasT β} {R : β → Prop} : ∀ {t : KasT α}, Hol c t (fun a => Hol c (f a) R) → Hol c (t.bind f) R
  | .ret a, x => x
  | .ask i j k, x => Hol.bind (t := k (c i j)) x
theorem Hold.and {n : Nat} {c : Nat → Nat → Bool} {α : Type} {R S : α → Prop} : ∀ {t : KasT α}, Hold n c t R → Hol c t S → Hold n c t fun a => R a ∧ S a
  | .ret a, x, y => ⟨x, y⟩
  | .ask i j k, ⟨x1, x2, x3⟩, y => ⟨x1, x2, Hold.and x3 y⟩
noncomputable def kc (key : Nat → Int) (i j : Nat) : Bool := decide (key i < key j)
noncomputable def vl (key : Nat → Int) (p : Array Nat) (i : Nat) : Int := key (p.getD i 0)
theorem Hol.ask {key : Nat → Int} {p : Array Nat} {α : Type} {R : α → Prop} {i j : Nat} {t u : KasT α} (h1 : vl key p i < vl key p j → Hol (kc key) t R) (h2 : vl key p j ≤ vl key p i → Hol (kc key) u R) : Hol (kc key) (.ask (p.getD i 0) (p.getD j 0) fun c => if c = true then t else u) R := by
  show Hol (kc key) (if kc key _ _ = true then t else u) R
  split
  · rename_i q; exact h1 (of_decide_eq_true q)
  · rename_i q; exact h2 (Int.not_lt.mp fun z => q (decide_eq_true z))
noncomputable def Up (v : Nat → Int) (m : Nat) : Prop := ∀ a, a + 1 < m → v a ≤ v (a + 1)
noncomputable def Dw (v : Nat → Int) (m : Nat) : Prop := ∀ a, a + 1 < m → v (a + 1) ≤ v a
theorem Up.succ {v : Nat → Int} {m : Nat} (h : Up v m) (h1 : v (m - 1) ≤ v m) : Up v (m + 1) := fun a ha => by
  by_cases e : a + 1 = m
  · subst e; exact h1
  · exact h a (Nat.lt_of_le_of_ne (Nat.le_of_lt_succ ha) e)
theorem Dw.succ {v : Nat → Int} {m : Nat} (h : Dw v m) (h1 : v m ≤ v (m - 1)) : Dw v (m + 1) := fun a ha => by
  by_cases e : a + 1 = m
  · subst e; exact h1
  · exact h a (Nat.lt_of_le_of_ne (Nat.le_of_lt_succ ha) e)
theorem Up.le {v : Nat → Int} {m : Nat} (h : Up v m) {a : Nat} : ∀ {b : Nat}, a ≤ b → b < m → v a ≤ v b
  | 0, h1, _ => by rw [Nat.le_zero.mp h1]; exact Int.le_refl _
  | b + 1, h1, h2 => by
    by_cases e : a = b + 1
    · rw [e]; exact Int.le_refl _
    · exact Int.le_trans (h.le (Nat.le_of_lt_succ (Nat.lt_of_le_of_ne h1 e)) (Nat.lt_of_succ_lt h2)) (h b h2)
theorem getD_eq {p q : Array Nat} {i j : Nat} (h : p[i]? = q[j]?) : p.getD i 0 = q.getD j 0 := by
  rw [Array.getD_eq_getD_getElem?, Array.getD_eq_getD_getElem?, h]
section
variable {key : Nat → Int} {n : Nat}
theorem rev_size (p : Array Nat) (i j : Nat) : (kas_rev p i j).size = p.size := mirror_size _ _ _ _
theorem rev_vl {p : Array Nat} {i j : Nat} (hj : j ≤ p.size) (k : Nat) : vl key (kas_rev p i j) k = if i ≤ k ∧ k < j then vl key p (i + j - 1 - k) else vl key p k := by
  have e := getElem?_mirror_all (i := i) hj k
  unfold kas_rev vl
  split at e
  · rename_i q; rw [if_pos q, getD_eq e]
  · rename_i q; rw [if_neg q, getD_eq e]
theorem rev_same {p : Array Nat} {i j : Nat} (hj : j ≤ p.size) {x : Int} (h : ∀ k, i ≤ k → k < j → vl key p k = x) : vl key (kas_rev p i j) = vl key p := by
  funext k
  rw [rev_vl hj]
  split
  · rename_i q
    have h1 : i ≤ i + j - 1 - k ∧ i + j - 1 - k < j := by clear h hj; lia
    rw [h k q.1 q.2, h _ h1.1 h1.2]
  · rfl
theorem asc_st {p : Array Nat} : ∀ (f m : Nat), Up (vl key p) m → 1 ≤ m → m + f = n → Hol (kc key) (kas_asc p f m) fun m' => Up (vl key p) m' ∧ 1 ≤ m' ∧ m' ≤ n ∧ (m' < n → vl key p m' < vl key p (m' - 1))
  | 0, m, ha, h1, hf => ⟨ha, h1, Nat.le_of_eq hf, fun q => absurd hf (Nat.ne_of_lt q)⟩
  | f + 1, m, ha, h1, hf => Hol.ask (fun c => ⟨ha, h1, hf ▸ Nat.le_add_right _ _, fun _ => c⟩) fun c => asc_st f (m + 1) (ha.succ c) (Nat.le_add_left _ _) (by rw [← hf, Nat.add_right_comm]; rfl)
structure Dn (key : Nat → Int) (n : Nat) (p : Array Nat) (m q : Nat) : Prop where
  le : m ≤ n
  sz : p.size = n
  q1 : q + 1 ≤ m
  dn : Dw (vl key p) m
  run : ∀ k, m - (q + 1) ≤ k → k < m → vl key p k = vl key p (m - 1)
theorem Dn.flip {p : Array Nat} {m q : Nat} (h : Dn key n p m q) : vl key (kas_rev p (m - (q + 1)) m) = vl key p := rev_same (by rw [h.sz]; exact h.le) h.run
theorem Dn.one {p : Array Nat} {m : Nat} (hm : m + 1 ≤ n) (hs : p.size = n) (h : Dw (vl key p) (m + 1)) : Dn key n p (m + 1) 0 := ⟨hm, hs, Nat.le_add_left _ _, h, fun k h1 h2 => by rw [Nat.le_antisymm (Nat.le_of_lt_succ h2) h1]; rfl⟩
theorem desc_st : ∀ (f : Nat) {p : Array Nat} (m q : Nat), Dn key n p m q → m + f = n → Hol (kc key) (kas_desc f p m q) fun r => Dn key n r.1 r.2.1 r.2.2
  | 0, p, m, q, hd, hf => hd
  | f + 1, p, m, q, hd, hf => by
    have hf' : m + 1 + f = n := by rw [← hf, Nat.add_right_comm]; rfl
    have hm : m + 1 ≤ n := hf' ▸ Nat.le_add_right _ _
    refine Hol.ask (fun c1 => ?_) fun c1 => Hol.ask (fun c2 => hd) fun c2 => ?_
    · split
      · exact desc_st f (m + 1) 0 (.one hm (by rw [rev_size]; exact hd.sz) (by rw [hd.flip]; exact hd.dn.succ (Int.le_of_lt c1))) hf'
      · exact desc_st f (m + 1) 0 (.one hm hd.sz (hd.dn.succ (Int.le_of_lt c1))) hf'
    · have e := Int.le_antisymm c2 c1
      refine desc_st f (m + 1) (q + 1) ⟨hm, hd.sz, Nat.succ_le_succ hd.q1, hd.dn.succ c2, fun k h1 h2 => ?_⟩ hf'
      rw [Nat.add_sub_add_right] at h1
      by_cases z : k = m
      · rw [z]; rfl
      · exact (hd.run k h1 (Nat.lt_of_le_of_ne (Nat.le_of_lt_succ h2) z)).trans e.symm
noncomputable def Asd (key : Nat → Int) (n : Nat) (r : Nat × Array Nat) : Prop := Up (vl key r.2) r.1 ∧ 1 ≤ r.1 ∧ r.1 ≤ n ∧ r.2.size = n
theorem tail_st {p : Array Nat} {m : Nat} (h0 : m ≤ n) (hs : p.size = n) (h1 : 1 ≤ m) (hd : Dw (vl key p) m) : Hol (kc key) (kas_tail3 m n p) (Asd key n) := by
  refine Hol.bind (Hol.mono (fun m' hm => ⟨hm.1, hm.2.1, hm.2.2.1, by rw [rev_size]; exact hs⟩) (asc_st (n - m) m (fun a ha => ?_) h1 (Nat.add_sub_cancel' h0)))
  rw [rev_vl (by rw [hs]; exact h0), rev_vl (by rw [hs]; exact h0), if_pos ⟨Nat.zero_le _, Nat.lt_of_succ_lt ha⟩, if_pos ⟨Nat.zero_le _, ha⟩]
  have e : 0 + m - 1 - a = 0 + m - 1 - (a + 1) + 1 := by rw [Nat.zero_add, Nat.sub_add_eq (m - 1) a 1, Nat.sub_add_cancel (Nat.le_sub_of_add_le (Nat.le_sub_one_of_lt (by rw [Nat.add_comm]; exact ha)))]
  rw [e]
  exact hd _ (by rw [← e, Nat.zero_add]; exact Nat.lt_of_le_of_lt (Nat.sub_le _ _) (Nat.sub_lt h1 Nat.one_pos))
theorem descPart_st {p : Array Nat} {m : Nat} (hd : Dn key n p (m + 1) 0) : Hol (kc key) (kas_descPart m n p) (Asd key n) := by
  refine Hol.bind (Hol.mono (fun r hr => ?_) (desc_st (n - (m + 1)) (m + 1) 0 hd (Nat.add_sub_cancel' hd.le)))
  have h1 := Nat.le_trans (Nat.le_add_left 1 _) hr.q1
  show Hol (kc key) (if r.2.2 > 0 then _ else _) _
  split
  · exact tail_st hr.le (by rw [rev_size]; exact hr.sz) h1 (by rw [hr.flip]; exact hr.dn)
  · exact tail_st hr.le hr.sz h1 hr.dn
theorem count_st {p : Array Nat} (hn : 1 ≤ n) (hs : p.size = n) : Hol (kc key) (kas_count n p) (Asd key n) := by
  refine Hol.bind (Hol.mono (fun m hm => ?_) (asc_st (n - 1) 1 (fun a h1 => absurd h1 (Nat.not_lt.mpr (Nat.le_add_left _ _))) (Nat.le_refl _) (Nat.add_sub_cancel' hn)))
  obtain ⟨h1, h2, h3, h4⟩ := hm
  show Hol (kc key) (if (m == n) = true then _ else if m > 1 then _ else _) _
  split
  · exact ⟨h1, h2, h3, hs⟩
  · rename_i hmn
    have hmn : m < n := Nat.lt_of_le_of_ne h3 fun e => hmn (by rw [e]; exact beq_self_eq_true _)
    have h4 := h4 hmn
    split
    · refine Hol.ask (fun _ => ⟨h1, h2, h3, hs⟩) fun c => ?_
      have eq : ∀ k, 0 ≤ k → k < m → vl key p k = vl key p 0 := fun k _ hk => Int.le_antisymm (Int.le_trans (h1.le (Nat.le_sub_one_of_lt hk) (Nat.sub_lt h2 Nat.one_pos)) c) (h1.le (Nat.zero_le _) hk)
      refine descPart_st (.one hmn (by rw [rev_size]; exact hs) ?_)
      rw [rev_same (by rw [hs]; exact h3) eq]
      exact Dw.succ (fun a ha => by rw [eq _ (Nat.zero_le _) ha, eq a (Nat.zero_le _) (Nat.lt_of_succ_lt ha)]; exact Int.le_refl _) (Int.le_of_lt h4)
    · rename_i z
      have z : m = 1 := Nat.le_antisymm (Nat.not_lt.mp z) h2
      subst z
      exact descPart_st (.one hmn hs (Dw.succ (fun a ha => absurd ha (Nat.not_lt.mpr (Nat.le_add_left _ _))) (Int.le_of_lt h4)))
theorem place_st {p : Array Nat} {k : Nat} (ha : Up (vl key p) k) : ∀ (f l r : Nat), l ≤ r → r ≤ k → r - l ≤ f → (∀ a, a < l → vl key p a ≤ vl key p k) → (∀ a, r ≤ a → a < k → vl key p k < vl key p a) →
    Hol (kc key) (kas_place p k f l r) fun l' => l' ≤ k ∧ (∀ a, a < l' → vl key p a ≤ vl key p k) ∧ (∀ a, l' ≤ a → a < k → vl key p k < vl key p a)
  | 0, l, r, h1, h2, h3, h4, h5 => ⟨Nat.le_trans h1 h2, h4, Nat.le_antisymm (Nat.le_of_sub_eq_zero (Nat.le_zero.mp h3)) h1 ▸ h5⟩
  | f + 1, l, r, h1, h2, h3, h4, h5 => by
    show Hol (kc key) (if l ≥ r then _ else _) _
    split
    · rename_i z
      exact ⟨Nat.le_trans h1 h2, h4, Nat.le_antisymm z h1 ▸ h5⟩
    · rename_i z
      have z := Nat.not_le.mp z
      have m1 : l ≤ (l + r) / 2 := (Nat.le_div_iff_mul_le Nat.two_pos).mpr (by rw [Nat.mul_two]; exact Nat.add_le_add_left h1 l)
      have m2 : (l + r) / 2 < r := Nat.div_lt_of_lt_mul (by rw [Nat.two_mul]; exact Nat.add_lt_add_right z r)
      have m3 : (l + r) / 2 - l ≤ f := Nat.le_of_lt_succ (Nat.lt_of_lt_of_le (Nat.sub_lt_sub_right m1 m2) h3)
      have m4 : r - ((l + r) / 2 + 1) ≤ f := Nat.le_of_lt_succ (Nat.lt_of_lt_of_le (Nat.sub_lt_sub_left z (Nat.lt_succ_of_le m1)) h3)
      refine Hol.ask (fun c => ?_) fun c => ?_
      · exact place_st ha f l _ m1 (Nat.le_trans (Nat.le_of_lt m2) h2) m3 h4 fun a h6 h7 => Int.lt_of_lt_of_le c (ha.le h6 h7)
      · exact place_st ha f _ r m2 h2 m4 (fun a h6 => Int.le_trans (ha.le (Nat.le_of_lt_succ h6) (Nat.lt_of_lt_of_le m2 h2)) c) h5
theorem bin_st : ∀ (f : Nat) {p : Array Nat} (k : Nat), Up (vl key p) k → p.size = n → k + f = n → Hol (kc key) (kas_bin f p k) fun p => Up (vl key p) n
  | 0, p, k, ha, hs, hf => hf ▸ ha
  | f + 1, p, k, ha, hs, hf => by
    have hf' : k + 1 + f = n := by rw [← hf, Nat.add_right_comm]; rfl
    have hk : k < p.size := by rw [hs]; exact hf' ▸ Nat.le_add_right _ _
    refine Hol.bind (Hol.mono (fun l hl => ?_) (place_st ha k 0 k (Nat.zero_le _) (Nat.le_refl _) (Nat.sub_le _ _) (fun a h1 => absurd h1 (Nat.not_lt_zero _)) (fun a h1 h2 => absurd h2 (Nat.not_lt.mpr h1))))
    obtain ⟨h1, h2, h3⟩ := hl
    have at_ : ∀ i, vl key (bubble p k (k - l)) i = if i = l then vl key p k else if l < i ∧ i ≤ k then vl key p (i - 1) else vl key p i := fun i => by
      have e := getElem?_bubble (xs := p) (src := k) hk (k - l) (Nat.sub_le _ _) i
      rw [Nat.sub_sub_self h1] at e
      unfold vl
      split at e
      · rename_i q; rw [if_pos q, getD_eq e]
      · rename_i q; rw [if_neg q]
        split at e
        · rename_i q2; rw [if_pos q2, getD_eq e]
        · rename_i q2; rw [if_neg q2, getD_eq e]
    refine bin_st f (k + 1) (fun a hb => ?_) (by rw [bubble_size]; exact hs) hf'
    have hak : a < k := Nat.lt_of_succ_lt_succ hb
    rw [at_ a, at_ (a + 1)]
    by_cases z1 : a = l
    · subst z1
      rw [if_pos rfl, if_neg (Nat.succ_ne_self a), if_pos ⟨Nat.lt_succ_self a, hak⟩]
      exact Int.le_of_lt (h3 a (Nat.le_refl _) hak)
    · rw [if_neg z1]
      by_cases z2 : l < a
      · rw [if_pos ⟨z2, Nat.le_of_lt hak⟩, if_neg (Nat.ne_of_gt (Nat.lt_succ_of_lt z2)), if_pos ⟨Nat.lt_succ_of_lt z2, hak⟩]
        obtain ⟨a, rfl⟩ : ∃ b, a = b + 1 := ⟨a - 1, (Nat.sub_add_cancel (Nat.zero_lt_of_lt z2)).symm⟩
        exact ha a hak
      · have z3 : a < l := Nat.lt_of_le_of_ne (Nat.not_lt.mp z2) z1
        rw [if_neg fun h => z2 h.1]
        by_cases z4 : a + 1 = l
        · rw [if_pos z4]; exact h2 a z3
        · rw [if_neg z4, if_neg fun h => Nat.not_lt.mpr z3 h.1]
          exact ha a (Nat.lt_of_lt_of_le (Nat.lt_of_le_of_ne z3 z4) h1)
noncomputable def Asc (key : Nat → Int) (p : Array Nat) (m : Nat) : Prop := Up (vl key p) m
theorem sort_st (hn : 2 ≤ n) : Hold n (kc key) (kas_sort n) fun p => Ok n p ∧ Asc key p n := by
  have hn1 : 1 ≤ n := Nat.le_of_lt hn
  refine Hold.and (sort_ok hn1) ?_
  refine Hol.bind (Hol.mono (fun r hr => ?_) (count_st hn1 (by simp)))
  obtain ⟨h1, h2, h3, h4⟩ := hr
  show Hol (kc key) (if r.1 < n then _ else _) _
  rw [Nat.max_eq_left h2]
  split
  · rename_i q
    exact bin_st _ _ h1 h4 (Nat.add_sub_cancel' h3)
  · rename_i q
    show Up (vl key r.2) n
    rw [Nat.le_antisymm (Nat.not_lt.mp q) h3]; exact h1
end
end Mine
end

section
set_option Elab.async false
set_option linter.unusedVariables false
set_option linter.unusedSimpArgs false
set_option maxRecDepth 100000
namespace Mine
open PySem PySem.W PyProof.Rows PySem.Calls
noncomputable abbrev twD (p : Int × Int) : D := .tup [.int p.1, .int p.2]
theorem zip_tw (a b : List Int) : List.zipWith (fun x y => D.tup [x, y]) (zs a) (zs b) = (a.zip b).map twD := by
  induction a generalizing b with
  | nil => rfl
  | cons x a ih =>
    cases b with
    | nil => rfl
    | cons y b => simp only [zs, List.map_cons, List.zipWith_cons_cons, List.zip_cons_cons] at ih ⊢; rw [ih]
noncomputable def LamN (gl : Addr) (fd : FuncData) : Pred := fun K F => FnF F gl fd
theorem LamN.mon {gl : Addr} {fd : FuncData} : (LamN gl fd).Mon := fun K K' F F' h gK gF => FnF.mono h gF
theorem step_lam {G : Gx} {n : Nat} {gl c' : Addr} {pm ctv : Value} {qual : Str} {k0 k1 k2 k3 k4 : Nat} {q1 q2 a0 a1 a2 a3 b1 b2 b3 c1 c2 d1 d2 d3 d4 e1 e2 e3 e4 : Pos} {p q : Int × Int} :
    CallSem G (n + 1) (LamN gl (kla_fn "<lambda>" qual { posonlyargs := [], args := [⟨"u", none, q1⟩, ⟨"v", none, q2⟩], vararg := none, kwonlyargs := [], kw_defaults := [], kwarg := none, defaults := [] }
      (.BinOp (.BinOp (.BinOp (.Constant (.int 4) k0 a0) .Mult (.BinOp (.Subscript (.Name "u" a1) (.Constant (.int 0) k1 a2) a3) .Sub (.Subscript (.Name "v" b1) (.Constant (.int 0) k2 b2) b3) c1) c2) .Add (.Subscript (.Name "u" d1) (.Constant (.int 1) k3 d2) d3) d4) .Sub (.Subscript (.Name "v" e1) (.Constant (.int 1) k4 e2) e3) e4)
      { kind := .function, names := [("u", .local), ("v", .local)], isGenerator := false, isCoroutine := false } [] pm (.ref c') ctv))
      gl [] [twD p, twD q] (Pure (.int (4 * (p.1 - q.1) + p.2 - q.2))) := by
  refine call_lam (ns := ["u", "v"]) LamN.mon ⟨rfl, fun vs h => ?_, by decide, rfl, rfl, rfl, rfl, rfl⟩ (fun K F _ h => h) (show ∀ x ∈ ([("u", .local), ("v", .local)] : List (Str × NameKind)), x.2 ≠ .cell by decide) (show ∀ x ∈ (["u", "v"] : List Str), ([("u", .local), ("v", .local)] : List (Str × NameKind)).lookup x = some .local by decide) [] (fun K F h => ⟨fun x hx => (nomatch hx), fun x d hx => (nomatch hx)⟩) List.Pairwise.nil [] (fun K F h p hp => nomatch hp) fun A' L' hr => ?_
  · match vs, h with
    | [a, b], _ => rfl
  · refine EvX.mono (EvX.of (Ev.bin (Ev.bin (Ev.bin Ev.int (Ev.bin (Ev.tupIdx (ds := [.int p.1, .int p.2]) (Ev.name rfl) Ev.int (by decide) rfl) (Ev.tupIdx (ds := [.int q.1, .int q.2]) (Ev.name rfl) Ev.int (by decide) rfl) Op.sub) (Op.mul (PySem.IntMulOk.of_left (PySem.intBits_le_64 (by lia) (by lia))))) (Ev.tupIdx (ds := [.int p.1, .int p.2]) (Ev.name rfl) Ev.int (by decide) rfl) Op.add) (Ev.tupIdx (ds := [.int q.1, .int q.2]) (Ev.name rfl) Ev.int (by decide) rfl) Op.sub)) ?_
    rintro d mu ⟨rfl, rfl⟩
    exact ⟨rfl, rfl⟩
noncomputable def prI (q : List (Int × Int)) (i : Nat) : Int × Int := q.getD i (0, 0)
theorem perm_at {q : List (Int × Int)} {p : Array Nat} (hp : Ok q.length p) : (p.toList.map (prI q)).Perm q := by
  have h1 : p.toList.Perm (List.range q.length) := by
    have := Array.perm_iff_toList_perm.mp hp
    simpa using this
  refine (h1.map _).trans ?_
  refine List.Perm.of_eq (List.ext_getElem (by simp) fun i h1 h2 => ?_)
  simp at h1
  simp [prI, h1]
theorem asc_pair {q : List (Int × Int)} {p : Array Nat} (hp : Ok q.length p) (ha : Asc (fun i => keyP (prI q i)) p q.length) : (p.toList.map (prI q)).Pairwise fun u v => keyP u ≤ keyP v := by
  rw [List.pairwise_iff_getElem]
  intro i j hi hj hij
  simp only [List.length_map, Array.length_toList] at hi hj
  have hs : p.size = q.length := by have := hp.size_eq; simpa using this
  have := ha.le (Nat.le_of_lt hij) (show j < q.length by lia)
  unfold vl at this
  simp only [List.getElem_map, Array.getElem_toList]
  have e : ∀ {k} (h : k < p.size), p.getD k 0 = p[k] := fun {k} h => by simp [h]
  rw [e hi, e hj] at this
  exact this
noncomputable def stK (T : Tie) (w : Wd) (k : Nat) : List Int := (w.take k).foldl (fun st a => st ++ [stepA T w st a]) []
theorem stK_succ {T : Tie} {w : Wd} {k : Nat} (h : k < w.length) : stK T w (k + 1) = stK T w k ++ [stepA T w (stK T w k) (w.getD k 0)] := by
  unfold stK
  rw [List.take_add_one, List.getElem?_eq_getElem h, Option.toList_some, List.foldl_append, getD_at h]; rfl
theorem stK_len {T : Tie} {w : Wd} : ∀ k, k ≤ w.length → (stK T w k).length = k
  | 0, _ => rfl
  | k + 1, h => by rw [stK_succ (by lia), List.length_append, stK_len k (by lia)]; rfl
theorem stK_all (T : Tie) (w : Wd) : stK T w w.length = stepsW T w := by unfold stK stepsW; rw [List.take_length]
theorem permL_tw {q : List (Int × Int)} {p : Array Nat} (hp : Ok q.length p) : permL (q.map twD) p = (p.toList.map (prI q)).map twD := by
  unfold permL
  rw [List.map_map]
  refine List.map_congr_left fun i hi => ?_
  have : i < q.length := by
    have := (hp.mem_iff (a := i)).mp (Array.mem_toList_iff.mp hi)
    simpa using this
  simp [prI, this]
section
variable {G : Gx} {f fc : Addr} {name qual : Str} {doc pm cdv ct : Value} {an : Option Addr}
noncomputable abbrev tqS (qual : Str) : MO := TabQ fun _ => qual ++ ".<locals>." ++ "<lambda>"
noncomputable abbrev tabsS (qual : Str) (PL P1 c P : Addr) : Mu := [(PL, tqS qual), (P1, TabP (some (c, P))), (P, TabQ qf)]
noncomputable abbrev stCx (G : Gx) (A : Around) (name qual : Str) (doc pm cdv ct : Value) (an : Option Addr) (f L : Addr) (n : Nat) (P : Pred) : Cx := fnCx G A (fdN 9 name qual .none .none doc pm an cdv ct) f L n P
theorem steps_body {A : Around} {L : Addr} {n' : Nat} {fa c1 P1 cL PL : Addr} {w : Wd} {T : Tie} {ms : Str → Option Value} {docK pmK ctK : Value} {anK : Option Addr} {oP : Option (Addr × Addr)} (B : Bt G) (hzip : G.mg "zip" = none ∧ G.mb "zip" = some (.type "zip")) (h4 : T.length = 4 ∧ ∀ r ∈ T, r.length = 4) (hw : WdOk w) (hz : w.length ≤ 60) (hn4 : 4 ≤ n') (hgens : G.s0.gens = #[])
    (H : KPre G.hb G.mg G.mb ms fa c1 P1 docK pmK (.ref c1) ctK anK) (hk : G.mg "cmp_to_key" = some (.ref fa)) (hL : cdv = .ref cL) (hLd : CodeHd G.hb cL PL) (hA1 : A.depth ≤ 600) (hA2 : A.units ≤ 3000) :
    WP (stCx G A name qual doc pm cdv ct an f L n' PT) { vars := [("word", .list (zs w)), ("ties", tsD T)], mu := (PL, tqS qual) :: (P1, TabP oP) :: TabB oP } (bo 9) (Fin fun d mu => ∃ s c P, SrtOk T w s ∧ d = .list (zs s) ∧ mu = tabsS qual PL P1 c P) := by
  refine WP.setX (.inl rfl) (EvN.list (ds := []) EvL.nil (by simp)) ?_
  rintro d mu ⟨sa, rfl, rfl⟩
  refine WP.for (d := .list (zs w)) (ds := zs w) (fun k σ => σ.mu = (sa, .list (zs (stK T w k))) :: (PL, tqS qual) :: (P1, TabP oP) :: TabB oP ∧ σ.v "steps" = some (.ref sa) ∧ σ.v "word" = some (.list (zs w)) ∧ σ.v "ties" = some (tsD T))
    (Ev.name rfl) (.inl rfl) ⟨rfl, rfl, rfl, rfl⟩ (fun d σ => σ.set "a" d) (fun _ _ _ => rfl) (fun _ _ => rfl) (fun d σ => Asg.local rfl) (fun k d σ hk1 hI => ?_) (fun σ hI => ?_)
  · obtain ⟨hm, v1, v2, v3⟩ := hI
    have hk' : k < w.length := by have := (List.getElem?_eq_some_iff.mp hk1).1; rwa [zs_length] at this
    rw [zs_get w hk'] at hk1
    cases hk1
    have ha := hw.at hk'
    have hsu := stK_succ (T := T) hk'
    have hsl := stK_len (T := T) k (Nat.le_of_lt hk')
    generalize stK T w k = st at *
    generalize hag : w.getD k 0 = a at *
    refine WP.set (x := "step") (d := .int 0) (.inl rfl) Ev.int ?_
    refine WP.forZip (d1 := .list (zs w)) (d2 := .ref sa) (ds1 := zs w) (ds2 := zs st) (mu1 := σ.mu) (mu2 := σ.mu) ⟨rfl, hzip.1, hzip.2, rfl⟩ (EvX.of (Ev.name v2)) (EvX.of (Ev.name v1)) (fun j σ => σ.mu = (sa, .list (zs st)) :: (PL, tqS qual) :: (P1, TabP oP) :: TabB oP ∧ σ.v "steps" = some (.ref sa) ∧ σ.v "word" = some (.list (zs w)) ∧ σ.v "ties" = some (tsD T) ∧ σ.v "a" = some (.int a) ∧
      σ.v "step" = some (.int (((w.zip st).take j).foldl (fun s p => if tie T a p.1 && decide (s ≤ p.2) then p.2 + 1 else s) 0))) (.inl rfl) (.inl rfl) (fun j σ h => ⟨Items.list, Items.mu (by rw [h.1]; exact .head _)⟩) ⟨hm, v1, v2, v3, rfl, rfl⟩ (fun j σ da db hja hjb hJ => ?_) (fun σ hJ => ?_)
    · obtain ⟨hm, v1, v2, v3, va, vs⟩ := hJ
      have hj1 : j < w.length := by have := (List.getElem?_eq_some_iff.mp hja).1; rwa [zs_length] at this
      have hj2 : j < st.length := by have := (List.getElem?_eq_some_iff.mp hjb).1; rwa [zs_length] at this
      rw [zs_get w hj1] at hja
      rw [zs_get st hj2] at hjb
      cases hja; cases hjb
      have hb := hw.at hj1
      have hzj : (w.zip st)[j]? = some (w.getD j 0, st.getD j 0) := by
        rw [List.getElem?_zip_eq_some]
        exact ⟨by rw [getD_at hj1, List.getElem?_eq_getElem hj1], by rw [getD_at hj2, List.getElem?_eq_getElem hj2]⟩
      have hfs : ((w.zip st).take (j + 1)).foldl (fun s p => if tie T a p.1 && decide (s ≤ p.2) then p.2 + 1 else s) 0 = (fun (s : Int) (p : Int × Int) => if tie T a p.1 && decide (s ≤ p.2) then p.2 + 1 else s) (((w.zip st).take j).foldl (fun s p => if tie T a p.1 && decide (s ≤ p.2) then p.2 + 1 else s) 0) (w.getD j 0, st.getD j 0) := by
        rw [List.take_add_one, hzj, Option.toList_some, List.foldl_append]; rfl
      rw [hfs]
      generalize List.foldl (fun (s : Int) (p : Int × Int) => if (tie T a p.1 && decide (s ≤ p.2)) = true then p.2 + 1 else s) 0 (List.take j (w.zip st)) = s at *
      generalize w.getD j 0 = bb at *
      generalize st.getD j 0 = ah at *
      refine WP.ifs (b := tie T a bb && decide (s ≤ ah)) (EvT.and (EvT.bool (Ev.tie h4 ha hb (Ev.name (d := tsD T) v3) (Ev.name (d := .int a) va) (Ev.name (d := .int bb) rfl))) fun _ => EvT.cmp (Ev.name (d := .int ah) rfl) (Ev.name (d := .int s) vs) Cm.ge) (fun hb => ?_) (fun hb => ?_)
      · refine WP.set (x := "step") (d := .int (ah + 1)) (.inl rfl) (Ev.bin (Ev.name (d := .int ah) rfl) Ev.int Op.add) (WP.nil (WP.nil ⟨hm, v1, v2, v3, va, ?_⟩))
        simp only [hb, if_true]; rfl
      · refine WP.nil (WP.nil ⟨hm, v1, v2, v3, va, ?_⟩)
        simp only [hb, Bool.false_eq_true, if_false]; exact vs
    · obtain ⟨hm, v1, v2, v3, va, vs⟩ := hJ
      have e : (w.zip st).take (min (zs w).length (zs st).length) = w.zip st := by rw [zs_length, zs_length, ← List.length_zip, List.take_length]
      rw [e] at vs
      refine WP.nil ?_
      refine WP.exprX (EvX.append (a := sa) (ds := zs st) (e := .int (stepA T w st a)) (mu' := (sa, .list (zs st ++ [.int (stepA T w st a)])) :: (PL, tqS qual) :: (P1, TabP oP) :: TabB oP) (Ev.name v1) (Ev.name vs) (by rw [hm]; exact .head) (by rw [zs_length]; lia)) ?_
      rintro d mu ⟨rfl, rfl⟩
      refine WP.nil ⟨?_, v1, v2, v3⟩
      rw [hsu, ← zs_snoc]; rfl
  · obtain ⟨hm, v1, v2, v3⟩ := hI
    rw [zs_length, stK_all] at hm
    have hsl : (stepsW T w).length = w.length := by rw [← stK_all]; exact stK_len _ (Nat.le_refl _)
    refine WP.nil ?_
    have hzl : (((stepsW T w).zip w).map twD).length = w.length := by rw [List.length_map, List.length_zip, hsl, Nat.min_self]
    have hql : ((stepsW T w).zip w).length = w.length := by rw [List.length_zip, hsl, Nat.min_self]
    have hsrt : ∀ s, (∃ p, Ok ((stepsW T w).zip w).length p ∧ Asc (fun i => keyP (prI ((stepsW T w).zip w) i)) p ((stepsW T w).zip w).length ∧ s = (p.toList.map (prI ((stepsW T w).zip w))).map (·.2)) → SrtOk T w s := fun s ⟨p, h1, h2, h3⟩ => ⟨_, perm_at h1, asc_pair h1 h2, h3⟩
    generalize hst : stepsW T w = st at *
    have hq0 : ∀ i, i < w.length → (st.zip w)[i]? = some (prI (st.zip w) i) := fun i hi => by
      have : i < (st.zip w).length := by rw [hql]; exact hi
      rw [prI, List.getD_eq_getElem?_getD, List.getElem?_eq_getElem this]; rfl
    refine WP.setX (.inl rfl) (EvX.keyedG (J := Unit) (oP := oP) (PL := PL) (P1 := P1) (R := fun _ p => Ok (st.zip w).length p ∧ Asc (fun i => keyP (prI (st.zip w) i)) p (st.zip w).length) (ds := fun _ => (st.zip w).map twD) (ans := fun _ i j => 4 * ((prI (st.zip w) i).1 - (prI (st.zip w) j).1) + (prI (st.zip w) i).2 - (prI (st.zip w) j).2) (rest := fun _ => [(sa, .list (zs st))]) (n := 0 + 1) rfl B.sorted.1 B.sorted.2 rfl hk ?_ (fun _ => by rw [hzl]; lia) hgens H hL hLd rfl rfl (by show 0 + 1 + 3 ≤ n'; lia) (by show A.depth + 1 ≤ 700; lia) (by show A.units + 3 ≤ 4000; lia) ?_ (fun _ h2 => ?_) (fun _ h2 => ?_) (fun _ p h => by rw [hzl, ← hql]; simpa using h.1.size_eq)) ?_
    · refine EvX.mono (EvX.of (Ev.listZip ⟨rfl, B.list.1, B.list.2, rfl⟩ ⟨rfl, hzip.1, hzip.2, rfl⟩ (Ev.name v1) (Ev.name v2) (Items.mu (ds := zs st) (by rw [hm]; exact .head _)) Items.list (by rw [zs_length, zs_length, hsl]))) ?_
      rintro d mu ⟨rfl, rfl⟩
      refine ⟨(), by rw [zip_tw], ?_⟩
      rw [hm]
      exact (List.perm_append_comm (l₁ := [(sa, MO.list (zs st))]) (l₂ := (PL, tqS qual) :: (P1, TabP oP) :: TabB oP))
    · intro _ mu gl c' ctv
      refine ⟨LamN gl _, LamN.mon, fun K F s X hF => hF, fun i j d1 d2 h1 h2 => ?_⟩
      have hd : ∀ {i : Nat} {d : D}, ((st.zip w).map twD)[i]? = some d → d = twD (prI (st.zip w) i) := fun {i d} h => by
        have hi := (List.getElem?_eq_some_iff.mp h).1
        rw [hzl] at hi
        rw [List.getElem?_map, hq0 i hi] at h
        cases h; rfl
      rw [hd h1, hd h2]
      exact step_lam
    · rw [hzl] at h2 ⊢
      have e : (fun i j => decide (4 * ((prI (st.zip w) i).1 - (prI (st.zip w) j).1) + (prI (st.zip w) i).2 - (prI (st.zip w) j).2 < 0)) = kc (fun i => keyP (prI (st.zip w) i)) := by
        funext i j
        exact decide_eq_decide.mpr (by unfold keyP; lia)
      rw [e, hql]
      exact sort_st h2
    · rw [hzl] at h2 ⊢
      rw [hql]
      exact ⟨Array.Perm.refl _, fun a h => absurd (Nat.lt_of_lt_of_le h (Nat.le_of_lt_succ h2)) (Nat.not_lt.mpr (Nat.le_add_left _ _))⟩
    rintro d mu ⟨_, c, P, Da, p, hp, rfl, rfl⟩
    have hs := hsrt _ ⟨p, hp.1, hp.2, rfl⟩
    have hps : p.size = w.length := by rw [← hql]; simpa using hp.1.size_eq
    rw [permL_tw hp.1]
    generalize hgq : p.toList.map (prI (st.zip w)) = q at hs
    have hqz : q.length = w.length := by rw [← hgq, List.length_map, Array.length_toList, hps]
    refine WP.perm (mu' := tabsS qual PL P1 c P ++ [(Da, .list (q.map twD)), (sa, .list (zs st))]) ?_ ?_
    · show List.Perm _ ((Da, MO.list (q.map twD)) :: [(P1, TabP (some (c, P))), (PL, tqS qual), (P, TabQ qf)] ++ [(sa, MO.list (zs st))])
      exact (List.perm_middle (l₁ := tabsS qual PL P1 c P)).trans (List.Perm.cons _ (List.Perm.append_right _ (List.Perm.swap ..)))
    refine WP.perm (mu' := (Da, .list (q.map twD)) :: (tabsS qual PL P1 c P ++ [(sa, .list (zs st))])) (List.perm_middle (l₁ := tabsS qual PL P1 c P)).symm ?_
    refine WP.frz [("order", .list (q.map twD))] (a := Da) (ds := q.map twD) (mu := tabsS qual PL P1 c P ++ [(sa, .list (zs st))]) rfl (List.forall_mem_cons.mpr ⟨.inr ⟨rfl, rfl⟩, by simp⟩) ?_
    refine WP.drop (mu' := tabsS qual PL P1 c P) (List.sublist_append_left _ _) ?_
    refine WP.ret (d := .list (zs (q.map (·.2)))) (Ev.of_new (EvN.cast (EvC.ev (EvC.plain (scope := _) q twD (fun _ => true) (fun u => .int u.2) (compOk0 rfl rfl (by decide) (by decide)) (.inl rfl) (Ev.name (d := .list (q.map twD)) rfl) ItD.list (by lia) fun L2 x hx => ⟨rfl, fun hp => Ev.tupIdx (ds := [.int x.1, .int x.2]) (Ev.name rfl) Ev.int (by decide) rfl⟩)) ?_)) ⟨_, c, P, hs, rfl, rfl⟩
    rw [filter_tr, zs, List.map_map]; rfl
theorem steps_sem {fa c1 P1 cL PL : Addr} {w : Wd} {T : Tie} {ms : Str → Option Value} {docK pmK ctK : Value} {anK : Option Addr} {oP : Option (Addr × Addr)} (B : Bt G) (hzip : G.mg "zip" = none ∧ G.mb "zip" = some (.type "zip")) (h4 : T.length = 4 ∧ ∀ r ∈ T, r.length = 4) (hw : WdOk w) (hz : w.length ≤ 60) (hgens : G.s0.gens = #[])
    (H : KPre G.hb G.mg G.mb ms fa c1 P1 docK pmK (.ref c1) ctK anK) (hk : G.mg "cmp_to_key" = some (.ref fa)) (hLd : CodeHd G.hb cL PL) (hF : FnF G.hb.get? f (fdN 9 name qual .none .none doc pm an (.ref cL) ct)) :
    CallSem G 169 PT f ((PL, tqS qual) :: (P1, TabP oP) :: TabB oP) [.list (zs w), tsD T] (fun d mu => ∃ s c P, SrtOk T w s ∧ d = .list (zs s) ∧ mu = tabsS qual PL P1 c P) := by
  refine call_fn (n := 168) (fd := fdN 9 name qual .none .none doc pm an (.ref cL) ct) (ns := ["word", "ties"]) (body := bo 9) PT.mon ⟨rfl, fun s vs hb h => ?_, by decide, rfl, rfl, rfl, rfl, rfl⟩ (fun K F hb _ => hF.mono hb) (show ∀ x ∈ (sc 9).names, _ by decide) (show ∀ x ∈ (["word", "ties"] : List Str), (sc 9).names.lookup x = _ by decide) [] (fun K F _ => ⟨fun x hx => (nomatch hx), fun x d h => (nomatch h)⟩) List.Pairwise.nil (by simp) fun A L hr => ?_
  · match vs, h with
    | [a, b], _ => exact BindsTo.of_eq rfl
  · have h1 : A.depth + 3 * 169 + 20 < 1000 := hr.dp
    have h2 : A.units + 40 * 169 + 200 < 9900 := hr.un
    exact steps_body B hzip h4 hw hz (by lia) hgens H hk rfl hLd (by lia) (by lia)
end
end Mine
end

section
namespace Mine
theorem layW_perm (T : Tie) : ∀ (w : Wd) (a : Int), (layW T w a).Perm (a :: w)
  | [], _ => List.Perm.refl _
  | b :: w, a => by
    unfold layW
    split
    · exact (List.Perm.cons b (layW_perm T w a)).trans (List.Perm.swap ..)
    · exact List.Perm.refl _
theorem foldLay_perm (T : Tie) : ∀ (w l : Wd), (w.foldl (layW T) l).Perm (w ++ l)
  | [], l => List.Perm.refl _
  | a :: w, l => by
    rw [List.foldl_cons]
    refine (foldLay_perm T w _).trans ?_
    exact (List.Perm.append_left w (layW_perm T l a)).trans List.perm_middle
theorem leastW_perm (T : Tie) (w : Wd) : (leastW T w).Perm w := by have := foldLay_perm T w []; rwa [List.append_nil] at this
theorem WdOk.perm {w v : Wd} (h : WdOk w) (p : v.Perm w) : WdOk v := fun a ha => h a (p.mem_iff.mp ha)
theorem leastW_len (T : Tie) (w : Wd) : (leastW T w).length = w.length := (leastW_perm T w).length_eq
theorem leastW_ok {T : Tie} {w : Wd} (h : WdOk w) : WdOk (leastW T w) := h.perm (leastW_perm T w)
theorem numGo_len : ∀ (s : List Int) (w : Wd), (numGo s w).length = w.length
  | _, [] => rfl
  | s, a :: w => by rw [numGo, List.length_cons, numGo_len]; rfl
theorem numW_len (w : Wd) : (numW w).length = w.length := numGo_len _ _
theorem foldStep_len (T : Tie) (v : Wd) : ∀ (w : Wd) (st : List Int), (w.foldl (fun st a => st ++ [stepA T v st a]) st).length = st.length + w.length
  | [], st => rfl
  | a :: w, st => by
    rw [List.foldl_cons, foldStep_len T v w, List.length_append, List.length_cons, List.length_cons, List.length_nil]; lia
theorem stepsW_len (T : Tie) (w : Wd) : (stepsW T w).length = w.length := by have := foldStep_len T w w []; simpa [stepsW] using this
theorem SrtOk.perm {T : Tie} {w s : Wd} (h : SrtOk T w s) : s.Perm w := by
  obtain ⟨q, h1, _, rfl⟩ := h
  refine (h1.map _).trans ?_
  rw [List.map_snd_zip (by rw [stepsW_len]; exact Nat.le_refl _)]
theorem tiesW_dim (b : Int) : (tiesW b).length = 4 ∧ ∀ r ∈ tiesW b, r.length = 4 := by
  refine ⟨rfl, fun r hr => ?_⟩
  simp only [tiesW, List.mem_cons, List.not_mem_nil, or_false] at hr
  rcases hr with rfl | rfl | rfl | rfl <;> rfl
theorem let_cases {a : Int} (h : Let a) : a = 0 ∨ a = 1 ∨ a = 2 ∨ a = 3 := by obtain ⟨h1, h2⟩ := h; lia
theorem tiesW_ok (b : Int) : TieOk (tiesW b) := by
  refine ⟨(tiesW_dim b).1, (tiesW_dim b).2, fun a h => ?_, fun x y hx hy => ?_⟩
  · rcases let_cases h with rfl | rfl | rfl | rfl <;> rfl
  · rcases let_cases hx with rfl | rfl | rfl | rfl <;> rcases let_cases hy with rfl | rfl | rfl | rfl <;> rfl
theorem rowsT_small (T : Tie) (t : List Int) : (rowsT T t).length ≤ 10 ∧ ∀ r ∈ rowsT T t, r.length ≤ t.length := by
  refine ⟨?_, fun r hr => ?_⟩
  · have := List.length_filter_le (fun p : Int × Int => tie T p.1 p.2) pairsI
    have h6 : pairsI.length = 6 := rfl
    simp only [rowsT, List.length_append, List.length_map, List.length_cons, List.length_nil]
    lia
  · rcases List.mem_append.mp hr with h | h
    · obtain ⟨a, _, rfl⟩ := List.mem_map.mp h
      exact List.length_filter_le _ _
    · obtain ⟨a, _, rfl⟩ := List.mem_map.mp h
      exact List.length_filter_le _ _
theorem rowsW_small (T : Tie) (w : Wd) : (rowsW T w).length ≤ 10 ∧ ∀ r ∈ rowsW T w, r.length ≤ w.length := by
  have := rowsT_small T (numW w)
  rwa [numW_len] at this
theorem c3_len : ∀ (n : Nat) (rows : List (List Int)), (c3 n rows).1.length ≤ n
  | 0, _ => Nat.le_refl _
  | n + 1, rows => by
    unfold c3
    cases pick rows with
    | none => exact Nat.zero_le _
    | some c => simpa using c3_len n (strip c rows)
theorem total_le {rows : List (List Int)} {m : Nat} (h : ∀ r ∈ rows, r.length ≤ m) : total rows ≤ rows.length * m := by
  unfold total
  induction rows with
  | nil => simp
  | cons r rows ih =>
    have h1 := h r (.head _)
    have h2 := ih fun r hr => h r (.tail _ hr)
    rw [List.map_cons, List.sum_cons, List.length_cons, Nat.add_mul]
    lia
theorem mrg_len {rows : List (List Int)} {m : Nat} (h0 : rows.length ≤ 10) (h : ∀ r ∈ rows, r.length ≤ m) : (mrg rows).1.length ≤ 10 * m :=
  Nat.le_trans (c3_len _ _) (Nat.le_trans (total_le h) (Nat.mul_le_mul_right m h0))
theorem let_mod (x : Int) : Let (x.fmod 4) := ⟨Int.fmod_nonneg_of_pos _ (by decide), Int.fmod_lt_of_pos _ (by decide)⟩
theorem drawn1_ok (script : List Int) : WdOk (drawn1 script) := fun a ha => by
  obtain ⟨x, _, rfl⟩ := List.mem_map.mp ha
  exact let_mod x
theorem drawn1_len (script : List Int) : (drawn1 script).length ≤ 9 := by simp [drawn1]; lia
theorem drawn1_le (script : List Int) : (drawn1 script).length ≤ script.length := by simp [drawn1]; lia
theorem swapAt_perm {o : Wd} {p : Nat} (h : p + 1 < o.length) : (swapAt o p).Perm o := by
  have e : o = o.take p ++ ([o.getD p 0, o.getD (p + 1) 0] ++ o.drop (p + 2)) := by
    have h1 : o.drop p = o[p] :: o.drop (p + 1) := (List.getElem_cons_drop (h := by lia)).symm
    have h2 : o.drop (p + 1) = o[p + 1] :: o.drop (p + 2) := (List.getElem_cons_drop (h := h)).symm
    rw [getD_at h, getD_at (by lia : p < o.length)]
    show o = o.take p ++ (o[p] :: o[p + 1] :: o.drop (p + 2))
    rw [← h2, ← h1, List.take_append_drop]
  unfold swapAt
  conv => rhs; rw [e]
  rw [List.append_assoc]
  exact List.Perm.append_left _ (List.Perm.swap ..)
theorem swapF_perm (script : List Int) (w : Wd) : ∀ k, k ≤ w.length - 1 → ((List.range k).foldl (fun o p => if ((script.getD p 0).fdiv 4).fmod 2 == 1 then swapAt o p else o) w).Perm w
  | 0, _ => List.Perm.refl _
  | k + 1, h => by
    have ih := swapF_perm script w k (by lia)
    rw [List.range_succ, List.foldl_append, List.foldl_cons, List.foldl_nil]
    split
    · exact (swapAt_perm (by rw [ih.length_eq]; lia)).trans ih
    · exact ih
theorem swapW_perm (w : Wd) (script : List Int) : (swapW w script).Perm w := swapF_perm script w _ (Nat.le_refl _)
theorem mixG_map {α β : Type} (f : α → β) : ∀ (t : Int) (a b : List α), (mixG t a b).map f = mixG t (a.map f) (b.map f)
  | _, [], _ => by simp [mixG]
  | _, _ :: _, [] => by simp [mixG]
  | t, x :: a, y :: b => by
    simp only [mixG, List.map_cons, mixG_map f (t + 1) a b]
    congr 1
    split <;> rfl
theorem mixG_take {α : Type} : ∀ (t : Int) (a b : List α) (j : Nat) {x y : α}, a[j]? = some x → b[j]? = some y → mixG t (a.take (j + 1)) (b.take (j + 1)) = mixG t (a.take j) (b.take j) ++ [if (t + j).fmod 2 == 0 then y else x]
  | _, [], _, _, _, _, h, _ => by simp at h
  | _, _ :: _, [], _, _, _, _, h => by simp at h
  | t, x :: a, y :: b, 0, _, _, h1, h2 => by
    simp only [List.getElem?_cons_zero, Option.some.injEq] at h1 h2
    subst h1 h2
    simp [mixG]
  | t, x :: a, y :: b, j + 1, _, _, h1, h2 => by
    simp only [List.getElem?_cons_succ] at h1 h2
    have ih := mixG_take (t + 1) a b j h1 h2
    simp only [List.take_succ_cons, mixG, List.cons_append, ih]
    rw [show t + 1 + (j : Int) = t + ((j + 1 : Nat) : Int) by lia]
theorem mixG_len {α : Type} : ∀ (t : Int) (a b : List α), (mixG t a b).length = min a.length b.length
  | _, [], _ => by simp [mixG]
  | _, _ :: _, [] => by simp [mixG]
  | t, _ :: a, _ :: b => by simp only [mixG, List.length_cons, mixG_len (t + 1) a b]; lia
theorem mod_two (t : Int) : ((t + 1).fmod 2 == 0) = !(t.fmod 2 == 0) := by
  have h1 := Int.fmod_eq_emod_of_nonneg t (b := 2) (by decide)
  have h2 := Int.fmod_eq_emod_of_nonneg (t + 1) (b := 2) (by decide)
  rw [h1, h2]
  by_cases h : t % 2 = 0
  · have : (t + 1) % 2 = 1 := by lia
    rw [h, this]; rfl
  · have h3 : t % 2 = 1 := by lia
    have : (t + 1) % 2 = 0 := by lia
    rw [h3, this]; rfl
theorem mixG_perm {α : Type} : ∀ (t : Int) (a b : List α), a.length = b.length → (b ++ a).Perm (mixG t a b ++ mixG (t + 1) a b)
  | _, [], [], _ => List.Perm.refl _
  | t, x :: a, y :: b, h => by
    have ih := mixG_perm (t + 1) a b (by simpa using h)
    simp only [mixG]
    rw [mod_two]
    have h1 : (y :: b ++ x :: a).Perm (y :: x :: (b ++ a)) := List.Perm.cons _ List.perm_middle
    have h2 : ∀ u v : α, (u :: mixG (t + 1) a b ++ v :: mixG (t + 1 + 1) a b).Perm (u :: v :: (mixG (t + 1) a b ++ mixG (t + 1 + 1) a b)) := fun u v => List.Perm.cons _ List.perm_middle
    by_cases ht : (t.fmod 2 == 0) = true
    · simp only [ht, if_true, Bool.not_true, Bool.false_eq_true, if_false]
      exact (h1.trans ((ih.cons _).cons _)).trans (h2 y x).symm
    · have ht' : (t.fmod 2 == 0) = false := by simpa using ht
      simp only [ht', Bool.false_eq_true, if_false, Bool.not_false, if_true]
      exact ((h1.trans (List.Perm.swap ..)).trans ((ih.cons _).cons _)).trans (h2 x y).symm
  | _, [], _ :: _, h => by simp at h
  | _, _ :: _, [], h => by simp at h
theorem rowsW_cnt (T : Tie) (w o : Wd) : (rowsW T w).length = (rowsW T o).length := by simp [rowsW, rowsT]
end Mine
end

section
set_option Elab.async false
set_option linter.unusedVariables false
set_option linter.unusedSimpArgs false
set_option maxRecDepth 100000
namespace Mine
open PySem PySem.W PyProof.Rows PySem.Calls
noncomputable abbrev TDim (T : Tie) : Prop := T.length = 4 ∧ ∀ r ∈ T, r.length = 4
structure Fns1 (G : Gx) (PLs P1 : Addr) (qs : Str) : Prop where
  ties : ∃ f, G.mg "_law_ties" = some (.ref f) ∧ ∀ b, CallSem G 20 PT f [] [.int b] (Pure (tsD (tiesW b)))
  swap : ∃ f, G.mg "_law_swapped" = some (.ref f) ∧ ∀ w script, w.length ≤ 60 → w.length ≤ script.length → CallSem G 20 PT f [] [.list (zs w), .list (zs script)] (Pure (.list (zs (swapW w script))))
  num : ∃ f, G.mg "_law_numbers" = some (.ref f) ∧ ∀ w, WdOk w → w.length ≤ 100 → CallSem G 20 PT f [] [.list (zs w)] (Pure (.list (zs (numW w))))
  rows : ∃ f, G.mg "_law_rows" = some (.ref f) ∧ ∀ w T, TDim T → WdOk w → w.length ≤ 100 → CallSem G 20 PT f [] [.list (zs w), tsD T] (fun d mu => ∃ prs, rowsOf prs = rowsW T w ∧ d = .list (refs prs) ∧ mu = ent prs)
  alike : ∃ f, G.mg "_law_alike" = some (.ref f) ∧ ∀ w o T, TDim T → WdOk w → WdOk o → o.length ≤ 60 → CallSem G 20 PT f [] [.list (zs w), .list (zs o), tsD T] (Pure (.bool (alikeW T w o)))
  steps : ∃ f, G.mg "_law_steps" = some (.ref f) ∧ ∀ w T oP, TDim T → WdOk w → w.length ≤ 60 → CallSem G 169 PT f ((PLs, tqS qs) :: (P1, TabP oP) :: TabB oP) [.list (zs w), tsD T] (fun d mu => ∃ s c P, SrtOk T w s ∧ d = .list (zs s) ∧ mu = tabsS qs PLs P1 c P)
  lay : ∃ f, G.mg "_law_lay" = some (.ref f) ∧ ∀ w a T, TDim T → WdOk w → Let a → w.length ≤ 100 → CallSem G 5 PT f [] [.list (zs w), .int a, tsD T] (Pure (.list (zs (layW T w a))))
  red : ∃ f, G.mg "reduce" = some (.ref f) ∧ ∀ (P : Pred) (g : Addr) (ds : List D) (acc : Nat → D), P.Mon → IsCont (acc 0) → (∀ k d, ds[k]? = some d → CallSem G 10 P g [] [acc k, d] (Pure (acc (k + 1)))) → CallSem G 20 P f [] [.ref g, .list ds, acc 0] (Pure (acc ds.length))
  c3 : ∃ f, G.mg "_c3_merge" = some (.ref f) ∧ ∃ name qual doc pm an cdv ct, FnF G.hb.get? f (fdN 4 name qual .none .none doc pm an cdv ct)
  met : ∃ f, G.mg "_law_met" = some (.ref f) ∧ ∃ name qual doc pm an cdv ct, FnF G.hb.get? f (fdN 13 name qual .none .none doc pm an cdv ct)
  zip : G.mg "zip" = none ∧ G.mb "zip" = some (.type "zip")
  rerr : G.mg "RuntimeError" = none ∧ G.mb "RuntimeError" = some (.type "RuntimeError")
noncomputable def LamC (gl : Addr) (fd : FuncData) (c : Addr) (d : D) : Pred := fun K F => FnF F gl fd ∧ ∃ o v, K c = some o ∧ o.data = .cell (some v) ∧ Rep F v d
theorem LamC.mon {gl : Addr} {fd : FuncData} {c : Addr} {d : D} : (LamC gl fd c d).Mon := fun K K' F F' ⟨h1, o, v, h2, h3, h4⟩ gK gF => ⟨h1.mono gF, o, v, gK _ _ h2, h3, h4.mono gF⟩
noncomputable abbrev layFn (qual : Str) (q1 q2 p1 p2 p3 p4 p5 : Pos) (cA c' : Addr) (pm ctv : Value) : FuncData := kla_fn "<lambda>" qual { posonlyargs := [], args := [⟨"laid", none, q1⟩, ⟨"a", none, q2⟩], vararg := none, kwonlyargs := [], kw_defaults := [], kwarg := none, defaults := [] }
      (.Call (.Name "_law_lay" p1) [.Name "laid" p2, .Name "a" p3, .Name "ties" p4] [] p5) { kind := .function, names := [("laid", .local), ("a", .local), ("ties", .free), ("_law_lay", .globalImplicit)], isGenerator := false, isCoroutine := false } [("ties", cA)] pm (.ref c') ctv
theorem lay_lam {G : Gx} {n m : Nat} {gl c' cA fl : Addr} {pm ctv : Value} {qual : Str} {q1 q2 p1 p2 p3 p4 p5 : Pos} {T : Tie} {l : Wd} {a : Int} (hl : G.mg "_law_lay" = some (.ref fl)) (hs : CallSem G m PT fl [] [.list (zs l), .int a, tsD T] (Pure (.list (zs (layW T l a))))) (hm : m ≤ n) :
    CallSem G (n + 1) (LamC gl (layFn qual q1 q2 p1 p2 p3 p4 p5 cA c' pm ctv) cA (tsD T)) gl [] [.list (zs l), .int a] (Pure (.list (zs (layW T l a)))) := by
  refine call_lam (ns := ["laid", "a"]) LamC.mon ⟨rfl, fun vs h => ?_, by decide, rfl, rfl, rfl, rfl, rfl⟩ (fun K F _ h => h.1) (show ∀ x ∈ ([("laid", .local), ("a", .local), ("ties", .free), ("_law_lay", .globalImplicit)] : List (Str × NameKind)), x.2 ≠ .cell by decide) (show ∀ x ∈ (["laid", "a"] : List Str), ([("laid", .local), ("a", .local), ("ties", .free), ("_law_lay", .globalImplicit)] : List (Str × NameKind)).lookup x = some .local by decide) [("ties", tsD T)] (fun K F h => ?_) (List.pairwise_singleton _ _) [] (fun K F h p hp => nomatch hp) fun A' L' hr => ?_
  · match vs, h with
    | [a, b], _ => rfl
  · obtain ⟨h1, o, v, h2, h3, h4⟩ := h
    refine ⟨fun x hx => ?_, fun x d hx => ?_⟩
    · obtain rfl := List.mem_singleton.mp hx
      exact ⟨o, _, h2, h3⟩
    · have := mem_of_lookup hx
      simp only [List.mem_singleton] at this
      cases this
      exact ⟨cA, o, v, rfl, rfl, h2, h3, h4⟩
  · refine EvX.mono (EvX.of (Ev.call (d := .list (zs (layW T l a))) (Ev.glob rfl hl) (EvL.cons (Ev.name (d := .list (zs l)) rfl) (EvL.cons (Ev.name (d := .int a) rfl) (EvL.cons (Ev.name (d := tsD T) rfl) EvL.nil))) hs hm (fun K F s X => trivial))) ?_
    rintro d mu ⟨rfl, rfl⟩
    exact ⟨rfl, rfl⟩
section
variable {G : Gx} {PLs P1 PL : Addr} {qs : Str}
theorem Fns1.redW (FN : Fns1 G PLs P1 qs) : ∃ f, G.mg "reduce" = some (.ref f) ∧ ∀ {gl c' cA : Addr} {pm ctv : Value} {qual : Str} {q1 q2 p1 p2 p3 p4 p5 : Pos} {T : Tie} {w : Wd}, TDim T → WdOk w → w.length ≤ 100 →
    CallSem G 20 (LamC gl (layFn qual q1 q2 p1 p2 p3 p4 p5 cA c' pm ctv) cA (tsD T)) f [] [.ref gl, .list (zs w), .list (zs [])] (Pure (.list (zs (leastW T w)))) := by
  obtain ⟨f, h1, h2⟩ := FN.red
  obtain ⟨fl, hl, hs⟩ := FN.lay
  refine ⟨f, h1, fun {gl c' cA pm ctv qual q1 q2 p1 p2 p3 p4 p5 T w} hT hw hz => ?_⟩
  have := h2 (LamC gl (layFn qual q1 q2 p1 p2 p3 p4 p5 cA c' pm ctv) cA (tsD T)) gl (zs w) (fun k => .list (zs (leastW T (w.take k)))) LamC.mon (.inl ⟨_, rfl⟩) fun k d hk => ?_
  · rw [zs_length, List.take_length] at this
    exact this
  · have hk' : k < w.length := by
      have := (List.getElem?_eq_some_iff.mp hk).1
      rwa [zs_length] at this
    rw [zs_get w hk'] at hk
    cases hk
    have e : leastW T (w.take (k + 1)) = layW T (leastW T (w.take k)) (w.getD k 0) := by
      rw [leastW, List.take_add_one, List.getElem?_eq_getElem hk', Option.toList_some, List.foldl_append, getD_at hk']; rfl
    rw [e]
    have hok : WdOk (w.take k) := fun x hx => hw x (List.mem_of_mem_take hx)
    exact lay_lam (n := 9) hl (hs _ _ _ hT (leastW_ok hok) (hw.at hk') (by rw [leastW_len, List.length_take]; lia)) (by decide)
end
section
variable {C : Cx} {σ : St} {Φ : Out → St → Prop} {PLs P1 PL : Addr} {qs : Str}
theorem vwRefs : ∀ {prs : Prs}, (∀ p ∈ prs, (p.1, MO.list (zs p.2)) ∈ σ.mu) → VwL C σ (refs prs) ((rowsOf prs).map (encList encInt).py)
  | [], _ => .nil
  | p :: prs, h => .cons (Vs.muz (.inl (h p (.head _)))) (vwRefs fun q hq => h q (.tail _ hq))
theorem Vs.refs {prs : Prs} (h : ∀ p ∈ prs, (p.1, MO.list (zs p.2)) ∈ σ.mu) : Vs (encList (encList encInt)) C σ (.list (Mine.refs prs)) (rowsOf prs) := Vw.list (vwRefs h)
theorem evNum {e : Expr} {w : Wd} {p q : Pos} (FN : Fns1 C.G PLs P1 qs) (hn : 20 ≤ C.rm) (hk : C.env.kindOf "_law_numbers" = some .globalImplicit) (he : Ev C σ e (.list (zs w))) (hw : WdOk w) (hz : w.length ≤ 100) (hs : starEach [e] C.env = (false, eval e C.env) :: starEach [] C.env := by rfl) :
    Ev C σ (.Call (.Name "_law_numbers" p) [e] [] q) (.list (zs (numW w))) := by
  obtain ⟨f, h1, h2⟩ := FN.num
  exact Ev.call (Ev.glob hk h1) (EvL.cons he EvL.nil hs) (h2 w hw hz) hn (fun _ _ _ _ => trivial) hs
theorem evRowsX {e1 e2 : Expr} {w : Wd} {T : Tie} {p q : Pos} (FN : Fns1 C.G PLs P1 qs) (hn : 20 ≤ C.rm) (hk : C.env.kindOf "_law_rows" = some .globalImplicit) (h1 : Ev C σ e1 (.list (zs w))) (h2 : Ev C σ e2 (tsD T)) (hT : TDim T) (hw : WdOk w) (hz : w.length ≤ 100) (hs : starEach [e1, e2] C.env = (false, eval e1 C.env) :: starEach [e2] C.env := by rfl) (hs2 : starEach [e2] C.env = (false, eval e2 C.env) :: starEach [] C.env := by rfl) :
    EvX C σ (.Call (.Name "_law_rows" p) [e1, e2] [] q) (fun d mu => ∃ prs, rowsOf prs = rowsW T w ∧ d = .list (refs prs) ∧ mu = ent prs ++ σ.mu) := by
  obtain ⟨f, g1, g2⟩ := FN.rows
  refine EvX.mono (EvX.callP (Ev.glob hk g1) (EvL.cons h1 (EvL.cons h2 EvL.nil hs2) hs) (g2 w T hT hw hz) hn (fun _ _ _ _ => trivial) hs) ?_
  rintro d mu ⟨mu', ⟨prs, a, b, c⟩, d⟩
  exact ⟨prs, a, b, by rw [d, c]⟩
theorem evRows {e1 e2 : Expr} {w : Wd} {T : Tie} {p q : Pos} (FN : Fns1 C.G PLs P1 qs) (hn : 20 ≤ C.rm) (hk : C.env.kindOf "_law_rows" = some .globalImplicit) (h1 : Ev C σ e1 (.list (zs w))) (h2 : Ev C σ e2 (tsD T)) (hT : TDim T) (hw : WdOk w) (hz : w.length ≤ 100) (hs : starEach [e1, e2] C.env = (false, eval e1 C.env) :: starEach [e2] C.env := by rfl) (hs2 : starEach [e2] C.env = (false, eval e2 C.env) :: starEach [] C.env := by rfl) :
    Ev C σ (.Call (.Name "_law_rows" p) [e1, e2] [] q) (.list (zss (rowsW T w))) := Ev.of_rows (evRowsX FN hn hk h1 h2 hT hw hz hs hs2)
structure LayAt (C : Cx) (PL gl cA : Addr) (fd : FuncData) (T : Tie) (σ : St) : Prop where
  v1 : σ.v "lay" = some (.ref gl)
  v2 : σ.v "ties" = some (tsD T)
  mem : (PL, TabL gl fd) ∈ σ.mu
theorem evRed {e : Expr} {w : Wd} {T : Tie} {gl c' cA : Addr} {pm ctv : Value} {qual : Str} {q1 q2 p1 p2 p3 p4 p5 : Pos} {p q r t : Pos} (FN : Fns1 C.G PLs P1 qs) (hn : 20 ≤ C.rm) (hk : C.env.kindOf "reduce" = some .globalImplicit) (hc1 : C.env.kindOf "ties" = some .cell) (hc2 : C.env.cells.lookup ("ties" : Str) = some cA) (hc3 : cA ∈ C.priv)
    (LA : LayAt C PL gl cA (layFn qual q1 q2 p1 p2 p3 p4 p5 cA c' pm ctv) T σ) (he : Ev C σ e (.list (zs w))) (hT : TDim T) (hw : WdOk w) (hz : w.length ≤ 100) (hs : starEach [e, .List [] r] C.env = (false, eval e C.env) :: starEach [.List [] r] C.env := by rfl) :
    Ev C σ (.Call (.Name "reduce" p) [.Name "lay" t, e, .List [] r] [] q) (.list (zs (leastW T w))) := by
  obtain ⟨f, g1, g2⟩ := FN.redW
  refine Ev.call (P := LamC gl (layFn qual q1 q2 p1 p2 p3 p4 p5 cA c' pm ctv) cA (tsD T)) (Ev.glob hk g1) (EvL.cons (Ev.name LA.v1) (EvL.cons he (EvL.cons (Ev.of_new (EvN.list (ds := zs []) EvL.nil (by simp))) EvL.nil) hs)) (g2 hT hw hz) hn (fun K F s X => ?_)
  refine ⟨X.tabL LA.mem, ?_⟩
  obtain ⟨m0, hn0, hm0⟩ := X.loc
  obtain ⟨v, hv, hr⟩ := hm0 "ties" _ LA.v2
  unfold VarAt at hv
  rw [hc1] at hv
  obtain ⟨c, q1, o, q2, q3⟩ := hv
  rw [hc2] at q1
  cases q1
  exact ⟨o, v, full_of (X.priv cA hc3).1 List.not_mem_nil q2, q3, hr⟩
theorem evC3 {e : Expr} {prs : Prs} {oth : Mu} {p q : Pos} (FN : Fns1 C.G PLs P1 qs) (hn : 20 ≤ C.rm) (hk : C.env.kindOf "_c3_merge" = some .globalImplicit) (he : Ev C σ e (.list (refs prs))) (hσ : σ.mu.Perm (ent prs ++ oth)) (hz1 : prs.length ≤ 1000) (hz2 : ∀ p ∈ prs, p.2.length ≤ 1000) (h1 : ∀ r ∈ (mrg (rowsOf prs)).2, r = []) (h2 : (mrg (rowsOf prs)).1.length ≤ 1000)
    (hs : starEach [e] C.env = (false, eval e C.env) :: starEach [] C.env := by rfl) :
    EvD C σ (.Call (.Name "_c3_merge" p) [e] [] q) (.list (zs (mrg (rowsOf prs)).1)) (ent (prs.map fun p => (p.1, [])) ++ oth) := by
  obtain ⟨f, g1, nc, qc, dc, pc, ac, cdc, ctc, g2⟩ := FN.c3
  exact EvX.mono (EvX.callS (Ev.glob hk g1) (EvL.cons he EvL.nil hs) hσ (c3_sem (n := 19) PT.mon g2 hz1 hz2 h1 h2) hn (fun _ _ _ _ => trivial) hs) fun d mu h => by
    obtain ⟨mu', ⟨h1, h2⟩, h3⟩ := h
    exact ⟨h1, by rw [h3, h2]⟩
theorem empties {e : Expr} {scope : Scope} {px p1 : Pos} {pos : Pos} (hs1 : closureFor scope C.env = pure []) (hs2 : scope.kind = .function) (hs3 : ∀ y ∈ scope.names, y.2 = .local → scope.names.lookup y.1 = some .local) (hs4 : ∀ y ∈ scope.names, y.2 ≠ .cell) (hs5 : scope.names.lookup ("row" : Str) = some .local)
    {d : D} {ds : List D} (he : Ev C σ e d) (hi : ItD C σ d ds) (hz : ds.length ≤ 1000) (hs : ∀ x, foldedSetIterable e C.env x = pure x := by intro _; rfl) :
    Ev C σ (.ListComp (.List [] p1) [⟨.Name "row" px, e, [], 0⟩] scope pos) (.list (zss (ds.map fun _ => []))) := by
  refine Ev.cast (Ev.of_fresh (EvC.ev (EvC.fresh (scope := scope) ds id (fun _ => true) (fun _ => []) (compOk0 hs1 hs2 hs3 hs4) (.inl hs5) he (by rw [List.map_id]; exact hi) (by lia) (fun L nm a ha => ⟨rfl, fun _ => EvN.list EvL.nil (by simp)⟩) hs))) ?_
  rw [filter_tr, zss, List.map_map, List.map_map]; rfl
end
end Mine
end

section
set_option Elab.async false
set_option linter.unusedVariables false
set_option linter.unusedSimpArgs false
set_option maxRecDepth 100000
namespace Mine
open PySem PySem.W PyProof.Rows PySem.Calls
noncomputable def IsLay (fd : FuncData) (cA : Addr) : Prop := ∃ qual q1 q2 p1 p2 p3 p4 p5 c' pm ctv, fd = layFn qual q1 q2 p1 p2 p3 p4 p5 cA c' pm ctv
noncomputable def tb14 : List Stmt := match ((bo 14)[7]?).getD (.Pass ⟨0, 0, 0, 0⟩) with | .For _ _ b _ _ => b | _ => []
section
variable {G : Gx} {f : Addr} {name qual : Str} {doc pm cdv ct : Value} {an : Option Addr} {A : Around} {L : Addr} {n : Nat} {PLs P1 PL : Addr} {qs : Str} {Φ : Out → St → Prop}
noncomputable abbrev l1Cx (G : Gx) (A : Around) (name qual : Str) (doc pm cdv ct : Value) (an : Option Addr) (f L : Addr) (n : Nat) (P : Pred) : Cx := fnCxC G A (fdN 14 name qual .none .none doc pm an cdv ct) f L n P
noncomputable abbrev tqL (qual : Str) : MO := TabQ fun _ => qual ++ ".<locals>." ++ "<lambda>"
noncomputable abbrev lawMu (PLs P1 PL : Addr) (qs : Str) (la so gl : Addr) (fd : FuncData) (ls ss : List D) (oP : Option (Addr × Addr)) : Mu := (so, .list ss) :: (la, .list ls) :: (PL, TabL gl fd) :: (PLs, tqS qs) :: (P1, TabP oP) :: TabB oP
theorem evR {σ : St} {e : Expr} {w : Wd} {T : Tie} {gl : Addr} {fd : FuncData} {p q r t : Pos} (FN : Fns1 G PLs P1 qs) (hn : 20 ≤ n) (hL : IsLay fd (L + 1)) (v1 : σ.v "lay" = some (.ref gl)) (v2 : σ.v "ties" = some (tsD T)) (hm : (PL, TabL gl fd) ∈ σ.mu) (he : Ev (l1Cx G A name qual doc pm cdv ct an f L n PT) σ e (.list (zs w))) (hT : TDim T) (hw : WdOk w) (hz : w.length ≤ 100)
    (hs : starEach [e, .List [] r] (l1Cx G A name qual doc pm cdv ct an f L n PT).env = (false, eval e (l1Cx G A name qual doc pm cdv ct an f L n PT).env) :: starEach [.List [] r] (l1Cx G A name qual doc pm cdv ct an f L n PT).env := by rfl) :
    Ev (l1Cx G A name qual doc pm cdv ct an f L n PT) σ (.Call (.Name "reduce" p) [.Name "lay" t, e, .List [] r] [] q) (.list (zs (leastW T w))) := by
  obtain ⟨ql, q1, q2, p1, p2, p3, p4, p5, c', pml, ctv, rfl⟩ := hL
  exact evRed (C := l1Cx G A name qual doc pm cdv ct an f L n PT) (PL := PL) FN hn rfl rfl rfl (by show L + 1 ∈ [L, L + 1]; simp) ⟨v1, v2, hm⟩ he hT hw hz hs
theorem law1_head {script : List Int} {fa c1 cL : Addr} {ms : Str → Option Value} {docK pmK ctK : Value} {anK : Option Addr} (B : Bt G) (FN : Fns1 G PLs P1 qs) (hlen : script.length ≤ 63) (hn : 20 ≤ n) (hgens : G.s0.gens = #[]) (H : KPre G.hb G.mg G.mb ms fa c1 P1 docK pmK (.ref c1) ctK anK) (hL : cdv = .ref cL) (hLd : CodeHd G.hb cL PL)
    (h : ∀ la so gl fd, IsLay fd (L + 1) → WP (l1Cx G A name qual doc pm cdv ct an f L n PT) { vars := [("total", .int script.sum), ("ties", tsD (tiesW (script.sum.fmod 64))), ("word", .list (zs (drawn1 script))), ("other", .list (zs (swapW (drawn1 script) script))), ("lay", .ref gl), ("leasts", .ref la), ("sortings", .ref so)], mu := lawMu PLs P1 PL qs la so gl fd [] [] none } ((bo 14).drop 7) Φ) :
    WP (l1Cx G A name qual doc pm cdv ct an f L n PT) { vars := [("script", .list (zs script))], mu := [(PL, tqL qual), (PLs, tqS qs), (P1, TabP none)] } (bo 14) Φ := by
  obtain ⟨ft, t1, t2⟩ := FN.ties
  obtain ⟨fs, s1, s2⟩ := FN.swap
  refine WP.set (d := .int script.sum) (.inl rfl) (Ev.of_just (EvX.call1 (.inl ⟨_, rfl⟩) ⟨rfl, B.sum.1, B.sum.2, rfl⟩ (Ev.name (d := .list (zs script)) rfl) (C1.sum Items.list))) ?_
  refine WP.set (x := "ties") (d := tsD (tiesW (script.sum.fmod 64))) (.inr ⟨rfl, L + 1, rfl, by show L + 1 ∈ [L, L + 1]; simp⟩) (Ev.call (Ev.glob rfl t1) (EvL.cons (Ev.bin (Ev.name (d := .int script.sum) rfl) Ev.int (Op.mod (by decide))) EvL.nil) (t2 _) hn (fun _ _ _ _ => trivial)) ?_
  generalize tiesW (script.sum.fmod 64) = T at *
  refine WP.setC rfl (EvC.plain (scope := _) (script.take 9) D.int (fun _ => true) (fun x => .int (x.fmod 4)) (compOk0 rfl rfl (by decide) (by decide)) (.inl rfl)
    (Ev.of_new (EvN.cast (EvN.upto (n := 9) (Ev.name (d := .list (zs script)) rfl) Items.list Ev.int) (zs_take _ _))) ItD.list (by rw [List.length_take]; lia) fun L' x hx => ⟨rfl, fun _ => Ev.bin (Ev.name rfl) Ev.int (Op.mod (by decide))⟩) ?_
  rintro d mu ⟨wa, rfl, rfl⟩
  refine WP.frz [("total", .int script.sum), ("ties", tsD T), ("script", .list (zs script)), ("word", .list (zs (drawn1 script)))] (a := wa) (ds := zs (drawn1 script)) (mu := [(PL, tqL qual), (PLs, tqS qs), (P1, TabP none)]) ?_ (List.forall_mem_cons.mpr ⟨.inl rfl, List.forall_mem_cons.mpr ⟨.inl rfl, List.forall_mem_cons.mpr ⟨.inl rfl, List.forall_mem_cons.mpr ⟨.inr ⟨rfl, rfl⟩, by simp⟩⟩⟩⟩) ?_
  · rw [filter_tr]
    have e : zs (drawn1 script) = (script.take 9).map fun x => D.int (x.fmod 4) := by rw [drawn1, zs, List.map_map]; rfl
    rw [e]; rfl
  have hw := drawn1_len script
  have hw2 := drawn1_le script
  generalize drawn1 script = w at *
  refine WP.set (x := "other") (d := .list (zs (swapW w script))) (.inl rfl) (Ev.call (Ev.glob rfl s1) (EvL.cons (Ev.name (d := .list (zs w)) rfl) (EvL.cons (Ev.name (d := .list (zs script)) rfl) EvL.nil)) (s2 w script (by lia) hw2) hn (fun _ _ _ _ => trivial)) ?_
  generalize swapW w script = o at *
  refine WP.setX (.inl rfl) (EvX.lam (PL := PL) (rest := [(PLs, tqS qs), (P1, TabP none)]) (clos := [("ties", L + 1)]) (List.Perm.refl _) hgens H hL hLd rfl rfl) ?_
  rintro d mu ⟨gl, c', ctv, rfl, rfl⟩
  refine WP.setX (.inl rfl) (EvN.list (ds := []) EvL.nil (by simp)) ?_
  rintro d mu ⟨la, rfl, rfl⟩
  refine WP.setX (.inl rfl) (EvN.list (ds := []) EvL.nil (by simp)) ?_
  rintro d mu ⟨so, rfl, rfl⟩
  refine WP.keep [("total", .int script.sum), ("ties", tsD T), ("word", .list (zs w)), ("other", .list (zs o)), ("lay", .ref gl), ("leasts", .ref la), ("sortings", .ref so)] (List.forall_mem_cons.mpr ⟨rfl, List.forall_mem_cons.mpr ⟨rfl, List.forall_mem_cons.mpr ⟨rfl, List.forall_mem_cons.mpr ⟨rfl, List.forall_mem_cons.mpr ⟨rfl, List.forall_mem_cons.mpr ⟨rfl, List.forall_mem_cons.mpr ⟨rfl, by simp⟩⟩⟩⟩⟩⟩⟩) ?_
  exact h la so gl _ ⟨_, _, _, _, _, _, _, _, _, _, _, rfl⟩
theorem law1_turn {σ : St} {T : Tie} {v : Wd} {la so gl : Addr} {fd : FuncData} {ls ss : List D} {oP : Option (Addr × Addr)} (FN : Fns1 G PLs P1 qs) (hn : 169 ≤ n) (hL : IsLay fd (L + 1)) (hT : TDim T) (ONE : OneOk T v) (hv : WdOk v) (hz : v.length ≤ 9) (hls : ls.length ≤ 10) (hss : ss.length ≤ 10)
    (hm : σ.mu = lawMu PLs P1 PL qs la so gl fd ls ss oP) (v0 : σ.v "drawn" = some (.list (zs v))) (v1 : σ.v "lay" = some (.ref gl)) (v2 : σ.v "ties" = some (tsD T)) (v3 : σ.v "leasts" = some (.ref la)) (v4 : σ.v "sortings" = some (.ref so))
    (hnext : ∀ σ' s c P, SrtOk T v s → σ'.mu = lawMu PLs P1 PL qs la so gl fd (ls ++ [.list (zs (leastW T v))]) (ss ++ [.list (zs s)]) (some (c, P)) → (∀ x ∈ (["total", "ties", "word", "other", "lay", "leasts", "sortings"] : List Str), σ'.v x = σ.v x) → Φ .next σ') :
    WP (l1Cx G A name qual doc pm cdv ct an f L n PT) σ tb14 Φ := by
  have hmem : ∀ {mu : Mu}, (PL, TabL gl fd) ∈ mu ++ lawMu PLs P1 PL qs la so gl fd ls ss oP := fun {mu} => List.mem_append_right _ (.tail _ (.tail _ (.head _)))
  have hle := leastW_len T v
  have hlo := leastW_ok (T := T) hv
  have hrl := rowsW_small T v
  have hn20 : 20 ≤ n := by lia
  refine WP.set (x := "least") (d := .list (zs (leastW T v))) (.inl rfl) (evR (PL := PL) FN hn20 hL v1 v2 (by rw [hm]; exact hmem (mu := [])) (Ev.name v0) hT hv (by lia)) ?_
  have hrows := ONE.rows
  have hsrt := ONE.srt
  have hmrg := ONE.mrg
  generalize leastW T v = l at *
  refine WP.setX (.inl rfl) (evRowsX FN hn20 rfl (Ev.name v0) (Ev.name v2) hT hv (by lia)) ?_
  rintro d mu ⟨prs, hp, rfl, rfl⟩
  have hpl := prs_len hp
  have hp2 : ∀ p ∈ prs, p.2.length ≤ 1000 := fun p hpp => by
    have := hrl.2 p.2 (by rw [← hp]; exact List.mem_map_of_mem hpp)
    lia
  show WP _ { vars := _, mu := ent prs ++ σ.mu } _ _
  rw [hm]
  refine WP.ifsX (b := false) (mu := ent (prs.map fun p => (p.1, [])) ++ lawMu PLs P1 PL qs la so gl fd ls ss oP) (EvTX.cast (EvTX.cmp (evC3 FN hn20 rfl (Ev.name (d := .list (refs prs)) rfl) (List.Perm.refl _) (by lia) hp2 (by rw [hp, hmrg]; intro r hr; obtain ⟨_, _, rfl⟩ := List.mem_map.mp hr; rfl) (by rw [hp, hmrg]; show (numW l).length ≤ 1000; rw [numW_len]; lia)) (evNum FN hn20 rfl (Ev.name (d := .list (zs l)) rfl) hlo (by lia)) (Cm.neD (e := encList encInt) Vs.nums Vs.nums (by decide))) (by rw [hp, hmrg]; simp)) (fun h => nomatch h) fun _ => WP.nil ?_
  refine WP.ifs (b := false) (EvT.cast (EvT.cmp (Ev.name (d := .list (refs prs)) rfl) (empties (d := .list (refs prs)) (ds := refs prs) rfl rfl (by decide) (by decide) rfl (Ev.name rfl) ItD.list (by rw [refs_lenU]; lia)) (Cm.neD (e := encList (encList encInt)) (a := rowsOf (prs.map fun p => (p.1, []))) ?_ Vs.zss (by decide))) ?_) (fun h => nomatch h) fun _ => WP.nil ?_
  · rw [show refs prs = refs (prs.map fun p : Addr × List Int => (p.1, ([] : List Int))) by simp [refs]]
    exact Vs.refs fun p hp => List.mem_append_left _ (ent_mem hp)
  · have : rowsOf (prs.map fun p : Addr × List Int => (p.1, ([] : List Int))) = (refs prs).map fun _ => [] := by simp [rowsOf, refs]
    rw [this]; simp
  refine WP.drop (mu' := lawMu PLs P1 PL qs la so gl fd ls ss oP) (List.sublist_append_right _ _) ?_
  refine WP.ifs (b := false) (EvT.cast (EvT.cmp (evRows FN hn20 rfl (Ev.name (d := .list (zs l)) rfl) (Ev.name (d := tsD T) v2) hT hlo (by lia)) (evRows FN hn20 rfl (Ev.name v0) (Ev.name (d := tsD T) v2) hT hv (by lia)) (Cm.neD (e := encList (encList encInt)) Vs.zss Vs.zss (by decide))) (by rw [hrows]; simp)) (fun h => nomatch h) fun _ => WP.nil ?_
  obtain ⟨fs, s1, s2⟩ := FN.steps
  refine WP.setX (.inl rfl) (EvX.callS (pas := (PLs, tqS qs) :: (P1, TabP oP) :: TabB oP) (oth := [(so, .list ss), (la, .list ls), (PL, TabL gl fd)]) (Ev.glob rfl s1) (EvL.cons (Ev.name v0) (EvL.cons (Ev.name (d := tsD T) v2) EvL.nil)) (List.perm_append_comm (l₁ := [(so, MO.list ss), (la, .list ls), (PL, TabL gl fd)])) (s2 v T oP hT hv (by lia)) hn (fun _ _ _ _ => trivial)) ?_
  rintro d mu ⟨mu', ⟨s, c, P, hs, rfl, rfl⟩, rfl⟩
  refine WP.perm (mu' := lawMu PLs P1 PL qs la so gl fd ls ss (some (c, P))) ?_ ?_
  · exact List.perm_append_comm (l₁ := [(so, MO.list ss), (la, .list ls), (PL, TabL gl fd)]) (l₂ := tabsS qs PLs P1 c P)
  have hso := hv.perm hs.perm
  have hsl := hs.perm.length_eq
  obtain ⟨r1, r2⟩ := hsrt s hs
  refine WP.ifs (b := false) (EvT.cast (EvT.cmp (evRows FN hn20 rfl (Ev.name (d := .list (zs s)) rfl) (Ev.name (d := tsD T) v2) hT hso (by lia)) (evRows FN hn20 rfl (Ev.name v0) (Ev.name (d := tsD T) v2) hT hv (by lia)) (Cm.neD (e := encList (encList encInt)) Vs.zss Vs.zss (by decide))) (by rw [r1]; simp)) (fun h => nomatch h) fun _ => WP.nil ?_
  refine WP.ifs (b := false) (EvT.cast (EvT.cmp (evR (PL := PL) FN hn20 hL v1 v2 (.tail _ (.tail _ (.head _))) (Ev.name (d := .list (zs s)) rfl) hT hso (by lia)) (Ev.name (d := .list (zs l)) rfl) (Cm.neD (e := encList encInt) Vs.nums Vs.nums (by decide))) (by rw [r2]; simp)) (fun h => nomatch h) fun _ => WP.nil ?_
  refine WP.exprX (EvX.append (a := la) (ds := ls) (e := .list (zs l)) (mu' := lawMu PLs P1 PL qs la so gl fd (ls ++ [.list (zs l)]) ss (some (c, P))) (Ev.name v3) (Ev.name rfl) (.tail .head) (by lia)) ?_
  rintro d mu ⟨rfl, rfl⟩
  refine WP.exprX (EvX.append (a := so) (ds := ss) (e := .list (zs s)) (mu' := lawMu PLs P1 PL qs la so gl fd (ls ++ [.list (zs l)]) (ss ++ [.list (zs s)]) (some (c, P))) (Ev.name v4) (Ev.name rfl) (by exact .head) (by lia)) ?_
  rintro d mu ⟨rfl, rfl⟩
  refine WP.nil (hnext _ s c P hs rfl fun x hx => ?_)
  simp only [List.mem_cons, List.not_mem_nil, or_false] at hx
  rcases hx with rfl | rfl | rfl | rfl | rfl | rfl | rfl <;> rfl
end
end Mine
end

section
set_option Elab.async false
set_option linter.unusedVariables false
set_option linter.unusedSimpArgs false
set_option maxRecDepth 100000
namespace Mine
open PySem PySem.W PyProof.Rows PySem.Calls
section
variable {C : Cx} {σ : St} {Φ : Out → St → Prop}
theorem WP.forZipX {x y : Str} {px py tp zp cp : Pos} {kk : Nat} {e1 e2 : Expr} {body orelse ss : List Stmt} {pos : Pos} {R1 : D → Mu → Prop} {R2 : D → Mu → D → Mu → Prop} (hz : BN C "zip" (.type "zip")) (h1 : EvX C σ e1 R1) (h2 : ∀ d1 mu1, R1 d1 mu1 → EvX C (σ.setMu mu1) e2 (R2 d1 mu1)) (hx : Stores C x) (hy : Stores C y)
    (h : ∀ d1 mu1 d2 mu2, R1 d1 mu1 → R2 d1 mu1 d2 mu2 → ∃ (ds1 ds2 : List D) (I : Nat → St → Prop), (∀ k σ, I k σ → Items C σ d1 ds1 ∧ Items C σ d2 ds2) ∧ I 0 (σ.setMu mu2) ∧
      (∀ k σ a b, ds1[k]? = some a → ds2[k]? = some b → I k σ → WP C ((σ.set x a).set y b) body fun o σ' => match o with | .next => I (k + 1) σ' | .cont => I (k + 1) σ' | .brk => WP C σ' ss Φ | .ret d => Φ (.ret d) σ') ∧
      (∀ σ, I (min ds1.length ds2.length) σ → WP C σ orelse fun o σ' => match o with | .next => WP C σ' ss Φ | o => Φ o σ'))
    (hs : ∀ v, foldedSetIterable (.Call (.Name "zip" zp) [e1, e2] [] cp) C.env v = pure v := by intro _; rfl) (hs2 : starEach [e1, e2] C.env = [(false, eval e1 C.env), (false, eval e2 C.env)] := by rfl) :
    WP C σ (.For (.Tuple [.Name x px, .Name y py] kk tp) (.Call (.Name "zip" zp) [e1, e2] [] cp) body orelse pos :: ss) Φ := WP.cons fun K F s Q E X hQ => by
  refine wpAny_For ?_ hs
  refine Call_Name2 (bName X hz.kind hz.mg hz.mb ?_ hz.nd) hs2
  refine callWith_bt (.inr ⟨_, rfl⟩) rfl (Calls.evalArgs_plain (Calls.spliced_cons (h1 K F s _ E X fun F1 v1 s1 da mua qa X1 g1 r1 => ?_)))
  refine Calls.spliced_cons (h2 da mua qa K F1 s1 _ E X1 fun F2 v2 s2 db mub qb X2 g2 r2 => ?_)
  refine Calls.spliced_nil ?_
  obtain ⟨ds1, ds2, I, hit, h0, turn, done⟩ := h da mua db mub qa qb
  exact forZip_loop (kk := kk) (tp := tp) (E := E) I hx hy hit turn done h0 X2 (r1.mono g2) r2 fun f o F' s' σ' ho X' g hΦ => hQ f o F' s' σ' ho X' ((g1.trans g2).trans g) hΦ
end
theorem refs_append (a b : Prs) : refs (a ++ b) = refs a ++ refs b := List.map_append
section
variable {G : Gx} {f : Addr} {name qual : Str} {doc pm cdv ct : Value} {an : Option Addr} {A : Around} {L : Addr} {n : Nat} {PLs P1 PL : Addr} {qs : Str} {Φ : Out → St → Prop}
structure Kept (PLs P1 PL : Addr) (qs : Str) (gl : Addr) (fd : FuncData) (mu : Mu) : Prop where
  l : (PL, TabL gl fd) ∈ mu
  s : (PLs, tqS qs) ∈ mu
  p : ∃ c P, (P1, TabP (some (c, P))) ∈ mu
theorem Kept.mono {gl : Addr} {fd : FuncData} {mu mu' : Mu} (h : Kept PLs P1 PL qs gl fd mu) (hs : ∀ p ∈ mu, p ∈ mu') : Kept PLs P1 PL qs gl fd mu' := ⟨hs _ h.l, hs _ h.s, h.p.imp fun c h => h.imp fun P h => hs _ h⟩
theorem law1_loop {T : Tie} {w o : Wd} {t : Int} {la so gl : Addr} {fd : FuncData} (FN : Fns1 G PLs P1 qs) (hn : 169 ≤ n) (hL : IsLay fd (L + 1)) (hT : TDim T) (LW : Law1 T w o t) (hw : WdOk w) (ho : WdOk o) (hz : w.length ≤ 9) (hzo : o.length ≤ 9)
    (hnext : ∀ σ s1 s2 c P, SrtOk T w s1 → SrtOk T o s2 → σ.mu = lawMu PLs P1 PL qs la so gl fd [.list (zs (leastW T w)), .list (zs (leastW T o))] [.list (zs s1), .list (zs s2)] (some (c, P)) →
      (∀ q ∈ ([("total", .int t), ("ties", tsD T), ("word", .list (zs w)), ("other", .list (zs o)), ("lay", .ref gl), ("leasts", .ref la), ("sortings", .ref so)] : List (Str × D)), σ.v q.1 = some q.2) → WP (l1Cx G A name qual doc pm cdv ct an f L n PT) σ ((bo 14).drop 8) Φ) :
    WP (l1Cx G A name qual doc pm cdv ct an f L n PT) { vars := [("total", .int t), ("ties", tsD T), ("word", .list (zs w)), ("other", .list (zs o)), ("lay", .ref gl), ("leasts", .ref la), ("sortings", .ref so)], mu := lawMu PLs P1 PL qs la so gl fd [] [] none } ((bo 14).drop 7) Φ := by
  refine WP.for (body := tb14) (d := .list [.list (zs w), .list (zs o)]) (ds := [.list (zs w), .list (zs o)]) (fun k σ => ∃ (S : List Wd) (oP : Option (Addr × Addr)), S.length = k ∧ k ≤ 2 ∧ (∀ i v s, [w, o][i]? = some v → S[i]? = some s → SrtOk T v s) ∧ (k ≠ 0 → oP ≠ none) ∧
      σ.mu = lawMu PLs P1 PL qs la so gl fd (([w, o].take k).map fun v => .list (zs (leastW T v))) (S.map fun s => .list (zs s)) oP ∧
      ∀ q ∈ ([("total", .int t), ("ties", tsD T), ("word", .list (zs w)), ("other", .list (zs o)), ("lay", .ref gl), ("leasts", .ref la), ("sortings", .ref so)] : List (Str × D)), σ.v q.1 = some q.2)
    (Ev.of_new (EvN.list (EvL.cons (Ev.name rfl) (EvL.cons (Ev.name rfl) EvL.nil)) (by simp))) (.inl rfl) ⟨[], none, rfl, by lia, fun i v s _ h => (by rw [List.getElem?_nil] at h; cases h), fun h => absurd rfl h, rfl, ?_⟩ (fun d σ => σ.set "drawn" d) (fun _ _ _ => rfl) (fun _ _ => rfl) (fun d σ => Asg.local rfl) ?_ ?_
  · intro q hq
    simp only [List.mem_cons, List.not_mem_nil, or_false] at hq
    rcases hq with rfl | rfl | rfl | rfl | rfl | rfl | rfl <;> rfl
  · rintro k d σ hk ⟨S, oP, hS, hk2, hsr, hoP, hm, hv⟩
    have hk2 : k < 2 := (List.getElem?_eq_some_iff.mp hk).1
    obtain ⟨v, hvk, rfl, ONE, hvo, hvz⟩ : ∃ v, [w, o][k]? = some v ∧ d = .list (zs v) ∧ OneOk T v ∧ WdOk v ∧ v.length ≤ 9 := by
      match k, hk2, hk with
      | 0, _, h => exact ⟨w, rfl, by simpa using h.symm, LW.one, hw, hz⟩
      | 1, _, h => exact ⟨o, rfl, by simpa using h.symm, LW.two, ho, hzo⟩
    refine law1_turn (σ := σ.set "drawn" (.list (zs v))) FN hn hL hT ONE hvo hvz (by simp; lia) (by simp; lia) hm rfl (hv _ (.tail _ (.tail _ (.tail _ (.tail _ (.head _)))))) (hv _ (.tail _ (.head _))) (hv _ (.tail _ (.tail _ (.tail _ (.tail _ (.tail _ (.head _))))))) (hv _ (.tail _ (.tail _ (.tail _ (.tail _ (.tail _ (.tail _ (.head _)))))))) fun σ' s c P hs hm' hk' => ?_
    refine ⟨S ++ [s], some (c, P), by simp [hS], by lia, fun i v' s' h1 h2 => ?_, fun _ => nofun, ?_, fun q hq => ?_⟩
    · by_cases hi : i < S.length
      · rw [List.getElem?_append_left hi] at h2
        exact hsr i v' s' h1 h2
      · rw [List.getElem?_append_right (by lia)] at h2
        have hi0 : i - S.length = 0 := by
          have := (List.getElem?_eq_some_iff.mp h2).1
          simp at this; lia
        have : i = k := by lia
        subst this
        rw [hi0] at h2
        rw [hvk] at h1
        cases h1
        have : s = s' := by simpa using h2
        rw [← this]; exact hs
    · rw [hm', List.take_add_one, hvk, List.map_append, List.map_append]; rfl
    · rw [hk' q.1 ?_]
      · have := hv q hq
        simp only [List.mem_cons, List.not_mem_nil, or_false] at hq
        rcases hq with rfl | rfl | rfl | rfl | rfl | rfl | rfl <;> exact this
      · simp only [List.mem_cons, List.not_mem_nil, or_false] at hq ⊢
        rcases hq with rfl | rfl | rfl | rfl | rfl | rfl | rfl <;> simp
  · rintro σ ⟨S, oP, hS, _, hsr, hoP, hm, hv⟩
    have hS : S.length = 2 := hS
    obtain ⟨⟨c, P⟩, rfl⟩ := Option.ne_none_iff_exists'.mp (hoP (by simp))
    match S, hS with
    | [s1, s2], _ => exact WP.nil (hnext σ s1 s2 c P (hsr 0 _ _ rfl rfl) (hsr 1 _ _ rfl rfl) hm hv)
theorem law1_mix {T : Tie} {w o : Wd} {t : Int} {la so gl : Addr} {fd : FuncData} {σ : St} {s1 s2 : Wd} {c P : Addr} (B : Bt G) (FN : Fns1 G PLs P1 qs) (hn : 169 ≤ n) (hT : TDim T) (LW : Law1 T w o t) (hw : WdOk w) (ho : WdOk o) (hz : w.length ≤ 9) (hzo : o.length ≤ 9)
    (hs1 : SrtOk T w s1) (hs2 : SrtOk T o s2) (hm : σ.mu = lawMu PLs P1 PL qs la so gl fd [.list (zs (leastW T w)), .list (zs (leastW T o))] [.list (zs s1), .list (zs s2)] (some (c, P)))
    (hv : ∀ q ∈ ([("total", .int t), ("ties", tsD T), ("word", .list (zs w)), ("other", .list (zs o)), ("lay", .ref gl), ("leasts", .ref la), ("sortings", .ref so)] : List (Str × D)), σ.v q.1 = some q.2)
    (hnext : ∀ mrs oth, rowsOf mrs = mixW t (rowsW T w) (rowsW T o) → Kept PLs P1 PL qs gl fd oth → WP (l1Cx G A name qual doc pm cdv ct an f L n PT) { vars := [("ties", tsD T), ("lay", .ref gl), ("mixed", .list (refs mrs)), ("given", .list (zss (rowsOf mrs)))], mu := ent mrs ++ oth } ((bo 14).drop 13) Φ) :
    WP (l1Cx G A name qual doc pm cdv ct an f L n PT) σ ((bo 14).drop 8) Φ := by
  have v1 : σ.v "total" = some (.int t) := hv _ (.head _)
  have v2 : σ.v "ties" = some (tsD T) := hv _ (.tail _ (.head _))
  have v3 : σ.v "word" = some (.list (zs w)) := hv _ (.tail _ (.tail _ (.head _)))
  have v4 : σ.v "other" = some (.list (zs o)) := hv _ (.tail _ (.tail _ (.tail _ (.head _))))
  have v5 : σ.v "lay" = some (.ref gl) := hv _ (.tail _ (.tail _ (.tail _ (.tail _ (.head _)))))
  have v6 : σ.v "leasts" = some (.ref la) := hv _ (.tail _ (.tail _ (.tail _ (.tail _ (.tail _ (.head _))))))
  have v7 : σ.v "sortings" = some (.ref so) := hv _ (.tail _ (.tail _ (.tail _ (.tail _ (.tail _ (.tail _ (.head _)))))))
  obtain ⟨fa, a1, a2⟩ := FN.alike
  have hn20 : 20 ≤ n := by lia
  refine WP.set (x := "alike") (d := .bool (alikeW T w o)) (.inl rfl) (Ev.call (Ev.glob rfl a1) (EvL.cons (Ev.name v3) (EvL.cons (Ev.name v4) (EvL.cons (Ev.name v2) EvL.nil))) (a2 w o T hT hw ho (by lia)) hn20 (fun _ _ _ _ => trivial)) ?_
  have i1 : Items (l1Cx G A name qual doc pm cdv ct an f L n PT) (σ.set "alike" (.bool (alikeW T w o))) (.ref la) [.list (zs (leastW T w)), .list (zs (leastW T o))] := Items.mu (by show _ ∈ σ.mu; rw [hm]; exact .tail _ (.head _))
  have i2 : Items (l1Cx G A name qual doc pm cdv ct an f L n PT) (σ.set "alike" (.bool (alikeW T w o))) (.ref so) [.list (zs s1), .list (zs s2)] := Items.mu (by show _ ∈ σ.mu; rw [hm]; exact .head _)
  have hle := LW.least
  have hsr := LW.srt s1 s2 hs1 hs2
  refine WP.ifs (b := false) (EvT.cast (EvT.or (a := false) (b := false) (EvT.cast (EvT.cmp (Ev.cmp (Ev.idx (Ev.name v6) i1 Ev.int (by decide) rfl) (Ev.idx (Ev.name v6) i1 Ev.int (by decide) rfl) (Cm.eqD (e := encList encInt) Vs.nums Vs.nums (by decide))) (Ev.name (d := .bool (alikeW T w o)) rfl) (Cm.neD (e := encBool) Vs.bool Vs.bool (by decide))) ?_) fun _ => EvT.cast (EvT.cmp (Ev.cmp (Ev.idx (Ev.name v7) i2 Ev.int (by decide) rfl) (Ev.idx (Ev.name v7) i2 Ev.int (by decide) rfl) (Cm.eqD (e := encList encInt) Vs.nums Vs.nums (by decide))) (Ev.name (d := .bool (alikeW T w o)) rfl) (Cm.neD (e := encBool) Vs.bool Vs.bool (by decide))) ?_) rfl) (fun h => nomatch h) fun _ => WP.nil ?_
  · have : decide (leastW T w = leastW T o) = alikeW T w o := by
      by_cases h : leastW T w = leastW T o
      · rw [hle.mp h]; simp [h]
      · have : alikeW T w o = false := by
          cases e : alikeW T w o with
          | false => rfl
          | true => exact absurd (hle.mpr e) h
        rw [this]; simp [h]
    simp [← this]
  · have : decide (s1 = s2) = alikeW T w o := by
      by_cases h : s1 = s2
      · rw [hsr.mp h]; simp [h]
      · have : alikeW T w o = false := by
          cases e : alikeW T w o with
          | false => rfl
          | true => exact absurd (hsr.mpr e) h
        rw [this]; simp [h]
    simp [← this]
  clear hle hsr
  have hc := rowsW_cnt T w o
  have hrw := rowsW_small T w
  have hro := rowsW_small T o
  refine WP.setX (.inl rfl) (EvN.list (ds := []) EvL.nil (by simp)) ?_
  rintro d mu ⟨ma, rfl, rfl⟩
  refine WP.forZipX (R1 := fun d mu => ∃ prs, rowsOf prs = rowsW T w ∧ d = .list (refs prs) ∧ mu = ent prs ++ ((ma, .list []) :: σ.mu)) (R2 := fun _ mu1 d mu => ∃ qrs, rowsOf qrs = rowsW T o ∧ d = .list (refs qrs) ∧ mu = ent qrs ++ mu1) ⟨rfl, FN.zip.1, FN.zip.2, rfl⟩ (evRowsX FN hn20 rfl (Ev.name v3) (Ev.name v2) hT hw (by lia)) (fun d1 mu1 _ => evRowsX FN hn20 rfl (Ev.name v4) (Ev.name v2) hT ho (by lia)) (.inl rfl) (.inl rfl) ?_
  rintro d1 mu1 d2 mu2 ⟨prs, hp, rfl, rfl⟩ ⟨qrs, hq, rfl, rfl⟩
  have hpl := prs_len hp
  have hql := prs_len hq
  refine ⟨refs prs, refs qrs, fun j σ' => σ'.mu = ent qrs ++ (ent prs ++ ((ma, .list (refs (mixG t (prs.take j) (qrs.take j)))) :: σ.mu)) ∧ j ≤ prs.length ∧ σ'.v "mixed" = some (.ref ma) ∧ σ'.v "total" = some (.int t) ∧ σ'.v "ties" = some (tsD T) ∧ σ'.v "lay" = some (.ref gl), fun k σ' h => ⟨Items.list, Items.list⟩, ⟨rfl, Nat.zero_le _, rfl, v1, v2, v5⟩, fun j σ' a b ha hb hI => ?_, fun σ' hI => ?_⟩
  · obtain ⟨hm', hj, w1, w2, w3, w4⟩ := hI
    obtain ⟨p, hpj, rfl⟩ := refs_get ha
    obtain ⟨q, hqj, rfl⟩ := refs_get hb
    have hj1 : j < prs.length := (List.getElem?_eq_some_iff.mp hpj).1
    have htk := mixG_take t prs qrs j hpj hqj
    have hln : (mixG t (prs.take j) (qrs.take j)).length = j := by rw [mixG_len, List.length_take, List.length_take]; lia
    generalize mixG t (prs.take j) (qrs.take j) = mx at *
    have key : ∀ (σ2 : St) (x : Addr × List Int), (if (t + (j : Int)).fmod 2 == 0 then q else p) = x → σ2.mu = ent qrs ++ (ent prs ++ ((ma, .list (refs mx ++ [.ref x.1])) :: σ.mu)) → σ2.v "mixed" = some (.ref ma) → σ2.v "total" = some (.int t) → σ2.v "ties" = some (tsD T) → σ2.v "lay" = some (.ref gl) →
        σ2.mu = ent qrs ++ (ent prs ++ ((ma, .list (refs (mixG t (prs.take (j + 1)) (qrs.take (j + 1))))) :: σ.mu)) ∧ j + 1 ≤ prs.length ∧ σ2.v "mixed" = some (.ref ma) ∧ σ2.v "total" = some (.int t) ∧ σ2.v "ties" = some (tsD T) ∧ σ2.v "lay" = some (.ref gl) := fun σ2 x hx e1 e2 e3 e4 e5 => by
      refine ⟨?_, hj1, e2, e3, e4, e5⟩
      rw [htk, hx, refs_append, e1]; rfl
    have im : Items (l1Cx G A name qual doc pm cdv ct an f L n PT) ((σ'.set "own" (.ref p.1)).set "twin" (.ref q.1)) (.ref ma) (refs mx) := Items.mu (by show _ ∈ σ'.mu; rw [hm']; exact List.mem_append_right _ (List.mem_append_right _ (.head _)))
    have hms : ∀ e : D, MuSet σ'.mu ma (.list (refs mx)) (.list (refs mx ++ [e])) (ent qrs ++ (ent prs ++ ((ma, .list (refs mx ++ [e])) :: σ.mu))) := fun e => by rw [hm']; exact .right (.right .head)
    refine WP.ifs (b := (t + (j : Int)).fmod 2 == 0) (EvT.cmp (Ev.bin (Ev.bin (Ev.name w2) (Ev.len (x := "len") ⟨rfl, B.len.1, B.len.2, rfl⟩ (Ev.name w1) im (k := (j : Int)) (by rw [refs_lenU, hln])) Op.add) Ev.int (Op.mod (by decide))) Ev.int Cm.eq) (fun hb => ?_) (fun hb => ?_)
    · refine WP.exprX (EvX.append (a := ma) (ds := refs mx) (e := .ref q.1) (Ev.name w1) (Ev.name rfl) (hms (.ref q.1)) (by rw [refs_lenU]; lia)) ?_
      rintro d mu ⟨rfl, rfl⟩
      exact WP.nil (WP.nil (key _ q (by rw [hb]; rfl) rfl w1 w2 w3 w4))
    · refine WP.exprX (EvX.append (a := ma) (ds := refs mx) (e := .ref p.1) (Ev.name w1) (Ev.name rfl) (hms (.ref p.1)) (by rw [refs_lenU]; lia)) ?_
      rintro d mu ⟨rfl, rfl⟩
      exact WP.nil (WP.nil (key _ p (by rw [hb]; rfl) rfl w1 w2 w3 w4))
  · obtain ⟨hm', hj, w1, w2, w3, w4⟩ := hI
    have hmin : min (refs prs).length (refs qrs).length = prs.length := by rw [refs_lenU, refs_lenU]; lia
    rw [hmin, List.take_length, show qrs.take prs.length = qrs from by rw [List.take_of_length_le (by lia)]] at hm'
    have hpm := mixG_perm t prs qrs (by lia)
    have hmr : rowsOf (mixG t prs qrs) = mixW t (rowsW T w) (rowsW T o) := by rw [← hp, ← hq]; exact mixG_map _ t prs qrs
    have hml : (mixG t prs qrs).length ≤ 10 := by rw [mixG_len]; lia
    generalize mixG t prs qrs = mx at *
    generalize mixG (t + 1) prs qrs = nx at *
    refine WP.nil ?_
    refine WP.perm (mu' := (ma, .list (refs mx)) :: (ent mx ++ (ent nx ++ σ.mu))) ?_ ?_
    · have e1 : ent mx ++ (ent nx ++ σ.mu) = ent (mx ++ nx) ++ σ.mu := by rw [ent_append, List.append_assoc]
      have e2 : ∀ X : Mu, ent qrs ++ (ent prs ++ X) = ent (qrs ++ prs) ++ X := fun X => by rw [ent_append, List.append_assoc]
      rw [hm', e1, e2]
      refine List.Perm.trans (List.Perm.cons _ (List.Perm.append_right _ (hpm.symm.map _))) ?_
      exact List.perm_middle.symm
    refine WP.frz [("mixed", .list (refs mx)), ("ties", tsD T), ("lay", .ref gl)] (a := ma) (ds := refs mx) (mu := ent mx ++ (ent nx ++ σ.mu)) rfl (List.forall_mem_cons.mpr ⟨.inr ⟨w1, rfl⟩, List.forall_mem_cons.mpr ⟨.inl w3, List.forall_mem_cons.mpr ⟨.inl w4, by simp⟩⟩⟩) ?_
    refine WP.setC rfl (EvC.fresh (scope := _) mx (fun p => .ref p.1) (fun _ => true) (fun p => zs p.2) (compOk0 rfl rfl (by decide) (by decide)) (.inl rfl) (Ev.name (d := .list (refs mx)) rfl) ItD.list (by lia) fun L' nm p hp => ⟨rfl, fun _ => EvN.copy (Ev.name rfl) (Items.ro (List.mem_append_left _ (List.mem_append_left _ (ent_mem hp))))⟩) ?_
    rintro d mu hF
    rw [filter_tr] at hF
    obtain ⟨ga, as, hl, rfl, rfl⟩ := hF
    refine WP.freezeL (a := ga) (as := as) (gs := mx.map fun p => zs p.2) (mu := ent mx ++ (ent nx ++ σ.mu)) (vars := [("ties", tsD T), ("lay", .ref gl), ("mixed", .list (refs mx)), ("given", .list (zss (rowsOf mx)))]) hl rfl (fun y e hy => ?_) ?_
    · have := mem_of_lookup hy
      simp only [List.mem_cons, List.not_mem_nil, or_false, Prod.mk.injEq] at this
      rcases this with ⟨rfl, rfl⟩ | ⟨rfl, rfl⟩ | ⟨rfl, rfl⟩ | ⟨rfl, rfl⟩
      · exact .inl rfl
      · exact .inl rfl
      · exact .inl rfl
      · exact .inr ⟨rfl, by rw [zss, rowsOf, List.map_map, List.map_map]; rfl⟩
    · refine hnext mx (ent nx ++ σ.mu) hmr (Kept.mono ?_ fun p hp => List.mem_append_right _ hp)
      rw [hm]
      exact ⟨.tail _ (.tail _ (.head _)), .tail _ (.tail _ (.tail _ (.head _))), c, P, .tail _ (.tail _ (.tail _ (.tail _ (.head _))))⟩
end
end Mine
end

section
set_option Elab.async false
set_option linter.unusedVariables false
set_option linter.unusedSimpArgs false
set_option maxRecDepth 100000
namespace Mine
open PySem PySem.W PyProof.Rows PySem.Calls
theorem WP.nd {C : Cx} {σ : St} {Φ : Out → St → Prop} {ss : List Stmt} (h : (σ.mu.map (·.1)).Nodup → WP C σ ss Φ) : WP C σ ss Φ := fun K F s Q E X hQ => h X.am.nd K F s Q E X hQ
theorem lookup_nd : ∀ {prs : Prs}, (prs.map (·.1)).Nodup → ∀ p ∈ prs, prs.lookup p.1 = some p.2
  | (a, l) :: prs, nd, p, hp => by
    rw [List.map_cons, List.nodup_cons] at nd
    rw [List.lookup_cons]
    rcases List.mem_cons.mp hp with rfl | hp
    · simp
    · have : (p.1 == a) = false := beq_eq_false_iff_ne.mpr fun e => nd.1 (e.symm ▸ (List.mem_map.mpr ⟨p, hp, rfl⟩ : p.1 ∈ prs.map (·.1)))
      rw [this]
      exact lookup_nd nd.2 p hp
  | [], _, _, hp => nomatch hp
noncomputable def tailD (prs : Prs) : D → List D
  | .ref a => zs ((prs.lookup a).getD []).tail
  | _ => []
theorem tails_flat : ∀ (cur prs : Prs), (∀ p ∈ cur, prs.lookup p.1 = some p.2) → ((refs cur).flatMap fun d => (tailD prs d).map id) = zs ((rowsOf cur).flatMap List.tail)
  | [], _, _ => rfl
  | p :: cur, prs, h => by
    have ih := tails_flat cur prs fun q hq => h q (.tail _ hq)
    have h1 := h p (.head _)
    show (tailD prs (.ref p.1)).map id ++ (refs cur).flatMap (fun d => (tailD prs d).map id) = zs (p.2.tail ++ (rowsOf cur).flatMap List.tail)
    rw [ih, tailD, h1, List.map_id, zs_append]; rfl
theorem ent_keys (prs : Prs) : (ent prs).map (·.1) = prs.map (·.1) := by unfold ent; rw [List.map_map]; rfl
theorem refs_keys {a b : Prs} (h : a.map (·.1) = b.map (·.1)) : refs a = refs b := by
  have : ∀ l : Prs, refs l = (l.map (·.1)).map D.ref := fun l => by unfold refs; rw [List.map_map]; rfl
  rw [this, this, h]
section
variable {G : Gx} {f : Addr} {name qual : Str} {doc pm cdv ct : Value} {an : Option Addr} {A : Around} {L : Addr} {n : Nat} {PLs P1 PL : Addr} {qs : Str}
theorem law1_done {T : Tie} {gl : Addr} {fd : FuncData} {mrs : Prs} {oth : Mu} (FN : Fns1 G PLs P1 qs) (hn : 169 ≤ n) (hL : IsLay fd (L + 1)) (hT : TDim T) (MX : MixOk T (rowsOf mrs)) (KP : Kept PLs P1 PL qs gl fd oth) (hz1 : mrs.length ≤ 10) (hz2 : ∀ p ∈ mrs, p.2.length ≤ 9) (hlen : (mrg (rowsOf mrs)).1.length ≤ 100) (hx : ∀ r ∈ (mrg (rowsOf mrs)).2, r = []) :
    WP (l1Cx G A name qual doc pm cdv ct an f L n PT) { vars := [("ties", tsD T), ("lay", .ref gl), ("mixed", .list (refs mrs)), ("given", .list (zss (rowsOf mrs)))], mu := ent mrs ++ oth } ((bo 14).drop 13) (Fin fun d mu => d = .bool true ∧ Kept PLs P1 PL qs gl fd mu) := by
  obtain ⟨fm, m1, nm, qm, dm, pmm, am, cdm, ctm, m2⟩ := FN.met
  obtain ⟨fc, g1, nc, qc, dc, pc, ac, cdc, ctc, g2⟩ := FN.c3
  have hn20 : 20 ≤ n := by lia
  obtain ⟨e1, e2, e3⟩ := MX.done hx
  refine WP.setX (.inl rfl) (EvX.callS (pas := ent mrs) (oth := oth) (Ev.glob rfl m1) (EvL.cons (Ev.name (d := .list (refs mrs)) rfl) EvL.nil) (List.Perm.refl _) (met_sem (n := 20) PT.mon m2 g1 (c3_sem (n := 19) PT.mon g2 (by lia) (fun p hp => by have := hz2 p hp; lia) hx (by lia))) (by show 21 ≤ n; lia) (fun _ _ _ _ => trivial)) ?_
  rintro d mu ⟨mu', ⟨a, rfl, rfl⟩, rfl⟩
  generalize (mrg (rowsOf mrs)).1 = out at *
  have hin : ∀ {vars}, Items (l1Cx G A name qual doc pm cdv ct an f L n PT) { vars := vars, mu := ((a, MO.list [.list (zs out)]) :: ent (mrs.map fun p => (p.1, []))) ++ oth } (.ref a) [.list (zs out)] := fun {vars} => Items.mu (.head _)
  refine WP.ifs (b := false) (EvT.cast (EvT.cmp (Ev.name (d := .ref a) rfl) (Ev.of_new (EvN.list (ds := []) EvL.nil (by simp))) (Cm.eqD (e := encList (encList encInt)) (a := [out]) (b := []) (Vw.mu (.inl (.head _)) (.cons Vs.nums .nil)) (Vs.zss (l := [])) (by decide))) (by simp)) (fun h => nomatch h) fun _ => WP.nil ?_
  refine WP.set (x := "ended") (d := .list (zs out)) (.inl rfl) (Ev.idx (d := .ref a) (Ev.name rfl) hin Ev.int (by decide) rfl) ?_
  refine WP.setC rfl (EvC.plain (scope := _) out D.int (fun _ => true) (fun x => .int (x.fmod 4)) (compOk0 rfl rfl (by decide) (by decide)) (.inl rfl) (Ev.name (d := .list (zs out)) rfl) ItD.list (by lia) fun L' x hx => ⟨rfl, fun _ => Ev.bin (Ev.name rfl) Ev.int (Op.mod (by decide))⟩) ?_
  rintro d mu ⟨la, rfl, rfl⟩
  rw [filter_tr]
  have hlz : (out.map fun x => D.int (x.fmod 4)) = zs (out.map fun x => x.fmod 4) := by rw [zs, List.map_map]; rfl
  rw [hlz]
  have hlo : WdOk (out.map fun x => x.fmod 4) := fun y hy => by
    obtain ⟨x, _, rfl⟩ := List.mem_map.mp hy
    exact let_mod x
  have hll : (out.map fun x => x.fmod 4).length ≤ 100 := by rw [List.length_map]; exact hlen
  generalize (out.map fun x => x.fmod 4) = l at *
  refine WP.frz [("ties", tsD T), ("lay", .ref gl), ("mixed", .list (refs mrs)), ("given", .list (zss (rowsOf mrs))), ("ended", .list (zs out)), ("letters", .list (zs l))] (a := la) (ds := zs l) (mu := ((a, MO.list [.list (zs out)]) :: ent (mrs.map fun p => (p.1, []))) ++ oth) rfl (List.forall_mem_cons.mpr ⟨.inl rfl, List.forall_mem_cons.mpr ⟨.inl rfl, List.forall_mem_cons.mpr ⟨.inl rfl, List.forall_mem_cons.mpr ⟨.inl rfl, List.forall_mem_cons.mpr ⟨.inl rfl, List.forall_mem_cons.mpr ⟨.inr ⟨rfl, rfl⟩, by simp⟩⟩⟩⟩⟩⟩) ?_
  have hmr : refs mrs = refs (mrs.map fun p : Addr × List Int => (p.1, ([] : List Int))) := by simp [refs]
  refine WP.ifs (b := false) (EvT.cast (EvT.or (a := false) (b := false) (EvT.cast (EvT.cmp (Ev.name (d := .list (zs out)) rfl) (evNum FN hn20 rfl (Ev.name (d := .list (zs l)) rfl) hlo hll) (Cm.neD (e := encList encInt) Vs.nums Vs.nums (by decide))) (by rw [← e1]; simp)) fun _ => EvT.cast (EvT.cmp (Ev.name (d := .list (refs mrs)) rfl) (empties (d := .list (zss (rowsOf mrs))) (ds := zss (rowsOf mrs)) rfl rfl (by decide) (by decide) rfl (Ev.name rfl) ItD.list (by simp [zss, rowsOf]; lia)) (Cm.neD (e := encList (encList encInt)) (a := rowsOf (mrs.map fun p => (p.1, []))) ?_ Vs.zss (by decide))) ?_) rfl) (fun h => nomatch h) fun _ => WP.nil ?_
  · rw [hmr]
    exact Vs.refs fun p hp => List.mem_append_left _ (.tail _ (ent_mem hp))
  · have : rowsOf (mrs.map fun p : Addr × List Int => (p.1, ([] : List Int))) = (zss (rowsOf mrs)).map fun _ => [] := by simp [rowsOf, zss]
    rw [this]; simp
  refine WP.ret (d := .bool true) (Ev.cast (Ev.and (Ev.cmp (evRows FN hn20 rfl (Ev.name (d := .list (zs l)) rfl) (Ev.name (d := tsD T) rfl) hT hlo hll) (Ev.name (d := .list (zss (rowsOf mrs))) rfl) (Cm.eqD (e := encList (encList encInt)) Vs.zss Vs.zss (by decide))) fun _ => Ev.cmp (evR (PL := PL) FN hn20 hL rfl rfl (List.mem_append_right _ KP.l) (Ev.name (d := .list (zs l)) rfl) hT hlo hll) (Ev.name (d := .list (zs l)) rfl) (Cm.eqD (e := encList encInt) Vs.nums Vs.nums (by decide))) (by rw [e2, e3]; simp)) ⟨rfl, KP.mono fun p hp => List.mem_append_right _ hp⟩
theorem law1_left {T : Tie} {gl : Addr} {fd : FuncData} {mrs : Prs} {oth : Mu} (B : Bt G) (FN : Fns1 G PLs P1 qs) (hn : 169 ≤ n) (hA : A.frames = some []) (MX : MixOk T (rowsOf mrs)) (KP : Kept PLs P1 PL qs gl fd oth) (hz1 : mrs.length ≤ 10) (hz2 : ∀ p ∈ mrs, p.2.length ≤ 9) (hlen : (mrg (rowsOf mrs)).1.length ≤ 100) (hx : ∃ r ∈ (mrg (rowsOf mrs)).2, r ≠ []) :
    WP (l1Cx G A name qual doc pm cdv ct an f L n PT) { vars := [("ties", tsD T), ("lay", .ref gl), ("mixed", .list (refs mrs)), ("given", .list (zss (rowsOf mrs)))], mu := ent mrs ++ oth } ((bo 14).drop 13) (Fin fun d mu => d = .bool true ∧ Kept PLs P1 PL qs gl fd mu) := by
  obtain ⟨fm, m1, nm, qm, dm, pmm, am, cdm, ctm, m2⟩ := FN.met
  obtain ⟨fc, g1, nc, qc, dc, pc, ac, cdc, ctc, g2⟩ := FN.c3
  have e1 := MX.left hx
  have e2 := MX.tails hx
  refine WP.setX (.inl rfl) (EvX.metX (n := 20) m2 rfl m1 rfl g1 g2 FN.rerr.1 FN.rerr.2 (Around.frames_deeper hA) rfl (by show 22 ≤ n; lia) (Ev.name (d := .list (refs mrs)) rfl) (List.Perm.refl _) (by lia) (fun p hp => by have := hz2 p hp; lia) (by lia) hx) ?_
  rintro d mu ⟨a, cur, rfl, hc1, hc2, rfl⟩
  rw [← hc1] at e1 e2
  have hrf := refs_keys hc2
  have hcl : cur.length = mrs.length := by have := congrArg List.length hc2; simpa using this
  have hcz : ∀ (i : Nat) (p : Addr × List Int), cur[i]? = some p → ∃ w, (rowsOf mrs)[i]? = some w ∧ w.length ≤ 9 ∧ p.2.length ≤ w.length ∧ p.2 = w.drop (w.length - p.2.length) ∧ (p.2 ≠ [] → p.2.headD 0 ∈ (rowsOf cur).flatMap List.tail) := fun i p hp => by
    have hi := (List.getElem?_eq_some_iff.mp hp).1
    have hi' : i < mrs.length := by lia
    have hw : (rowsOf mrs)[i]? = some mrs[i].2 := by unfold rowsOf; rw [List.getElem?_map, List.getElem?_eq_getElem hi']; rfl
    have hl : (rowsOf cur)[i]? = some p.2 := by unfold rowsOf; rw [List.getElem?_map, hp]; rfl
    obtain ⟨q1, q2, q3⟩ := e1 i _ _ hl hw
    exact ⟨_, hw, hz2 _ (List.getElem_mem hi'), q1, q2, q3⟩
  rw [← hrf]
  clear hrf e1
  refine WP.ifs (b := true) (EvT.cast (EvT.cmp (Ev.name (d := .ref a) rfl) (Ev.of_new (EvN.list (ds := []) EvL.nil (by simp))) (Cm.eqD (e := encList (encList encInt)) (a := []) (b := []) (Vw.mu (.inl (.head _)) .nil) (Vs.zss (l := [])) (by decide))) (by simp)) (fun _ => ?_) fun h => nomatch h
  refine WP.nd fun nd => ?_
  have ndc : (cur.map (·.1)).Nodup := by
    have : (((a, MO.list []) :: ent cur ++ oth).map (·.1)).Nodup := nd
    rw [List.map_append, List.map_cons, List.cons_append, List.nodup_cons] at this
    rw [← ent_keys]
    exact (List.nodup_append.mp this.2).1
  have hlk := lookup_nd ndc
  have hpz : ∀ p ∈ cur, p.2.length ≤ 9 := fun p hp => by
    obtain ⟨i, hi, rfl⟩ := List.getElem_of_mem hp
    obtain ⟨w, _, q1, q2, _⟩ := hcz i _ (List.getElem?_eq_getElem hi)
    lia
  refine WP.setC rfl (EvC.flat (scope := _) (ds := refs cur) (tailD cur) (fun _ e => e) (compOk0 rfl rfl (by decide) (by decide)) (.inl rfl) (.inl rfl) (by decide) (Ev.name (d := .list (refs cur)) rfl) ItD.list ?_ (by rw [refs_lenU]; lia) (fun L' d mu hd => ?_) fun L' d e mu hd he => Ev.name rfl) ?_
  · have : ∀ d ∈ refs cur, (tailD cur d).length ≤ 9 := fun d hd => by
      obtain ⟨p, hp, rfl⟩ := List.mem_map.mp hd
      have := hpz p hp
      rw [tailD, hlk p hp, zs_length, Option.getD_some, List.length_tail]; lia
    have h2 : ((refs cur).map fun d => (tailD cur d).length).sum ≤ (refs cur).length * 9 := by
      generalize refs cur = rs at this
      clear hcz hlk hpz
      induction rs with
      | nil => simp
      | cons x rs ih =>
        have h1 := this x (.head _)
        have h2 := ih fun d hd => this d (.tail _ hd)
        rw [List.map_cons, List.sum_cons, List.length_cons, Nat.add_mul]; lia
    rw [refs_lenU] at h2
    lia
  · obtain ⟨p, hp, rfl⟩ := List.mem_map.mp hd
    refine Ev.of_new (EvN.cast (EvN.from (n := 1) (Ev.name (d := .ref p.1) rfl) (Items.ro (ds := zs p.2) (List.mem_append_left _ (.tail _ (List.mem_append_left _ (ent_mem hp))))) Ev.int) ?_)
    rw [tailD, hlk p hp, Option.getD_some, zs_drop, List.drop_one]
  rintro d mu ⟨ta, rfl, rfl⟩
  have htl := tails_flat cur cur hlk
  rw [show ((refs cur).flatMap fun d => (tailD cur d).map fun e => e) = zs ((rowsOf cur).flatMap List.tail) from htl]
  generalize (rowsOf cur).flatMap List.tail = tl at *
  refine WP.frz [("mixed", .list (refs cur)), ("given", .list (zss (rowsOf mrs))), ("tails", .list (zs tl))] (a := ta) (ds := zs tl) (mu := ((a, MO.list []) :: ent cur) ++ oth) rfl (List.forall_mem_cons.mpr ⟨.inl rfl, List.forall_mem_cons.mpr ⟨.inl rfl, List.forall_mem_cons.mpr ⟨.inr ⟨rfl, rfl⟩, by simp⟩⟩⟩) ?_
  refine WP.forZip (d1 := .list (refs cur)) (d2 := .list (zss (rowsOf mrs))) (ds1 := refs cur) (ds2 := zss (rowsOf mrs)) (mu1 := ((a, MO.list []) :: ent cur) ++ oth) (mu2 := ((a, MO.list []) :: ent cur) ++ oth) ⟨rfl, FN.zip.1, FN.zip.2, rfl⟩ (EvX.of (Ev.name rfl)) (EvX.of (Ev.name rfl)) (fun k σ => σ.mu = ((a, MO.list []) :: ent cur) ++ oth ∧ σ.v "tails" = some (.list (zs tl))) (.inl rfl) (.inl rfl) (fun k σ h => ⟨Items.list, Items.list⟩) ⟨rfl, rfl⟩ (fun k σ da db ha hb hI => ?_) (fun σ hI => ?_)
  · obtain ⟨hm, v1⟩ := hI
    obtain ⟨p, hp, rfl⟩ := refs_get ha
    obtain ⟨w, hw, hw9, q1, q2, q3⟩ := hcz k p hp
    rw [zss, List.getElem?_map, hw] at hb
    cases hb
    have hpm : ((p.1, MO.list (zs p.2)) ∈ ((σ.set "left" (.ref p.1)).set "whole" (.list (zs w))).mu) := by
      show _ ∈ σ.mu
      rw [hm]
      exact List.mem_append_left _ (.tail _ (ent_mem (List.mem_of_getElem? hp)))
    have hll : Items (l1Cx G A name qual doc pm cdv ct an f L n PT) ((σ.set "left" (.ref p.1)).set "whole" (.list (zs w))) (.ref p.1) (zs p.2) := Items.mu hpm
    refine WP.ifs (b := false) (EvT.cast (EvT.cmp (Ev.name (d := .ref p.1) rfl) (Ev.of_new (EvN.cast (EvN.from (n := w.length - p.2.length) (Ev.name (d := .list (zs w)) rfl) Items.list (Ev.cast (Ev.bin (Ev.len (x := "len") ⟨rfl, B.len.1, B.len.2, rfl⟩ (Ev.name (d := .list (zs w)) rfl) Items.list (k := w.length) (by rw [zs_length])) (Ev.len (x := "len") ⟨rfl, B.len.1, B.len.2, rfl⟩ (Ev.name (d := .ref p.1) rfl) hll (k := p.2.length) (by rw [zs_length])) Op.sub) (by congr 1; lia))) (zs_drop _ _))) (Cm.neD (e := encList encInt) (Vs.muz (.inl hpm)) Vs.nums (by decide))) (by rw [← q2]; simp)) (fun h => nomatch h) fun _ => WP.nil ?_
    refine WP.ifs (b := false) (EvT.cast (EvT.and (a := !decide (p.2 = [])) (b := false) (EvT.cast (EvT.cmp (Ev.name (d := .ref p.1) rfl) (Ev.of_new (EvN.list (ds := []) EvL.nil (by simp))) (Cm.neD (e := encList encInt) (b := []) (Vs.muz (.inl hpm)) (Vs.nums (l := [])) (by decide))) (by simp)) fun h => ?_) (by simp)) (fun h => nomatch h) fun _ => WP.nil (WP.nil ⟨hm, v1⟩)
    have hne : p.2 ≠ [] := by simpa using h
    exact EvT.cast (EvT.cmp (Ev.idx (d := .ref p.1) (Ev.name rfl) hll Ev.int (by decide) (head_get hne)) (Ev.name (d := .list (zs tl)) v1) (Cm.notIn Items.list)) (by rw [decide_eq_true (q3 hne)]; rfl)
  · obtain ⟨hm, v1⟩ := hI
    refine WP.nil (WP.ret (d := .bool true) (Ev.cast (Ev.cmp (Ev.name (d := .list (zs tl)) v1) (Ev.of_new (EvN.list (ds := []) EvL.nil (by simp))) (Cm.neD (e := encList encInt) (b := []) Vs.nums (Vs.nums (l := [])) (by decide))) (by simp [e2])) ⟨rfl, ?_⟩)
    rw [hm]
    exact KP.mono fun p hp => List.mem_append_right _ hp
end
end Mine
end

section
set_option Elab.async false
set_option linter.unusedVariables false
set_option linter.unusedSimpArgs false
set_option maxRecDepth 100000
namespace Mine
open PySem PySem.W PyProof.Rows PySem.Calls
section
variable {G : Gx} {f : Addr} {name qual : Str} {doc pm cdv ct : Value} {an : Option Addr} {A : Around} {L : Addr} {n : Nat} {PLs P1 PL : Addr} {qs : Str}
theorem law1_body {script : List Int} {fa c1 cL : Addr} {ms : Str → Option Value} {docK pmK ctK : Value} {anK : Option Addr} (B : Bt G) (FN : Fns1 G PLs P1 qs) (OK : LawOk1 script) (hlen : script.length ≤ 63) (hn : 169 ≤ n) (hA : A.frames = some []) (hgens : G.s0.gens = #[]) (H : KPre G.hb G.mg G.mb ms fa c1 P1 docK pmK (.ref c1) ctK anK) (hL : cdv = .ref cL) (hLd : CodeHd G.hb cL PL) :
    WP (l1Cx G A name qual doc pm cdv ct an f L n PT) { vars := [("script", .list (zs script))], mu := [(PL, tqL qual), (PLs, tqS qs), (P1, TabP none)] } (bo 14) (Fin fun d mu => d = .bool true ∧ ∃ gl fd, Kept PLs P1 PL qs gl fd mu) := by
  refine law1_head B FN hlen (by lia) hgens H hL hLd fun la so gl fd hl => ?_
  have hT := tiesW_dim (script.sum.fmod 64)
  have hw := drawn1_ok script
  have hz := drawn1_len script
  have hp := swapW_perm (drawn1 script) script
  have ho := hw.perm hp
  have hzo : (swapW (drawn1 script) script).length ≤ 9 := by rw [hp.length_eq]; exact hz
  have OK' : Law1 (tiesW (script.sum.fmod 64)) (drawn1 script) (swapW (drawn1 script) script) script.sum := OK
  clear OK hp
  generalize tiesW (script.sum.fmod 64) = T at *
  generalize swapW (drawn1 script) script = o at *
  generalize drawn1 script = w at *
  refine law1_loop FN hn hl hT OK' hw ho hz hzo fun σ s1 s2 c P h1 h2 hm hv => law1_mix B FN hn hT OK' hw ho hz hzo h1 h2 hm hv fun mrs oth hr KP => ?_
  have MX := OK'.mix
  rw [← hr] at MX
  have hrw := rowsW_small T w
  have hro := rowsW_small T o
  have hz1 : mrs.length ≤ 10 := by rw [prs_len hr, mixG_len]; lia
  have hz2 : ∀ p ∈ mrs, p.2.length ≤ 9 := fun p hp => by
    have hm : p.2 ∈ mixW script.sum (rowsW T w) (rowsW T o) := by rw [← hr]; exact List.mem_map_of_mem hp
    have := (mixG_perm script.sum _ _ (rowsW_cnt T w o)).mem_iff.mpr (List.mem_append_left _ hm)
    rcases List.mem_append.mp this with h | h
    · have := hro.2 _ h; lia
    · have := hrw.2 _ h; lia
  have hl60 : (mrg (rowsOf mrs)).1.length ≤ 100 := by
    have := mrg_len (rows := rowsOf mrs) (m := 9) (by rw [rowsOf, List.length_map]; exact hz1) fun r hr => by
      obtain ⟨p, hp, rfl⟩ := List.mem_map.mp hr
      exact hz2 p hp
    lia
  by_cases hx : ∀ r ∈ (mrg (rowsOf mrs)).2, r = []
  · exact WP.mono (law1_done FN hn hl hT MX KP hz1 hz2 hl60 hx) fun o' σ' h => by
      cases o' with
      | ret d => exact ⟨h.1, gl, fd, h.2⟩
      | next => exact ⟨h.1, gl, fd, h.2⟩
      | brk => exact h
      | cont => exact h
  · have hx' : ∃ r ∈ (mrg (rowsOf mrs)).2, r ≠ [] := by
      refine Classical.byContradiction fun hn => hx fun r hr => Classical.byContradiction fun h => hn ⟨r, hr, h⟩
    exact WP.mono (law1_left B FN hn hA MX KP hz1 hz2 hl60 hx') fun o' σ' h => by
      cases o' with
      | ret d => exact ⟨h.1, gl, fd, h.2⟩
      | next => exact ⟨h.1, gl, fd, h.2⟩
      | brk => exact h
      | cont => exact h
structure Lay1 (G : Gx) (mi T PLs : Addr) (qs : Str) : Prop where
  rg : ∃ om, RedG G mi om
  t : ∃ oT mm nT, G.hb.get? T = some oT ∧ oT.data = .seq #[mm] nT
  f3 : ∃ f name qual doc pm an cdv ct, G.mg "reduce" = some (.ref f) ∧ FnF G.hb.get? f (fdN 3 name qual (.ref T) .none doc pm an cdv ct)
  f4 : ∃ f name qual doc pm an cdv ct, G.mg "_c3_merge" = some (.ref f) ∧ FnF G.hb.get? f (fdN 4 name qual .none .none doc pm an cdv ct)
  f6 : ∃ f name qual doc pm an cdv ct, G.mg "_law_numbers" = some (.ref f) ∧ FnF G.hb.get? f (fdN 6 name qual .none .none doc pm an cdv ct)
  f7 : ∃ f name qual doc pm an cdv ct, G.mg "_law_rows" = some (.ref f) ∧ FnF G.hb.get? f (fdN 7 name qual .none .none doc pm an cdv ct)
  f8 : ∃ f name qual doc pm an cdv ct, G.mg "_law_lay" = some (.ref f) ∧ FnF G.hb.get? f (fdN 8 name qual .none .none doc pm an cdv ct)
  f9 : ∃ f name doc pm an cL ct, G.mg "_law_steps" = some (.ref f) ∧ FnF G.hb.get? f (fdN 9 name qs .none .none doc pm an (.ref cL) ct) ∧ CodeHd G.hb cL PLs
  f10 : ∃ f name qual doc pm an cdv ct, G.mg "_law_alike" = some (.ref f) ∧ FnF G.hb.get? f (fdN 10 name qual .none .none doc pm an cdv ct)
  f11 : ∃ f name qual doc pm an cdv ct, G.mg "_law_ties" = some (.ref f) ∧ FnF G.hb.get? f (fdN 11 name qual .none .none doc pm an cdv ct)
  f12 : ∃ f name qual doc pm an cdv ct, G.mg "_law_swapped" = some (.ref f) ∧ FnF G.hb.get? f (fdN 12 name qual .none .none doc pm an cdv ct)
  f13 : ∃ f name qual doc pm an cdv ct, G.mg "_law_met" = some (.ref f) ∧ FnF G.hb.get? f (fdN 13 name qual .none .none doc pm an cdv ct)
  zip : G.mg "zip" = none ∧ G.mb "zip" = some (.type "zip")
  rerr : G.mg "RuntimeError" = none ∧ G.mb "RuntimeError" = some (.type "RuntimeError")
theorem Lay1.fns {mi T : Addr} {fa c1 : Addr} {ms : Str → Option Value} {docK pmK ctK : Value} {anK : Option Addr} (Y : Lay1 G mi T PLs qs) (B : Bt G) (hgens : G.s0.gens = #[]) (H : KPre G.hb G.mg G.mb ms fa c1 P1 docK pmK (.ref c1) ctK anK) (hk : G.mg "cmp_to_key" = some (.ref fa)) : Fns1 G PLs P1 qs := by
  obtain ⟨om, RG⟩ := Y.rg
  obtain ⟨oT, mm, nT, hT, hT2⟩ := Y.t
  obtain ⟨f3, _, _, _, _, _, _, _, m3, F3⟩ := Y.f3
  obtain ⟨f4, n4, q4, d4, p4, a4, c4, t4, m4, F4⟩ := Y.f4
  obtain ⟨f6, _, _, _, _, _, _, _, m6, F6⟩ := Y.f6
  obtain ⟨f7, _, _, _, _, _, _, _, m7, F7⟩ := Y.f7
  obtain ⟨f8, _, _, _, _, _, _, _, m8, F8⟩ := Y.f8
  obtain ⟨f9, _, _, _, _, _, _, m9, F9, hc9⟩ := Y.f9
  obtain ⟨f10, _, _, _, _, _, _, _, m10, F10⟩ := Y.f10
  obtain ⟨f11, _, _, _, _, _, _, _, m11, F11⟩ := Y.f11
  obtain ⟨f12, _, _, _, _, _, _, _, m12, F12⟩ := Y.f12
  obtain ⟨f13, n13, q13, d13, p13, a13, c13, t13, m13, F13⟩ := Y.f13
  refine ⟨⟨f11, m11, fun b => ties_sem (n := 19) PT.mon F11 B⟩, ⟨f12, m12, fun w script h1 h2 => swap_sem (n := 19) PT.mon F12 B (by lia) h2⟩, ⟨f6, m6, fun w hw hz => num_sem (n := 19) PT.mon F6 hw (by lia)⟩, ⟨f7, m7, fun w T hT hw hz => rows_sem (n := 19) PT.mon F7 B hT (by rw [numW_len]; lia) m6 (num_sem (n := 18) PT.mon F6 hw (by lia))⟩,
    ⟨f10, m10, fun w o T hT hw ho hz => alike_sem (n := 19) PT.mon F10 B hT hw ho (by lia)⟩, ⟨f9, m9, fun w T oP hT hw hz => steps_sem B Y.zip hT hw hz hgens H hk hc9 F9⟩, ⟨f8, m8, fun w a T hT hw ha hz => lay_sem (n := 4) PT.mon F8 B hT hw ha (by lia)⟩, ⟨f3, m3, fun P g ds acc hm h0 hg => reduce_sem (n := 19) (m := 10) RG hT hT2 F3 h0 (by decide) hm hg⟩,
    ⟨f4, m4, n4, q4, d4, p4, a4, c4, t4, F4⟩, ⟨f13, m13, n13, q13, d13, p13, a13, c13, t13, F13⟩, Y.zip, Y.rerr⟩
theorem law1_run {mi T : Addr} {script : List Int} {fa c1 cL : Addr} {ms : Str → Option Value} {docK pmK ctK : Value} {anK : Option Addr} (Y : Lay1 G mi T PLs qs) (B : Bt G) (OK : LawOk1 script) (hlen : script.length ≤ 63) (hgens : G.s0.gens = #[]) (hF : FnF G.hb.get? f (fdN 14 name qual .none .none doc pm an (.ref cL) ct)) (H : KPre G.hb G.mg G.mb ms fa c1 P1 docK pmK (.ref c1) ctK anK) (hk : G.mg "cmp_to_key" = some (.ref fa)) (hLd : CodeHd G.hb cL PL)
    {K F : Fz} {s : Shared} {v : Value} {Q : Value → Shared → Prop} {E : Value → Shared → Prop} (hA : A.frames = some []) (hr : Room A 170) (X : Am G K [(PL, tqL qual), (PLs, tqS qs), (P1, TabP none)] F s) (r : Rep F v (.list (zs script)))
    (hQ : ∀ F' s' mu gl fd, Kept PLs P1 PL qs gl fd mu → Am G K mu F' s' → Fle F F' → Q (.bool true) s') : wpAny G.M A (call (.ref f) [v]) Q E s := by
  have FN := Y.fns B hgens H hk
  refine call_fnC_at (P := PT) (n := 169) (fd := fdN 14 name qual .none .none doc pm an (.ref cL) ct) (ns := ["script"]) (body := bo 14) (ds := [.list (zs script)]) PT.mon ⟨rfl, fun s vs hb h => ?_, by decide, rfl, rfl, rfl, rfl, rfl⟩ (fun vs h => ?_) (fun K F hb _ => hF.mono hb) rfl (show ((cellsFrom 0 (sc 14).names []).map (·.1)).Nodup by decide) (show ∀ x ∈ (["script"] : List Str), (sc 14).names.lookup x = _ ∨ (sc 14).names.lookup x = _ by decide) (fun L => law1_body B FN OK hlen (by decide) hA hgens H rfl hLd) hr trivial X (.cons r .nil) fun F' v' s' d mu hR AM gF r' => ?_
  · match vs, h with
    | [a], _ => exact BindsTo.of_eq rfl
  · match vs, h with
    | [a], _ => rfl
  · obtain ⟨rfl, gl, fd, KP⟩ := hR
    cases r'
    exact hQ F' s' mu gl fd KP AM gF
end
end Mine
end

section
set_option Elab.async false
set_option linter.unusedVariables false
set_option maxRecDepth 100000
namespace Mine
open PySem PySem.W PySem.W.X PyProof.Rows PySem.Calls
def ro1 : OpenRow := PySem.Challenge.rw_sn0003_01.row
noncomputable def vw1 : Program := { ro1.prog with main := { ro1.prog.main with body := [1, 2, 4, 6, 7, 8, 9, 10, 11, 12, 13, 14].filterMap fun i => ro1.prog.main.body[i]? } }
noncomputable def K1 (P : Params) : Frag :=
  [(2, { cls := Value.none, data := Data.dict #[] }),
   (3, { cls := Value.type "dict", data := Data.dict #[{ hash := PyData.keyHash P "__name__", key := Value.str "__name__" 165, val := Value.str "law_sn0003_01" 217 }, { hash := PyData.keyHash P "__doc__", key := Value.str "__doc__" 166, val := Value.none }, { hash := PyData.keyHash P "__package__", key := Value.str "__package__" 167, val := Value.none }, { hash := PyData.keyHash P "__loader__", key := Value.str "__loader__" 168, val := Value.builtin "__main__.__loader__#opaque" }, { hash := PyData.keyHash P "__spec__", key := Value.str "__spec__" 169, val := Value.none }, { hash := PyData.keyHash P "__annotations__", key := Value.str "__annotations__" 170, val := Value.ref 6 }, { hash := PyData.keyHash P "__builtins__", key := Value.str "__builtins__" 171, val := Value.ref 4 }, { hash := PyData.keyHash P "__file__", key := Value.str "__file__" 173, val := Value.str "/claim/cut.py" 172 }, { hash := PyData.keyHash P "__cached__", key := Value.str "__cached__" 174, val := Value.none }, { hash := PyData.keyHash P "cmp_to_key", key := Value.str "cmp_to_key" 197, val := Value.ref 21 }, { hash := PyData.keyHash P "_initial_missing", key := Value.str "_initial_missing" 198, val := Value.ref 22 }, { hash := PyData.keyHash P "reduce", key := Value.str "reduce" 210, val := Value.ref 30 }, { hash := PyData.keyHash P "_c3_merge", key := Value.str "_c3_merge" 216, val := Value.ref 35 }, { hash := PyData.keyHash P "_law_numbers", key := Value.str "_law_numbers" 228, val := Value.ref 42 }, { hash := PyData.keyHash P "_law_rows", key := Value.str "_law_rows" 234, val := Value.ref 47 }, { hash := PyData.keyHash P "_law_lay", key := Value.str "_law_lay" 244, val := Value.ref 54 }, { hash := PyData.keyHash P "_law_steps", key := Value.str "_law_steps" 250, val := Value.ref 59 }, { hash := PyData.keyHash P "_law_alike", key := Value.str "_law_alike" 262, val := Value.ref 66 }, { hash := PyData.keyHash P "_law_ties", key := Value.str "_law_ties" 268, val := Value.ref 71 }, { hash := PyData.keyHash P "_law_swapped", key := Value.str "_law_swapped" 278, val := Value.ref 78 }, { hash := PyData.keyHash P "_law_met", key := Value.str "_law_met" 285, val := Value.ref 85 }, { hash := PyData.keyHash P "law", key := Value.str "law" 291, val := Value.ref 90 }] 22 }),
   (20, { cls := Value.type "code", data := Data.fields #[Value.str "cmp_to_key" 189, Value.str "cmp_to_key" 190, Value.str "/claim/cut.py" 191, Value.int 2 0, Value.int 1 0, Value.int 0 0, Value.int 0 0, Value.int 3 0, Value.ref 15, Value.bool true, Value.int 181 0, Value.ref 16, Value.none, Value.ref 17, Value.ref 18, Value.ref 19, Value.int 195 0, Value.int 2 0, Value.str "/claim/cut.py" 196] }),
   (21, { cls := Value.type "function", data := Data.func (fdN 1 "cmp_to_key" "cmp_to_key" (Value.none) (Value.none) Value.none (Value.str "cpy313.functools" 187) none (Value.ref 20) Value.none) }),
   (22, { cls := Value.type "object" }),
   (23, { cls := Value.type "tuple", data := Data.seq #[Value.ref 22] }),
   (29, { cls := Value.type "code", data := Data.fields #[Value.str "reduce" 199, Value.str "reduce" 200, Value.str "/claim/cut.py" 201, Value.int 28 0, Value.int 3 0, Value.int 0 0, Value.int 0 0, Value.int 3 0, Value.ref 24, Value.bool true, Value.int 181 0, Value.ref 25, Value.none, Value.ref 26, Value.ref 27, Value.ref 28, Value.int 208 0, Value.int 28 0, Value.str "/claim/cut.py" 209] }),
   (30, { cls := Value.type "function", data := Data.func (fdN 3 "reduce" "reduce" (Value.ref 23) (Value.none) Value.none (Value.str "cpy313.functools" 187) none (Value.ref 29) Value.none) }),
   (34, { cls := Value.type "code", data := Data.fields #[Value.str "_c3_merge" 211, Value.str "_c3_merge" 212, Value.str "/claim/cut.py" 213, Value.int 40 0, Value.int 1 0, Value.int 0 0, Value.int 0 0, Value.int 3 0, Value.ref 31, Value.bool true, Value.int 181 0, Value.ref 32, Value.none, Value.none, Value.none, Value.ref 33, Value.int 214 0, Value.int 40 0, Value.str "/claim/cut.py" 215] }),
   (35, { cls := Value.type "function", data := Data.func (fdN 4 "_c3_merge" "_c3_merge" (Value.none) (Value.none) Value.none (Value.str "cpy313.functools" 187) none (Value.ref 34) Value.none) }),
   (41, { cls := Value.type "code", data := Data.fields #[Value.str "_law_numbers" 219, Value.str "_law_numbers" 220, Value.str "/claim/cut.py" 221, Value.int 61 0, Value.int 1 0, Value.int 0 0, Value.int 0 0, Value.int 3 0, Value.ref 36, Value.bool true, Value.int 181 0, Value.ref 37, Value.none, Value.ref 38, Value.ref 39, Value.ref 40, Value.int 226 0, Value.int 61 0, Value.str "/claim/cut.py" 227] }),
   (42, { cls := Value.type "function", data := Data.func (fdN 6 "_law_numbers" "_law_numbers" (Value.none) (Value.none) Value.none (Value.str "law_sn0003_01" 217) none (Value.ref 41) Value.none) }),
   (46, { cls := Value.type "code", data := Data.fields #[Value.str "_law_rows" 229, Value.str "_law_rows" 230, Value.str "/claim/cut.py" 231, Value.int 68 0, Value.int 2 0, Value.int 0 0, Value.int 0 0, Value.int 3 0, Value.ref 43, Value.bool true, Value.int 181 0, Value.ref 44, Value.none, Value.none, Value.none, Value.ref 45, Value.int 232 0, Value.int 68 0, Value.str "/claim/cut.py" 233] }),
   (47, { cls := Value.type "function", data := Data.func (fdN 7 "_law_rows" "_law_rows" (Value.none) (Value.none) Value.none (Value.str "law_sn0003_01" 217) none (Value.ref 46) Value.none) }),
   (53, { cls := Value.type "code", data := Data.fields #[Value.str "_law_lay" 235, Value.str "_law_lay" 236, Value.str "/claim/cut.py" 237, Value.int 76 0, Value.int 3 0, Value.int 0 0, Value.int 0 0, Value.int 3 0, Value.ref 48, Value.bool true, Value.int 181 0, Value.ref 49, Value.none, Value.ref 50, Value.ref 51, Value.ref 52, Value.int 242 0, Value.int 76 0, Value.str "/claim/cut.py" 243] }),
   (54, { cls := Value.type "function", data := Data.func (fdN 8 "_law_lay" "_law_lay" (Value.none) (Value.none) Value.none (Value.str "law_sn0003_01" 217) none (Value.ref 53) Value.none) }),
   (58, { cls := Value.type "code", data := Data.fields #[Value.str "_law_steps" 245, Value.str "_law_steps" 246, Value.str "/claim/cut.py" 247, Value.int 83 0, Value.int 2 0, Value.int 0 0, Value.int 0 0, Value.int 3 0, Value.ref 55, Value.bool true, Value.int 181 0, Value.ref 56, Value.none, Value.none, Value.none, Value.ref 57, Value.int 248 0, Value.int 83 0, Value.str "/claim/cut.py" 249] }),
   (59, { cls := Value.type "function", data := Data.func (fdN 9 "_law_steps" "_law_steps" (Value.none) (Value.none) Value.none (Value.str "law_sn0003_01" 217) none (Value.ref 58) Value.none) }),
   (65, { cls := Value.type "code", data := Data.fields #[Value.str "_law_alike" 251, Value.str "_law_alike" 252, Value.str "/claim/cut.py" 253, Value.int 93 0, Value.int 3 0, Value.int 0 0, Value.int 0 0, Value.int 3 0, Value.ref 60, Value.bool true, Value.int 181 0, Value.ref 61, Value.none, Value.ref 62, Value.ref 63, Value.ref 64, Value.int 260 0, Value.int 93 0, Value.str "/claim/cut.py" 261] }),
   (66, { cls := Value.type "function", data := Data.func (fdN 10 "_law_alike" "_law_alike" (Value.none) (Value.none) Value.none (Value.str "law_sn0003_01" 217) none (Value.ref 65) Value.none) }),
   (70, { cls := Value.type "code", data := Data.fields #[Value.str "_law_ties" 263, Value.str "_law_ties" 264, Value.str "/claim/cut.py" 265, Value.int 103 0, Value.int 1 0, Value.int 0 0, Value.int 0 0, Value.int 3 0, Value.ref 67, Value.bool true, Value.int 181 0, Value.ref 68, Value.none, Value.none, Value.none, Value.ref 69, Value.int 266 0, Value.int 103 0, Value.str "/claim/cut.py" 267] }),
   (71, { cls := Value.type "function", data := Data.func (fdN 11 "_law_ties" "_law_ties" (Value.none) (Value.none) Value.none (Value.str "law_sn0003_01" 217) none (Value.ref 70) Value.none) }),
   (77, { cls := Value.type "code", data := Data.fields #[Value.str "_law_swapped" 269, Value.str "_law_swapped" 270, Value.str "/claim/cut.py" 271, Value.int 111 0, Value.int 2 0, Value.int 0 0, Value.int 0 0, Value.int 3 0, Value.ref 72, Value.bool true, Value.int 181 0, Value.ref 73, Value.none, Value.ref 74, Value.ref 75, Value.ref 76, Value.int 276 0, Value.int 111 0, Value.str "/claim/cut.py" 277] }),
   (78, { cls := Value.type "function", data := Data.func (fdN 12 "_law_swapped" "_law_swapped" (Value.none) (Value.none) Value.none (Value.str "law_sn0003_01" 217) none (Value.ref 77) Value.none) }),
   (84, { cls := Value.type "code", data := Data.fields #[Value.str "_law_met" 279, Value.str "_law_met" 280, Value.str "/claim/cut.py" 281, Value.int 117 0, Value.int 1 0, Value.int 0 0, Value.int 0 0, Value.int 3 0, Value.ref 79, Value.bool true, Value.int 181 0, Value.ref 80, Value.none, Value.ref 81, Value.ref 82, Value.ref 83, Value.int 283 0, Value.int 117 0, Value.str "/claim/cut.py" 284] }),
   (85, { cls := Value.type "function", data := Data.func (fdN 13 "_law_met" "_law_met" (Value.none) (Value.none) Value.none (Value.str "law_sn0003_01" 217) none (Value.ref 84) Value.none) }),
   (89, { cls := Value.type "code", data := Data.fields #[Value.str "law" 286, Value.str "law" 287, Value.str "/claim/cut.py" 288, Value.int 122 0, Value.int 1 0, Value.int 0 0, Value.int 0 0, Value.int 3 0, Value.ref 86, Value.bool true, Value.int 181 0, Value.ref 87, Value.none, Value.none, Value.none, Value.ref 88, Value.int 289 0, Value.int 122 0, Value.str "/claim/cut.py" 290] }),
   (90, { cls := Value.type "function", data := Data.func (fdN 14 "law" "law" (Value.none) (Value.none) Value.none (Value.str "law_sn0003_01" 217) none (Value.ref 89) Value.none) })]
noncomputable abbrev as1 : List Addr := [2, 3, 20, 21, 22, 23, 29, 30, 34, 35, 41, 42, 46, 47, 53, 54, 58, 59, 65, 66, 70, 71, 77, 78, 84, 85, 89, 90]
noncomputable def hk1 : Hook := kmHook K1 as1 (fun _ => by kernel_rfl) [16, 56, 87]
theorem left1 : LeftO ro1.toRowW.1 vw1 ["_initial_missing", "reduce"] (fun s => xlAt vw1 [] s && recOk (RowW.records ro1.toRowW) s) hk1.obs hk1.val 900 := fun w => by kernel_rfl
theorem said1 : PySem.Challenge.rw_sn0003_01.wellSaid = true := by kernel_rfl
noncomputable def d1 : DefRec × List (Str × Expr) := (defOf vw1 ro1.name).get (by kernel_rfl)
theorem hdA1 (walk : ∀ d kwd, d.name = Str.ofString "law" → WalkO vw1 ["_initial_missing", "reduce"] (XL vw1 []) hk1.says ro1.toRowW d kwd fun f vs => PySem.call f vs) : PySem.Challenge.rw_sn0003_01.Holds := by
  refine holds_law said1 fun said => ?_
  refine holds_open (r := ro1) (q := vw1) (d := d1.1) (kwd := d1.2) (loose := ["_initial_missing", "reduce"]) (Xt := fun s => xlAt vw1 [] s && recOk (RowW.records ro1.toRowW) s) (XP := XL vw1 []) (Yf := hk1.obs) (Ya := hk1.val) (YP := hk1.says) (N := 900) left1 hk1.of hk1.keeps (fun s e => xl_of s (Bool.and_eq_true_iff.mp e).1) XL.keeps (by kernel_rfl) (by kernel_rfl) (by kernel_rfl) (fun s e => recFacts_of (Bool.and_eq_true_iff.mp e).2) (by rfl) said (by decide +kernel) ⟨rfl, rfl, rfl, rfl, rfl, by decide +kernel⟩ ?hw ?hc
  case hw => w_witness2
  case hc => exact walk _ _ (by kernel_rfl)
end Mine
end

section
set_option Elab.async false
set_option linter.unusedVariables false
set_option maxRecDepth 100000
namespace Mine
open PySem PySem.W PySem.W.X PyProof.Rows PySem.Calls
noncomputable def kO (K : Frag) (a : Addr) : Obj := (K.lookup a).getD default
noncomputable def kFn (K : Frag) (a : Addr) : FuncData := match (kO K a).data with | .func fd => fd | _ => default
noncomputable def kVs (K : Frag) (a : Addr) : Array Value := match (kO K a).data with | .fields vs => vs | _ => #[]
noncomputable def kTok : Option Value → Tok | some (.str _ t) => t | _ => default
noncomputable def kStr : Option Value → Str | some (.str s _) => s | _ => Str.empty
noncomputable def kLen (K : Frag) (a : Addr) : Nat := match (kO K a).data with | .seq _ n => n | _ => 0
noncomputable def kEp (K : Frag) (a : Addr) : Nat := match (kO K a).data with | .dict _ n => n | _ => 0
structure KFun (K : Frag) (a c n : Nat) (dV : Value) : Prop where
  l1 : K.lookup a = some (kO K a)
  l2 : (kO K a).data = .func (kFn K a)
  l3 : kFn K a = fdN n (kFn K a).name (kFn K a).qualname dV .none (kFn K a).doc (kFn K a).pyModule (kFn K a).annotations (.ref c) (kFn K a).closureTuple
  l4 : K.lookup c = some (kO K c)
  l5 : (kO K c).data = .fields (kVs K c)
  l6 : (kVs K c)[1]? = some (.str (kFn K a).qualname (kTok (kVs K c)[1]?))
theorem kf30 (P : Params) : KFun (K1 P) 30 29 3 (.ref 23) := ⟨by kernel_rfl, by kernel_rfl, by kernel_rfl, by kernel_rfl, by kernel_rfl, by kernel_rfl⟩
theorem kf35 (P : Params) : KFun (K1 P) 35 34 4 .none := ⟨by kernel_rfl, by kernel_rfl, by kernel_rfl, by kernel_rfl, by kernel_rfl, by kernel_rfl⟩
theorem kf42 (P : Params) : KFun (K1 P) 42 41 6 .none := ⟨by kernel_rfl, by kernel_rfl, by kernel_rfl, by kernel_rfl, by kernel_rfl, by kernel_rfl⟩
theorem kf47 (P : Params) : KFun (K1 P) 47 46 7 .none := ⟨by kernel_rfl, by kernel_rfl, by kernel_rfl, by kernel_rfl, by kernel_rfl, by kernel_rfl⟩
theorem kf54 (P : Params) : KFun (K1 P) 54 53 8 .none := ⟨by kernel_rfl, by kernel_rfl, by kernel_rfl, by kernel_rfl, by kernel_rfl, by kernel_rfl⟩
theorem kf59 (P : Params) : KFun (K1 P) 59 58 9 .none := ⟨by kernel_rfl, by kernel_rfl, by kernel_rfl, by kernel_rfl, by kernel_rfl, by kernel_rfl⟩
theorem kf66 (P : Params) : KFun (K1 P) 66 65 10 .none := ⟨by kernel_rfl, by kernel_rfl, by kernel_rfl, by kernel_rfl, by kernel_rfl, by kernel_rfl⟩
theorem kf71 (P : Params) : KFun (K1 P) 71 70 11 .none := ⟨by kernel_rfl, by kernel_rfl, by kernel_rfl, by kernel_rfl, by kernel_rfl, by kernel_rfl⟩
theorem kf78 (P : Params) : KFun (K1 P) 78 77 12 .none := ⟨by kernel_rfl, by kernel_rfl, by kernel_rfl, by kernel_rfl, by kernel_rfl, by kernel_rfl⟩
theorem kf85 (P : Params) : KFun (K1 P) 85 84 13 .none := ⟨by kernel_rfl, by kernel_rfl, by kernel_rfl, by kernel_rfl, by kernel_rfl, by kernel_rfl⟩
theorem kf90 (P : Params) : KFun (K1 P) 90 89 14 .none := ⟨by kernel_rfl, by kernel_rfl, by kernel_rfl, by kernel_rfl, by kernel_rfl, by kernel_rfl⟩
theorem kf21 (P : Params) : KFun (K1 P) 21 20 1 .none := ⟨by kernel_rfl, by kernel_rfl, by kernel_rfl, by kernel_rfl, by kernel_rfl, by kernel_rfl⟩
theorem kn21 (P : Params) : (kFn (K1 P) 21).name = "cmp_to_key" ∧ (kFn (K1 P) 21).qualname = "cmp_to_key" := ⟨by kernel_rfl, by kernel_rfl⟩
theorem kc20 (P : Params) : codeHdIn (K1 P) 20 16 = true := by kernel_rfl
theorem kc58 (P : Params) : codeHdIn (K1 P) 58 56 = true := by kernel_rfl
theorem kc89 (P : Params) : codeHdIn (K1 P) 89 87 = true := by kernel_rfl
noncomputable def kGlob : List (Str × Addr) := [("cmp_to_key", 21), ("reduce", 30), ("_c3_merge", 35), ("_law_numbers", 42), ("_law_rows", 47), ("_law_lay", 54), ("_law_steps", 59), ("_law_alike", 66), ("_law_ties", 71), ("_law_swapped", 78), ("_law_met", 85), ("law", 90), ("_initial_missing", 22)]
theorem kglob (P : Params) : ∀ p ∈ kGlob, nsIn (K1 P) mainGlobals p.1 = some (some (.ref p.2)) := by
  intro p hp
  simp only [kGlob, List.mem_cons, List.not_mem_nil, or_false] at hp
  rcases hp with rfl | rfl | rfl | rfl | rfl | rfl | rfl | rfl | rfl | rfl | rfl | rfl | rfl <;> kernel_rfl
theorem knone (P : Params) : ∀ x ∈ (["iter", "len", "sum", "min", "sorted", "range", "list", "object", "zip", "RuntimeError"] : List Str), nsIn (K1 P) mainGlobals x = some none := by
  intro p hp
  simp only [List.mem_cons, List.not_mem_nil, or_false] at hp
  rcases hp with rfl | rfl | rfl | rfl | rfl | rfl | rfl | rfl | rfl | rfl <;> kernel_rfl
theorem kbuil : ∀ p ∈ ([("iter", .builtin "iter"), ("len", .builtin "len"), ("sum", .builtin "sum"), ("min", .builtin "min"), ("sorted", .builtin "sorted"), ("range", .type "range"), ("list", .type "list"), ("object", .type "object"), ("__build_class__", .builtin "__build_class__"), ("zip", .type "zip"), ("RuntimeError", .type "RuntimeError")] : List (Str × Value)), bootBuiltins p.1 = some p.2 := by
  intro p hp
  simp only [List.mem_cons, List.not_mem_nil, or_false] at hp
  rcases hp with rfl | rfl | rfl | rfl | rfl | rfl | rfl | rfl | rfl | rfl | rfl <;> kernel_rfl
theorem kname (P : Params) : nsIn (K1 P) mainGlobals "__name__" = some (some (.str (kStr ((nsIn (K1 P) mainGlobals "__name__").getD none)) (kTok ((nsIn (K1 P) mainGlobals "__name__").getD none)))) := by kernel_rfl
theorem kmiss (P : Params) : (K1 P).lookup 22 = some (kO (K1 P) 22) ∧ (kO (K1 P) 22).cls = .type "object" := ⟨by kernel_rfl, by kernel_rfl⟩
theorem ktup (P : Params) : (K1 P).lookup 23 = some (kO (K1 P) 23) ∧ (kO (K1 P) 23).data = .seq #[.ref 22] (kLen (K1 P) 23) := ⟨by kernel_rfl, by kernel_rfl⟩
theorem kst (P : Params) : (K1 P).lookup cStatics = some (kO (K1 P) cStatics) ∧ (kO (K1 P) cStatics).data = .dict #[] (kEp (K1 P) cStatics) := ⟨by kernel_rfl, by kernel_rfl⟩
end Mine
end

section
set_option Elab.async false
set_option linter.unusedVariables false
set_option maxRecDepth 100000
namespace Mine
open PySem PySem.W PySem.W.X PyProof.Rows PySem.Calls
theorem ns_of {K : Frag} {h : Heap} {m : Str → Option Value} {a : Addr} {n : Str} {v : Option Value} (X : K.In h) (G : h.Ns a m) (e : nsIn K a n = some v) : m n = v := by
  obtain ⟨o, es, ep, ho, hd, _, hf⟩ := G
  rw [← hf]
  unfold nsIn at e
  split at e
  · rename_i q
    have q1 := X _ _ q
    rw [ho] at q1
    cases q1
    cases hd
    unfold nsFind findBy
    rw [← Array.find?_toList]
    split at e
    · rename_i he
      rw [he]; cases e; rfl
    · rename_i he
      split at e
      · cases e
      · rw [he]; cases e; rfl
  · cases e
theorem IntsAre.repL {F : Fz} : ∀ {vs : List Value} {ns : List Int}, IntsAre vs ns → RepL F vs (zs ns)
  | _, _, .nil => .nil
  | _, _, .cons n t r => .cons (.int n t) (IntsAre.repL r)
theorem KFun.fn {K : Frag} {h : Heap} {a c n : Nat} {dV : Value} (k : KFun K a c n dV) (X : ∀ b o, K.lookup b = some o → b ≠ 16 → b ≠ 56 → b ≠ 87 → h.get? b = some o) (h1 : a ≠ 16) (h2 : a ≠ 56) (h5 : a ≠ 87) (h3 : c ≠ 16) (h4 : c ≠ 56) (h6 : c ≠ 87) :
    FnF h.get? a (fdN n (kFn K a).name (kFn K a).qualname dV .none (kFn K a).doc (kFn K a).pyModule (kFn K a).annotations (.ref c) (kFn K a).closureTuple) :=
  ⟨⟨_, X _ _ k.l1 h1 h2 h5, k.l2.trans (congrArg _ k.l3)⟩, c, _, _, _, rfl, X _ _ k.l4 h3 h4 h6, k.l5, k.l6⟩
theorem law1_of (hp : ∀ script : List Int, script.length ≤ 63 → LawOk1 script) : PySem.Challenge.rw_sn0003_01.Holds := by
  refine hdA1 fun d kwd hdn => ?_
  intro w s₀ s₁ mg mb G Y fa o pm cd doc dV kV ho hd hcd hD hmg hg args vals as hpre hlay hrd hwl hlo
  have X := (Ground.X G).1
  refine Ground.open G ?_
  intro T B D TE TW
  clear hcd hD hd
  have KX := km_in_of (K := K1) Y
  have KT := km_tabs_of (K := K1) (ts := [16, 56, 87]) Y
  clear Y
  wrow_args hpre hlay hrd hwl hlo
  rename_i scr _ _ _ _ _ _ _ l vs _ hL _ hW _ hI _ hcond _
  have hlen : scr.length ≤ 63 := by lia
  have OK := hp scr hlen
  clear hp
  generalize hK : K1 w.params = K at KX
  have t16 := KT 16 (by decide)
  have t56 := KT 56 (by decide)
  have t87 := KT 87 (by decide)
  have hb0 : ∀ b o, (hideAll s₁.heap [16, 56, 87]).get? b = some o → s₁.heap.get? b = some o := fun b o e => of_hideAll _ e
  have hb1 : ∀ b o, s₁.heap.get? b = some o → b ≠ 16 → b ≠ 56 → b ≠ 87 → (hideAll s₁.heap [16, 56, 87]).get? b = some o := fun b o e n1 n2 n3 => hideAll_get _ e (by simp [n1, n2, n3])
  have kb : ∀ b o, K.lookup b = some o → b ≠ 16 → b ≠ 56 → b ≠ 87 → (hideAll s₁.heap [16, 56, 87]).get? b = some o := fun b o e => hb1 b o (KX _ _ e)
  have hn : ∀ b m, s₁.heap.Ns b m → b ≠ 16 → b ≠ 56 → b ≠ 87 → (hideAll s₁.heap [16, 56, 87]).Ns b m := fun b m ⟨o, es, ep, e, r⟩ n1 n2 n3 => ⟨o, es, ep, hb1 _ _ e n1 n2 n3, r⟩
  have h16 : (hideAll s₁.heap [16, 56, 87]).get? 16 = none := hideAll_none _ (.head _)
  have h56 : (hideAll s₁.heap [16, 56, 87]).get? 56 = none := hideAll_none _ (.tail _ (.head _))
  have h87 : (hideAll s₁.heap [16, 56, 87]).get? 87 = none := hideAll_none _ (.tail _ (.tail _ (.head _)))
  generalize hhb : hideAll s₁.heap [16, 56, 87] = hb at *
  have glb : ∀ p ∈ kGlob, mg p.1 = some (.ref p.2) := fun p hp => ns_of KX T.g (hK ▸ kglob w.params p hp)
  have non : ∀ x ∈ (["iter", "len", "sum", "min", "sorted", "range", "list", "object", "zip", "RuntimeError"] : List Str), mg x = none := fun x hx => ns_of KX T.g (hK ▸ knone w.params x hx)
  have bui : ∀ p ∈ ([("iter", .builtin "iter"), ("len", .builtin "len"), ("sum", .builtin "sum"), ("min", .builtin "min"), ("sorted", .builtin "sorted"), ("range", .type "range"), ("list", .type "list"), ("object", .type "object"), ("__build_class__", .builtin "__build_class__"), ("zip", .type "zip"), ("RuntimeError", .type "RuntimeError")] : List (Str × Value)), mb p.1 = some p.2 := fun p hp => by
    refine (T.builtins p.1 ?_).trans (kbuil p hp)
    simp only [List.mem_cons, List.not_mem_nil, or_false] at hp
    rcases hp with rfl | rfl | rfl | rfl | rfl | rfl | rfl | rfl | rfl | rfl | rfl <;> decide
  have hfa : fa = 90 := by
    have q1 : mg "law" = some (.ref fa) := hdn ▸ hmg
    have q2 : mg "law" = some (.ref 90) := glb ("law", 90) (by simp [kGlob])
    rw [q1] at q2; cases q2; rfl
  subst hfa
  have g0 : ∀ (x : Str) (a : Addr), (x, a) ∈ kGlob → mg x = some (.ref a) := fun x a h => glb (x, a) h
  have f30 := (hK ▸ kf30 w.params : KFun K 30 29 3 (.ref 23)).fn kb (by decide) (by decide) (by decide) (by decide) (by decide) (by decide)
  have f35 := (hK ▸ kf35 w.params : KFun K 35 34 4 .none).fn kb (by decide) (by decide) (by decide) (by decide) (by decide) (by decide)
  have f42 := (hK ▸ kf42 w.params : KFun K 42 41 6 .none).fn kb (by decide) (by decide) (by decide) (by decide) (by decide) (by decide)
  have f47 := (hK ▸ kf47 w.params : KFun K 47 46 7 .none).fn kb (by decide) (by decide) (by decide) (by decide) (by decide) (by decide)
  have f54 := (hK ▸ kf54 w.params : KFun K 54 53 8 .none).fn kb (by decide) (by decide) (by decide) (by decide) (by decide) (by decide)
  have f59 := (hK ▸ kf59 w.params : KFun K 59 58 9 .none).fn kb (by decide) (by decide) (by decide) (by decide) (by decide) (by decide)
  have f66 := (hK ▸ kf66 w.params : KFun K 66 65 10 .none).fn kb (by decide) (by decide) (by decide) (by decide) (by decide) (by decide)
  have f71 := (hK ▸ kf71 w.params : KFun K 71 70 11 .none).fn kb (by decide) (by decide) (by decide) (by decide) (by decide) (by decide)
  have f78 := (hK ▸ kf78 w.params : KFun K 78 77 12 .none).fn kb (by decide) (by decide) (by decide) (by decide) (by decide) (by decide)
  have f85 := (hK ▸ kf85 w.params : KFun K 85 84 13 .none).fn kb (by decide) (by decide) (by decide) (by decide) (by decide) (by decide)
  have f90 := (hK ▸ kf90 w.params : KFun K 90 89 14 .none).fn kb (by decide) (by decide) (by decide) (by decide) (by decide) (by decide)
  have f21 := (hK ▸ kf21 w.params : KFun K 21 20 1 .none).fn kb (by decide) (by decide) (by decide) (by decide) (by decide) (by decide)
  obtain ⟨n21, q21⟩ := (hK ▸ kn21 w.params : (kFn K 21).name = "cmp_to_key" ∧ (kFn K 21).qualname = "cmp_to_key")
  rw [n21, q21] at f21
  have cd20 := codeHd_of_K KX (hK ▸ kc20 w.params)
  have cd58 := codeHd_of_K KX (hK ▸ kc58 w.params)
  have cd89 := codeHd_of_K KX (hK ▸ kc89 w.params)
  have tb16 := cd20.tab t16
  have tb56 := cd58.tab t56
  have tb87 := cd89.tab t87
  have hdk : ∀ c P, CodeHd s₁.heap c P → c ≠ 16 → c ≠ 56 → c ≠ 87 → CodeHd hb c P := fun c P ⟨o, vs, file, tf, flags, tg, inF, text, tt, e, r⟩ n1 n2 n3 => ⟨o, vs, file, tf, flags, tg, inF, text, tt, hb1 _ _ e n1 n2 n3, r⟩
  have cd20' := hdk _ _ cd20 (by decide) (by decide) (by decide)
  have cd58' := hdk _ _ cd58 (by decide) (by decide) (by decide)
  have cd89' := hdk _ _ cd89 (by decide) (by decide) (by decide)
  have miss := (hK ▸ kmiss w.params : K.lookup 22 = some (kO K 22) ∧ (kO K 22).cls = .type "object")
  have tup := (hK ▸ ktup w.params : K.lookup 23 = some (kO K 23) ∧ (kO K 23).data = .seq #[.ref 22] (kLen K 23))
  have st := (hK ▸ kst w.params : K.lookup cStatics = some (kO K cStatics) ∧ (kO K cStatics).data = .dict #[] (kEp K cStatics))
  have sy : ∃ o, s₁.heap.get? sysModules = some o := by
    obtain ⟨ms, ⟨o, es, ep, e, _⟩, _⟩ := (T.seer (by decide +kernel)).mods
    exact ⟨o, e⟩
  have nsS : hb.Ns cStatics (fun _ => none) := ⟨_, _, _, kb _ _ st.1 (by decide) (by decide) (by decide), st.2, (fun e he => by simp at he), fun _ => rfl⟩
  let G0 : Gx := ⟨PySem.Challenge.rw_sn0003_01.row.prog, w, hb, mg, mb, s₁⟩
  have B0 : Bt G0 := ⟨⟨non _ (by decide), bui ("len", _) (by decide)⟩, ⟨non _ (by decide), bui ("sum", _) (by decide)⟩, ⟨non _ (by decide), bui ("min", _) (by decide)⟩, ⟨non _ (by decide), bui ("sorted", _) (by decide)⟩, ⟨non _ (by decide), bui ("range", _) (by decide)⟩, ⟨non _ (by decide), bui ("list", _) (by decide)⟩⟩
  have Y0 : Lay1 G0 22 23 56 (kFn K 59).qualname := ⟨⟨_, ⟨non _ (by decide), bui ("iter", _) (by decide), g0 _ _ (by decide), kb _ _ miss.1 (by decide) (by decide) (by decide), by rw [miss.2]; nofun, by rw [miss.2]; nofun⟩⟩, ⟨_, _, _, kb _ _ tup.1 (by decide) (by decide) (by decide), tup.2⟩,
    ⟨30, _, _, _, _, _, _, _, g0 _ _ (by decide), f30⟩, ⟨35, _, _, _, _, _, _, _, g0 _ _ (by decide), f35⟩, ⟨42, _, _, _, _, _, _, _, g0 _ _ (by decide), f42⟩, ⟨47, _, _, _, _, _, _, _, g0 _ _ (by decide), f47⟩, ⟨54, _, _, _, _, _, _, _, g0 _ _ (by decide), f54⟩,
    ⟨59, _, _, _, _, _, _, g0 _ _ (by decide), f59, cd58'⟩, ⟨66, _, _, _, _, _, _, _, g0 _ _ (by decide), f66⟩, ⟨71, _, _, _, _, _, _, _, g0 _ _ (by decide), f71⟩, ⟨78, _, _, _, _, _, _, _, g0 _ _ (by decide), f78⟩, ⟨85, _, _, _, _, _, _, _, g0 _ _ (by decide), f85⟩,
    ⟨non _ (by decide), bui ("zip", _) (by decide)⟩, ⟨non _ (by decide), bui ("RuntimeError", _) (by decide)⟩⟩
  have H0 : KPre G0.hb G0.mg G0.mb (fun _ => none) 21 20 16 (kFn K 21).doc (kFn K 21).pyModule (.ref 20) (kFn K 21).closureTuple (kFn K 21).annotations := by
    refine ⟨hn _ _ T.g (by decide) (by decide) (by decide), ?_, ⟨_, _, ns_of KX T.g (hK ▸ kname w.params)⟩, non _ (by decide), hn _ _ T.b (by decide) (by decide) (by decide), bui ("object", _) (by decide), bui ("__build_class__", _) (by decide), nsS, rfl, rfl, (let ⟨o, e⟩ := sy; ⟨o, hb1 _ _ e (by decide) (by decide) (by decide)⟩), cd20', ?_, ?_⟩
    · obtain ⟨bm, ob, b1, b2, b3, b4, b5, b6⟩ := T.bmain
      refine ⟨bm, ob, b1, b2, ?_, hb1 _ _ b3 ?_ ?_ ?_, b4, b5, b6⟩
      · rintro rfl
        obtain ⟨o, es, ep, e, d, _⟩ := T.g
        rw [b3] at e; cases e; rw [b6] at d; cases d
      · rintro rfl; rw [t16] at b3; cases b3; cases b4
      · rintro rfl; rw [t56] at b3; cases b3; cases b4
      · rintro rfl; rw [t87] at b3; cases b3; cases b4
    · obtain ⟨_, c, oc, cvs, t, e1, e2, e3, e4⟩ := f21
      cases e1
      exact ⟨20, oc, cvs, t, rfl, e2, e3, e4⟩
    · exact f21.1
  have hlist : ∃ ln, s₁.heap.get? l = some { cls := .type "list", data := .seq vs.toArray ln } := by
    obtain ⟨o, e1, e2, n, e3⟩ := hL
    have hW : Well w.params s₁.heap (.ref l) (.list _) := hW
    cases hW with
    | list q1 _ =>
      rw [e1] at q1
      cases q1
      cases e3
      exact ⟨_, e1⟩
  obtain ⟨ln, hl⟩ := hlist
  have Am0 : Am G0 (fun _ => none) [(87, tqL (kFn K 90).qualname), (56, tqS (kFn K 59).qualname), (16, TabP none)] hb.get? s₁ := by
    refine ⟨⟨hn _ _ T.g (by decide) (by decide) (by decide), hn _ _ T.b (by decide) (by decide) (by decide), ⟨_, nsS, rfl⟩⟩, fun _ _ e => e, hb0, (fun _ _ e => nomatch e), (fun _ _ e => nomatch e), fun p hp => ?_, (show ([87, 56, 16] : List Addr).Nodup by decide), rfl, rfl, rfl⟩
    simp only [List.mem_cons, List.not_mem_nil, or_false] at hp
    rcases hp with rfl | rfl | rfl
    · exact ⟨⟨_, hb.get?, Fle.refl _, t87, #[], rfl, trivial, fun pos v e => (by cases e)⟩, h87, rfl⟩
    · exact ⟨⟨_, hb.get?, Fle.refl _, t56, #[], rfl, trivial, fun pos v e => (by cases e)⟩, h56, rfl⟩
    · exact ⟨⟨_, hb.get?, Fle.refl _, t16, #[], rfl, trivial, rfl⟩, h16, rfl⟩
  have nl : ∀ {P : Addr}, s₁.heap.get? P = some (tabObj #[]) → l ≠ P := fun h q => by rw [← q, hl] at h; cases h
  have rl : Rep hb.get? (.ref l) (.list (zs scr)) := .list (hb1 _ _ hl (nl t16) (nl t56) (nl t87)) ⟨by rw [hI.length]; lia, _, rfl⟩ (IntsAre.repL hI)
  refine law1_run (G := G0) (A := callerA) (f := 90) Y0 B0 OK hlen hg f90 H0 (g0 _ _ (by decide)) cd89' rfl ⟨rfl, by decide, by decide⟩ Am0 rl fun F' s' mu gl fd KP AM gF => ?_
  have m16 : ∃ o, s'.heap.get? 16 = some o ∧ ∃ more, o = tabObj more := by
    obtain ⟨c, P, hm⟩ := KP.p
    obtain ⟨o, F0, _, q, ps, e, _⟩ := (AM.mus (16, _) hm).1
    exact ⟨o, q, ps, e⟩
  have m56 : ∃ o, s'.heap.get? 56 = some o ∧ ∃ more, o = tabObj more := by
    obtain ⟨o, F0, _, q, ps, e, _⟩ := (AM.mus (56, _) KP.s).1
    exact ⟨o, q, ps, e⟩
  have m87 : ∃ o, s'.heap.get? 87 = some o ∧ ∃ more, o = tabObj more := by
    obtain ⟨o, F0, _, q, ⟨ps, e⟩, _⟩ := (AM.mus (87, _) KP.l).1
    exact ⟨o, q, ps, e⟩
  refine ⟨.inl ⟨_, _, [], rfl, fun _ => rfl, ReadsW.bool true, ?_, fun _ => ⟨List.nodup_nil, nofun⟩⟩, ⟨fun b o e => ?_, fun b o e => ?_⟩, AM.os, ?_⟩
  · wrow_post
  · by_cases n1 : b = 16
    · subst n1
      rw [t16] at e; cases e
      obtain ⟨o', q1, more, rfl⟩ := m16
      exact .inr (.inl ⟨tb16.isCodeTable, rfl, #[], more, rfl, by rw [q1]; simp⟩)
    · by_cases n2 : b = 56
      · subst n2
        rw [t56] at e; cases e
        obtain ⟨o', q1, more, rfl⟩ := m56
        exact .inr (.inl ⟨tb56.isCodeTable, rfl, #[], more, rfl, by rw [q1]; simp⟩)
      · by_cases n3 : b = 87
        · subst n3
          rw [t87] at e; cases e
          obtain ⟨o', q1, more, rfl⟩ := m87
          exact .inr (.inl ⟨tb87.isCodeTable, rfl, #[], more, rfl, by rw [q1]; simp⟩)
        · exact .inl (AM.frz _ _ (AM.base _ _ (hb1 _ _ e n1 n2 n3)))
  · by_cases n1 : b = 16
    · subst n1
      obtain ⟨o', q1, _⟩ := m16
      exact ⟨o', q1⟩
    · by_cases n2 : b = 56
      · subst n2
        obtain ⟨o', q1, _⟩ := m56
        exact ⟨o', q1⟩
      · by_cases n3 : b = 87
        · subst n3
          obtain ⟨o', q1, _⟩ := m87
          exact ⟨o', q1⟩
        · exact ⟨o, AM.frz _ _ (AM.base _ _ (hb1 _ _ e n1 n2 n3))⟩
  · have q : s'.gens = #[] := AM.gens.trans hg
    intro y hy
    rw [q] at hy
    simp at hy
end Mine
end

section
namespace Mine
noncomputable def inP (p : Int × Int) (x : Int) : Bool := x == p.1 || x == p.2
noncomputable def SameP (T : Tie) (w v : Wd) : Prop := ∀ a b, Let a → Let b → tie T a b = true → w.filter (inP (a, b)) = v.filter (inP (a, b))
theorem SameP.refl (T : Tie) (w : Wd) : SameP T w w := fun _ _ _ _ _ => rfl
theorem SameP.symm {T : Tie} {w v : Wd} (h : SameP T w v) : SameP T v w := fun a b ha hb ht => (h a b ha hb ht).symm
theorem SameP.trans {T : Tie} {w v u : Wd} (h : SameP T w v) (h' : SameP T v u) : SameP T w u := fun a b ha hb ht => (h a b ha hb ht).trans (h' a b ha hb ht)
theorem inP_tie {T : Tie} (hT : TieOk T) {a b x y : Int} (ha : Let a) (hb : Let b) (ht : tie T a b = true) (hx : inP (a, b) x = true) (hy : inP (a, b) y = true) : tie T x y = true := by
  simp only [inP, Bool.or_eq_true, beq_iff_eq] at hx hy
  rcases hx with rfl | rfl <;> rcases hy with rfl | rfl
  · exact hT.self _ ha
  · exact ht
  · rw [hT.sym _ _ hb ha]; exact ht
  · exact hT.self _ hb
theorem SameP.move {T : Tie} (hT : TieOk T) {a : Int} {l1 l2 v : Wd} (h : ∀ d ∈ l2, tie T a d = false) : SameP T (l1 ++ a :: (l2 ++ v)) (l1 ++ (l2 ++ a :: v)) := by
  intro p q hp hq ht
  simp only [List.filter_append, List.filter_cons]
  congr 1
  by_cases ha : inP (p, q) a = true
  · have h2 : l2.filter (inP (p, q)) = [] := by
      rw [List.filter_eq_nil_iff]
      intro d hd hy
      have := inP_tie hT hp hq ht ha hy
      rw [h d hd] at this
      cases this
    rw [h2, if_pos ha, if_pos ha]; rfl
  · rw [if_neg ha, if_neg ha]
theorem layW_split (T : Tie) : ∀ (l : Wd) (a : Int), ∃ l1 l2, l = l1 ++ l2 ∧ layW T l a = l1 ++ a :: l2 ∧ ∀ d ∈ l2, tie T a d = false
  | [], a => ⟨[], [], rfl, rfl, fun _ h => by cases h⟩
  | b :: w, a => by
    unfold layW
    by_cases hc : ((b :: w).any (tie T a) || decide (b < a)) = true
    · obtain ⟨l1, l2, h1, h2, h3⟩ := layW_split T w a
      refine ⟨b :: l1, l2, by rw [h1]; rfl, ?_, h3⟩
      rw [if_pos hc, h2]; rfl
    · refine ⟨[], b :: w, rfl, by rw [if_neg hc]; rfl, fun d hd => ?_⟩
      have h1 : (b :: w).any (tie T a) = false := by
        cases hx : (b :: w).any (tie T a)
        · rfl
        · rw [hx] at hc; simp at hc
      rw [List.any_eq_false] at h1
      simpa using h1 d hd
theorem layW_same {T : Tie} (hT : TieOk T) (l : Wd) (a : Int) (v : Wd) : SameP T (layW T l a ++ v) (l ++ a :: v) := by
  obtain ⟨l1, l2, h1, h2, h3⟩ := layW_split T l a
  rw [h2, h1]
  have := SameP.move hT (l1 := l1) (v := v) h3
  simpa using this
theorem foldLay_same {T : Tie} (hT : TieOk T) : ∀ (w l : Wd), SameP T (w.foldl (layW T) l) (l ++ w)
  | [], l => by rw [List.append_nil]; exact SameP.refl T l
  | a :: w, l => by
    rw [List.foldl_cons]
    exact (foldLay_same hT w _).trans (layW_same hT l a w)
theorem leastW_same {T : Tie} (hT : TieOk T) (w : Wd) : SameP T (leastW T w) w := foldLay_same hT w []
theorem getD_set {s : List Int} (h : s.length = 4) {a : Int} (ha : Let a) (v : Int) {b : Int} (hb : Let b) : (s.set a.toNat v).getD b.toNat 0 = if b = a then v else s.getD b.toNat 0 := by
  have h1 : a.toNat < s.length := by obtain ⟨h1, h2⟩ := ha; lia
  simp only [List.getD_eq_getElem?_getD, List.getElem?_set]
  by_cases e : b = a
  · subst e; simp [h1]
  · have : a.toNat ≠ b.toNat := by obtain ⟨h1, h2⟩ := ha; obtain ⟨h3, h4⟩ := hb; lia
    simp [this, e]
theorem num_mod {a k : Int} (ha : Let a) : (a + 4 * k).fmod 4 = a := by
  obtain ⟨h1, h2⟩ := ha
  rw [Int.fmod_eq_emod_of_nonneg _ (by decide)]; lia
theorem numGo_map : ∀ (w : Wd) (s : List Int), WdOk w → (numGo s w).map (fun x => x.fmod 4) = w
  | [], _, _ => rfl
  | a :: w, s, h => by
    rw [numGo, List.map_cons, num_mod (h a (.head _)), numGo_map w _ fun b hb => h b (.tail _ hb)]
theorem numW_map {w : Wd} (h : WdOk w) : (numW w).map (fun x => x.fmod 4) = w := numGo_map w _ h
theorem numGo_filter (p : Int → Bool) : ∀ (w : Wd) (s s' : List Int), WdOk w → s.length = 4 → s'.length = 4 → (∀ b, Let b → p b = true → s.getD b.toNat 0 = s'.getD b.toNat 0) → (numGo s w).filter (fun x => p (x.fmod 4)) = numGo s' (w.filter p)
  | [], _, _, _, _, _, _ => rfl
  | a :: w, s, s', h, h1, h2, h3 => by
    have ha := h a (.head _)
    have hw : WdOk w := fun b hb => h b (.tail _ hb)
    simp only [numGo, List.filter_cons, num_mod ha]
    by_cases hp : p a = true
    · simp only [hp, if_true, numGo]
      rw [h3 a ha hp]
      congr 1
      refine numGo_filter p w _ _ hw (by rw [List.length_set, h1]) (by rw [List.length_set, h2]) fun b hb hpb => ?_
      rw [getD_set h1 ha _ hb, getD_set h2 ha _ hb, h3 b hb hpb]
    · simp only [hp, if_false, Bool.false_eq_true]
      refine numGo_filter p w _ _ hw (by rw [List.length_set, h1]) h2 fun b hb hpb => ?_
      rw [getD_set h1 ha _ hb, if_neg (by rintro rfl; exact hp hpb), h3 b hb hpb]
theorem numW_filter (p : Int → Bool) {w : Wd} (h : WdOk w) : (numW w).filter (fun x => p (x.fmod 4)) = numW (w.filter p) := numGo_filter p w _ _ h rfl rfl fun _ _ _ => rfl
theorem numGo_ge : ∀ (w : Wd) (s : List Int), WdOk w → s.length = 4 → ∀ x ∈ numGo s w, x.fmod 4 + 4 * s.getD (x.fmod 4).toNat 0 ≤ x
  | [], _, _, _, _, hx => by cases hx
  | a :: w, s, h, h1, x, hx => by
    have ha := h a (.head _)
    rw [numGo] at hx
    rcases List.mem_cons.mp hx with rfl | hx
    · rw [num_mod ha]; exact Int.le_refl _
    · have := numGo_ge w _ (fun b hb => h b (.tail _ hb)) (by rw [List.length_set, h1]) x hx
      rw [getD_set h1 ha _ (let_mod x)] at this
      split at this
      · rename_i e; rw [e] at this ⊢; lia
      · exact this
theorem numGo_nodup : ∀ (w : Wd) (s : List Int), WdOk w → s.length = 4 → (numGo s w).Nodup
  | [], _, _, _ => List.nodup_nil
  | a :: w, s, h, h1 => by
    have ha := h a (.head _)
    have hw : WdOk w := fun b hb => h b (.tail _ hb)
    rw [numGo, List.nodup_cons]
    refine ⟨fun hx => ?_, numGo_nodup w _ hw (by rw [List.length_set, h1])⟩
    have := numGo_ge w _ hw (by rw [List.length_set, h1]) _ hx
    rw [num_mod ha, getD_set h1 ha _ ha, if_pos rfl] at this
    lia
theorem numW_nodup {w : Wd} (h : WdOk w) : (numW w).Nodup := numGo_nodup w _ h rfl
noncomputable def specs (T : Tie) : List (Int × Int) := [(0, 0), (1, 1), (2, 2), (3, 3)] ++ pairsI.filter fun p => tie T p.1 p.2
theorem rowsT_specs (T : Tie) (t : List Int) : rowsT T t = (specs T).map fun p => t.filter fun x => inP p (x.fmod 4) := by
  have : ∀ a, ownR t a = t.filter fun x => inP (a, a) (x.fmod 4) := fun a => by simp [ownR, inP]
  unfold rowsT specs
  rw [List.map_append]
  congr 1
  simp only [List.map_cons, List.map_nil, this]
theorem specs_ok {T : Tie} (hT : TieOk T) {p : Int × Int} (h : p ∈ specs T) : Let p.1 ∧ Let p.2 ∧ tie T p.1 p.2 = true := by
  rcases List.mem_append.mp h with h | h
  · have hl : Let p.1 ∧ p.2 = p.1 := by
      simp only [List.mem_cons, List.not_mem_nil, or_false] at h
      rcases h with rfl | rfl | rfl | rfl <;> exact ⟨⟨by decide, by decide⟩, rfl⟩
    refine ⟨hl.1, hl.2 ▸ hl.1, ?_⟩
    rw [hl.2]; exact hT.self _ hl.1
  · obtain ⟨h1, h2⟩ := List.mem_filter.mp h
    refine ⟨?_, ?_, h2⟩ <;>
      (simp only [pairsI, List.mem_cons, List.not_mem_nil, or_false] at h1
       rcases h1 with rfl | rfl | rfl | rfl | rfl | rfl <;> exact ⟨by decide, by decide⟩)
theorem specs_has {T : Tie} (hT : TieOk T) {a b : Int} (ha : Let a) (hb : Let b) (ht : tie T a b = true) : ∃ p ∈ specs T, inP p = inP (a, b) := by
  have key : ∀ a b, Let a → Let b → tie T a b = true → a ≤ b → (a, b) ∈ specs T := fun a b ha hb ht hl => by
    rcases let_cases ha with rfl | rfl | rfl | rfl <;> rcases let_cases hb with rfl | rfl | rfl | rfl <;> first | exact absurd hl (by decide) | exact List.mem_append_left _ (by decide) | exact List.mem_append_right _ (List.mem_filter.mpr ⟨by decide, ht⟩)
  by_cases hl : a ≤ b
  · exact ⟨_, key a b ha hb ht hl, rfl⟩
  · refine ⟨_, key b a hb ha (by rw [hT.sym b a hb ha]; exact ht) (by lia), ?_⟩
    funext x
    simp only [inP, Bool.or_comm]
theorem rowsT_inj {T : Tie} (hT : TieOk T) {t u : List Int} (h : rowsT T t = rowsT T u) : SameP T (t.map fun x => x.fmod 4) (u.map fun x => x.fmod 4) := by
  intro a b ha hb ht
  obtain ⟨p, hp, e⟩ := specs_has hT ha hb ht
  rw [rowsT_specs, rowsT_specs, List.map_inj_left] at h
  have := congrArg (List.map fun x => x.fmod 4) (h p hp)
  rw [List.filter_map, List.filter_map, ← e]
  exact this
theorem rowsW_same {T : Tie} (hT : TieOk T) {w v : Wd} (hw : WdOk w) (hv : WdOk v) : rowsW T w = rowsW T v ↔ SameP T w v := by
  constructor
  · intro h
    have := rowsT_inj hT h
    rwa [numW_map hw, numW_map hv] at this
  · intro h
    unfold rowsW
    rw [rowsT_specs, rowsT_specs, List.map_inj_left]
    intro p hp
    obtain ⟨h1, h2, h3⟩ := specs_ok hT hp
    rw [numW_filter _ hw, numW_filter _ hv, h p.1 p.2 h1 h2 h3]
end Mine
end

section
namespace Mine
theorem strike_split {T : Tie} {a : Int} : ∀ {l r : Wd}, strike T a l = some r → ∃ u v, l = u ++ a :: v ∧ r = u ++ v ∧ ∀ d ∈ u, tie T a d = false
  | [], _, h => by simp [strike] at h
  | b :: l, r, h => by
    unfold strike at h
    by_cases hb : tie T a b = true
    · rw [if_pos hb] at h
      by_cases e : b = a
      · rw [if_pos e] at h
        cases h
        exact ⟨[], l, by rw [e]; rfl, rfl, fun _ hd => by cases hd⟩
      · rw [if_neg e] at h; cases h
    · rw [if_neg hb] at h
      cases hs : strike T a l with
      | none => rw [hs] at h; cases h
      | some r' =>
        rw [hs] at h
        cases h
        obtain ⟨u, v, h1, h2, h3⟩ := strike_split hs
        refine ⟨b :: u, v, by rw [h1]; rfl, by rw [h2]; rfl, fun d hd => ?_⟩
        rcases List.mem_cons.mp hd with rfl | hd
        · simpa using hb
        · exact h3 d hd
theorem strike_mk {T : Tie} {a : Int} (ht : tie T a a = true) : ∀ {u v : Wd}, (∀ d ∈ u, tie T a d = false) → strike T a (u ++ a :: v) = some (u ++ v)
  | [], v, _ => by simp [strike, ht]
  | b :: u, v, h => by
    rw [List.cons_append, strike, if_neg (by rw [h b (.head _)]; decide), strike_mk ht fun d hd => h d (.tail _ hd)]; rfl
noncomputable def Nf (T : Tie) : Wd → Prop
  | [] => True
  | a :: l => (∀ b, Let b → (strike T b (a :: l)).isSome = true → a ≤ b) ∧ Nf T l
theorem strike_cons {T : Tie} {c d : Int} {w : Wd} (h : (strike T c (d :: w)).isSome = true) : (tie T c d = true ∧ c = d) ∨ (tie T c d = false ∧ (strike T c w).isSome = true) := by
  unfold strike at h
  by_cases hb : tie T c d = true
  · rw [if_pos hb] at h
    by_cases e : d = c
    · exact .inl ⟨hb, e.symm⟩
    · rw [if_neg e] at h; cases h
  · rw [if_neg hb, Option.isSome_map] at h
    exact .inr ⟨by simpa using hb, h⟩
theorem strike_cons' {T : Tie} {c d : Int} {w : Wd} (hb : tie T c d = false) (h : (strike T c w).isSome = true) : (strike T c (d :: w)).isSome = true := by
  unfold strike
  rw [if_neg (by rw [hb]; decide), Option.isSome_map]
  exact h
theorem strike_hd {T : Tie} {c : Int} {w : Wd} (hb : tie T c c = true) : (strike T c (c :: w)).isSome = true := by
  unfold strike
  rw [if_pos hb, if_pos rfl]; rfl
theorem layW_strike {T : Tie} (hT : TieOk T) {a c : Int} : ∀ {w : Wd}, WdOk w → (strike T c (layW T w a)).isSome = true → (strike T c w).isSome = true ∨ (c = a ∧ ∀ d ∈ w, tie T c d = false)
  | [], _, h => by
    rcases strike_cons h with ⟨_, h⟩ | ⟨_, h⟩
    · exact .inr ⟨h, fun _ hd => by cases hd⟩
    · simp [strike] at h
  | d :: w, hw, h => by
    have hw' : WdOk w := fun b hb => hw b (.tail _ hb)
    unfold layW at h
    by_cases hc : ((d :: w).any (tie T a) || decide (d < a)) = true
    · rw [if_pos hc] at h
      rcases strike_cons h with ⟨h1, h2⟩ | ⟨h1, h2⟩
      · subst h2; exact .inl (strike_hd h1)
      · rcases layW_strike hT hw' h2 with h3 | ⟨h3, h4⟩
        · exact .inl (strike_cons' h1 h3)
        · refine .inr ⟨h3, fun e he => ?_⟩
          rcases List.mem_cons.mp he with rfl | he
          · exact h1
          · exact h4 e he
    · rw [if_neg hc] at h
      rcases strike_cons h with ⟨h1, h2⟩ | ⟨h1, h2⟩
      · subst h2
        refine .inr ⟨rfl, fun e he => ?_⟩
        cases ht : tie T c e
        · rfl
        · exact absurd (by rw [List.any_eq_true.mpr ⟨e, he, ht⟩]; rfl) hc
      · exact .inl h2
theorem layW_nf {T : Tie} (hT : TieOk T) {a : Int} (ha : Let a) : ∀ {w : Wd}, WdOk w → Nf T w → Nf T (layW T w a)
  | [], _, _ => by
    refine ⟨fun b _ h => ?_, trivial⟩
    rcases strike_cons h with ⟨_, h⟩ | ⟨_, h⟩
    · rw [h]; exact Int.le_refl _
    · simp [strike] at h
  | d :: w, hw, hn => by
    have hw' : WdOk w := fun b hb => hw b (.tail _ hb)
    unfold layW
    by_cases hc : ((d :: w).any (tie T a) || decide (d < a)) = true
    · rw [if_pos hc]
      refine ⟨fun c hl h => ?_, layW_nf hT ha hw' hn.2⟩
      rcases strike_cons h with ⟨_, h2⟩ | ⟨h1, h2⟩
      · rw [h2]; exact Int.le_refl _
      · rcases layW_strike hT hw' h2 with h3 | ⟨h3, h4⟩
        · exact hn.1 c hl (strike_cons' h1 h3)
        · subst h3
          have : (d :: w).any (tie T c) = false := by
            rw [List.any_eq_false]
            intro e he
            rcases List.mem_cons.mp he with rfl | he
            · rw [h1]; decide
            · rw [h4 e he]; decide
          rw [this, Bool.false_or] at hc
          exact Int.le_of_lt (by simpa using hc)
    · rw [if_neg hc]
      refine ⟨fun c hl h => ?_, hn⟩
      rcases strike_cons h with ⟨_, h2⟩ | ⟨_, h2⟩
      · rw [h2]; exact Int.le_refl _
      · have h3 := hn.1 c hl h2
        have h4 : ¬ d < a := fun h => hc (by rw [Bool.or_eq_true]; exact .inr (by simpa using h))
        lia
theorem foldLay_nf {T : Tie} (hT : TieOk T) : ∀ (w l : Wd), WdOk w → WdOk l → Nf T l → Nf T (w.foldl (layW T) l)
  | [], _, _, _, h => h
  | a :: w, l, hw, hl, h => by
    rw [List.foldl_cons]
    have ha := hw a (.head _)
    refine foldLay_nf hT w _ (fun b hb => hw b (.tail _ hb)) ?_ (layW_nf hT ha hl h)
    exact WdOk.perm (w := a :: l) (fun b hb => by
      rcases List.mem_cons.mp hb with rfl | hb
      · exact ha
      · exact hl b hb) (layW_perm T l a)
theorem leastW_nf {T : Tie} (hT : TieOk T) {w : Wd} (hw : WdOk w) : Nf T (leastW T w) := foldLay_nf hT w [] hw (fun _ h => by cases h) trivial
theorem strip1_filter {p : Int → Bool} {x : Int} {t : List Int} (h : x ∉ t) : strip1 x ((x :: t).filter p) = t.filter p := by
  unfold strip1
  rw [List.filter_cons]
  by_cases hp : p x = true
  · rw [if_pos hp]; simp
  · rw [if_neg hp, if_neg]
    intro he
    exact h ((List.mem_filter.mp (List.mem_of_head? he)).1)
theorem row_mem {T : Tie} (hT : TieOk T) (t : List Int) {c d : Int} (hc : Let c) (hd : Let d) (ht : tie T c d = true) : (t.filter fun x => inP (c, d) (x.fmod 4)) ∈ rowsT T t := by
  obtain ⟨p, hp, e⟩ := specs_has hT hc hd ht
  rw [rowsT_specs, ← e]
  exact List.mem_map.mpr ⟨p, hp, rfl⟩
theorem free_hd {T : Tie} {x : Int} {t : List Int} (h : x ∉ t) : free (rowsT T (x :: t)) x = true := by
  unfold free
  rw [List.all_eq_true]
  intro r hr
  rw [rowsT_specs] at hr
  obtain ⟨p, _, rfl⟩ := List.mem_map.mp hr
  have : x ∉ ((x :: t).filter fun y => inP p (y.fmod 4)).tail := by
    intro hx
    rw [List.filter_cons] at hx
    split at hx
    · exact h (List.mem_filter.mp hx).1
    · exact h (List.mem_filter.mp (List.mem_of_mem_tail hx)).1
  simpa using this
theorem free_strike {T : Tie} (hT : TieOk T) {t : List Int} {c y : Int} (hc : Let c) (hy : (ownR t c).head? = some y) (hf : free (rowsT T t) y = true) : (strike T c (t.map fun x => x.fmod 4)).isSome = true := by
  unfold ownR at hy
  rw [List.head?_filter, List.find?_eq_some_iff_append] at hy
  obtain ⟨hy, t1, t2, rfl, h1⟩ := hy
  have hy : y.fmod 4 = c := by simpa using hy
  rw [List.map_append, List.map_cons, hy, strike_mk (hT.self c hc)]
  · rfl
  · intro d hd
    obtain ⟨z, hz, rfl⟩ := List.mem_map.mp hd
    cases ht : tie T c (z.fmod 4)
    · rfl
    · exfalso
      unfold free at hf
      rw [List.all_eq_true] at hf
      have := hf _ (row_mem hT (t1 ++ y :: t2) hc (let_mod z) ht)
      have h2 : y ∉ ((t1 ++ y :: t2).filter fun x => inP (c, z.fmod 4) (x.fmod 4)).tail := by simpa using this
      apply h2
      rw [List.filter_append, List.filter_cons, if_pos (by simp [inP, hy])]
      cases hu : t1.filter fun x => inP (c, z.fmod 4) (x.fmod 4) with
      | nil =>
        have : z ∈ t1.filter fun x => inP (c, z.fmod 4) (x.fmod 4) := List.mem_filter.mpr ⟨hz, by simp [inP]⟩
        rw [hu] at this; cases this
      | cons e u => simp
theorem pick_hd {T : Tie} (hT : TieOk T) {x : Int} {t : List Int} (h : x ∉ t) (hn : Nf T ((x :: t).map fun y => y.fmod 4)) : pick (rowsT T (x :: t)) = some x := by
  have hx : (ownR (x :: t) (x.fmod 4)).head? = some x := by simp [ownR]
  have hf := free_hd (T := T) h
  have hlt : ∀ c, Let c → c < x.fmod 4 → (ownR (x :: t) c).head?.any (free (rowsT T (x :: t))) = false := fun c hc hl => by
    cases hy : (ownR (x :: t) c).head? with
    | none => rfl
    | some y =>
      cases hfy : free (rowsT T (x :: t)) y
      · simpa using hfy
      · have := hn.1 c hc (free_strike hT hc hy hfy)
        lia
  unfold pick
  generalize free (rowsT T (x :: t)) = f at hf hlt
  unfold rowsT
  rw [List.filterMap_append, List.find?_append]
  have key : ∀ g : Int → Option Int, g (x.fmod 4) = some x → (∀ c, Let c → c < x.fmod 4 → (g c).any f = false) → (([0, 1, 2, 3] : List Int).filterMap g).find? f = some x := by
    intro g h1 h2
    rw [List.find?_filterMap]
    have h3 : (g (x.fmod 4)).any f = true := by rw [h1]; exact hf
    have l0 : Let 0 := ⟨by decide, by decide⟩
    have l1 : Let 1 := ⟨by decide, by decide⟩
    have l2 : Let 2 := ⟨by decide, by decide⟩
    rcases let_cases (let_mod x) with e | e | e | e <;> rw [e] at h1 h2 h3
    · simp [List.find?_cons, h3, h1, hf]
    · simp [List.find?_cons, h2 0 l0 (by decide), h3, h1, hf]
    · simp [List.find?_cons, h2 0 l0 (by decide), h2 1 l1 (by decide), h3, h1, hf]
    · simp [List.find?_cons, h2 0 l0 (by decide), h2 1 l1 (by decide), h2 2 l2 (by decide), h3, h1, hf]
  have hk := key _ hx hlt
  rw [List.filterMap_map]
  have : (([0, 1, 2, 3] : List Int).filterMap (List.head? ∘ ownR (x :: t))).find? f = some x := hk
  rw [this]; rfl
theorem mrg_nf {T : Tie} (hT : TieOk T) : ∀ {t : List Int}, t.Nodup → Nf T (t.map fun x => x.fmod 4) → mrg (rowsT T t) = (t, (rowsT T t).map fun _ => [])
  | [], _, _ => by
    have hp : pick (rowsT T []) = none := by
      rw [rowsT_specs]
      unfold pick
      have : ∀ l : List (Int × Int), (l.map fun p => ([] : List Int).filter fun x => inP p (x.fmod 4)).filterMap List.head? = [] := fun l => by induction l <;> simp_all
      rw [this]; rfl
    rw [mrg_none hp, rowsT_specs, List.map_map]
    rfl
  | x :: t, hd, hn => by
    rw [List.nodup_cons] at hd
    have hs : strip x (rowsT T (x :: t)) = rowsT T t := by
      unfold strip
      rw [rowsT_specs, rowsT_specs, List.map_map]
      apply List.map_congr_left
      intro p _
      exact strip1_filter hd.1
    rw [mrg_some (pick_hd hT hd.1 hn), hs, mrg_nf hT hd.2 hn.2, rowsT_specs, rowsT_specs, List.map_map, List.map_map]
    rfl
theorem mrg_rows {T : Tie} (hT : TieOk T) {w : Wd} (hw : WdOk w) : mrg (rowsW T w) = (numW (leastW T w), (rowsW T w).map fun _ => []) := by
  have hl := leastW_ok (T := T) hw
  rw [← (rowsW_same hT hl hw).mpr (leastW_same hT w)]
  refine mrg_nf hT (numW_nodup hl) ?_
  rw [numW_map hl]
  exact leastW_nf hT hw
theorem same_least {T : Tie} (hT : TieOk T) {w v : Wd} (hw : WdOk w) (hv : WdOk v) : leastW T w = leastW T v ↔ SameP T w v := by
  constructor
  · intro h
    have h1 := (leastW_same hT w).symm
    rw [h] at h1
    exact h1.trans (leastW_same hT v)
  · intro h
    have h1 := congrArg (fun m => (mrg m).1.map fun x => x.fmod 4) ((rowsW_same hT hw hv).mpr h)
    simp only [mrg_rows hT hw, mrg_rows hT hv, numW_map (leastW_ok hw), numW_map (leastW_ok hv)] at h1
    exact h1
end Mine
end

section
namespace Mine
theorem same_cons {T : Tie} {a : Int} {w v : Wd} : SameP T (a :: w) (a :: v) ↔ SameP T w v := by
  constructor
  · intro h p q hp hq ht
    have := h p q hp hq ht
    simp only [List.filter_cons] at this
    split at this
    · exact (List.cons.inj this).2
    · exact this
  · intro h p q hp hq ht
    simp only [List.filter_cons, h p q hp hq ht]
theorem alike_same {T : Tie} (hT : TieOk T) : ∀ {w o : Wd}, WdOk w → WdOk o → (alikeW T w o = true ↔ SameP T w o)
  | [], o, _, ho => by
    rw [alikeW, List.isEmpty_iff]
    constructor
    · rintro rfl; exact SameP.refl T _
    · intro h
      cases o with
      | nil => rfl
      | cons b o =>
        have hb := ho b (.head _)
        have := h b b hb hb (hT.self b hb)
        simp [inP] at this
  | a :: w, o, hw, ho => by
    have ha := hw a (.head _)
    have hw' : WdOk w := fun b hb => hw b (.tail _ hb)
    unfold alikeW
    cases hs : strike T a o with
    | some r =>
      obtain ⟨u, v, h1, h2, h3⟩ := strike_split hs
      have ho' : WdOk r := fun b hb => ho b (by rw [h1]; rw [h2] at hb; simp only [List.mem_append, List.mem_cons] at hb ⊢; rcases hb with h | h <;> simp [h])
      have hm : SameP T (a :: r) o := by
        have := SameP.move hT (l1 := []) (v := v) h3
        rw [h1, h2]
        simpa using this
      show alikeW T w r = true ↔ _
      rw [alike_same hT hw' ho', ← same_cons (a := a)]
      exact ⟨fun h => h.trans hm, fun h => h.trans hm.symm⟩
    | none =>
      show false = true ↔ _
      refine ⟨fun h => (nomatch h), fun h => ?_⟩
      exfalso
      have h1 := h a a ha ha (hT.self a ha)
      rw [List.filter_cons, if_pos (by simp [inP])] at h1
      have hm : a ∈ o := by
        have h2 : a ∈ o.filter (inP (a, a)) := by rw [← h1]; exact .head _
        exact (List.mem_filter.mp h2).1
      obtain ⟨u, v, rfl, hu⟩ := List.eq_append_cons_of_mem hm
      rw [strike_mk (hT.self a ha)] at hs
      · cases hs
      · intro d hd
        cases ht : tie T a d
        · rfl
        · exfalso
          have hl := ho d (List.mem_append_left _ hd)
          have h3 := h a d ha hl ht
          rw [List.filter_cons, if_pos (by simp [inP]), List.filter_append] at h3
          cases hf : u.filter (inP (a, d)) with
          | nil =>
            have : d ∈ u.filter (inP (a, d)) := List.mem_filter.mpr ⟨hd, by simp [inP]⟩
            rw [hf] at this; cases this
          | cons e x =>
            rw [hf] at h3
            have he : e = a := (List.cons.inj h3).1.symm
            have : e ∈ u.filter (inP (a, d)) := by rw [hf]; exact .head _
            rw [he] at this
            exact hu (List.mem_filter.mp this).1
noncomputable def stp (T : Tie) (z : List (Int × Int)) (a : Int) : Int := z.foldl (fun s p => if tie T a p.2 && decide (s ≤ p.1) then p.1 + 1 else s) 0
noncomputable def pzF (T : Tie) (z : List (Int × Int)) (w : Wd) : List (Int × Int) := w.foldl (fun z a => z ++ [(stp T z a, a)]) z
theorem stp_eq (T : Tie) (a : Int) : ∀ (st : List Int) (w v : Wd) (i : Int), st.length = w.length → ((w ++ v).zip st).foldl (fun s p => if tie T a p.1 && decide (s ≤ p.2) then p.2 + 1 else s) i = (st.zip w).foldl (fun s p => if tie T a p.2 && decide (s ≤ p.1) then p.1 + 1 else s) i
  | [], [], v, i, _ => by rw [List.nil_append, List.zip_nil_right]; rfl
  | x :: st, b :: w, v, i, h => by
    simp only [List.cons_append, List.zip_cons_cons, List.foldl_cons]
    exact stp_eq T a st w v _ (by simpa using h)
  | [], _ :: _, _, _, h => by simp at h
  | _ :: _, [], _, _, h => by simp at h
theorem zip_pz (T : Tie) : ∀ (w2 w1 : Wd) (st : List Int), st.length = w1.length → (w2.foldl (fun st a => st ++ [stepA T (w1 ++ w2) st a]) st).zip (w1 ++ w2) = pzF T (st.zip w1) w2
  | [], w1, st, _ => by rw [List.append_nil]; rfl
  | a :: w2, w1, st, h => by
    have h1 : stepA T (w1 ++ a :: w2) st a = stp T (st.zip w1) a := stp_eq T a st w1 (a :: w2) 0 h
    have ih := zip_pz T w2 (w1 ++ [a]) (st ++ [stp T (st.zip w1) a]) (by simp [h])
    rw [List.append_assoc, List.zip_append h] at ih
    rw [List.foldl_cons, h1]
    exact ih
theorem steps_pz (T : Tie) (w : Wd) : (stepsW T w).zip w = pzF T [] w := zip_pz T w [] [] rfl
theorem stp_perm {T : Tie} {z z' : List (Int × Int)} (h : z.Perm z') (a : Int) : stp T z a = stp T z' a := by
  refine h.foldl_eq' (fun x _ y _ s => ?_) 0
  have m : ∀ s k : Int, (if s ≤ k then k + 1 else s) = max s (k + 1) := fun s k => by split <;> lia
  simp only [Bool.and_eq_true, decide_eq_true_eq]
  cases tie T a x.2 <;> cases tie T a y.2 <;> simp only [Bool.false_eq_true, false_and, true_and, if_false, m]
  rw [Int.max_assoc, Int.max_comm (x.1 + 1), ← Int.max_assoc]
theorem pzF_perm {T : Tie} : ∀ (w : Wd) {z z' : List (Int × Int)}, z.Perm z' → (pzF T z w).Perm (pzF T z' w)
  | [], _, _, h => h
  | a :: w, z, z', h => by
    unfold pzF
    rw [List.foldl_cons, List.foldl_cons, stp_perm h a]
    exact pzF_perm w (List.Perm.append_right _ h)
theorem stp_skip {T : Tie} {z : List (Int × Int)} {a d k : Int} (h : tie T d a = false) : stp T (z ++ [(k, a)]) d = stp T z d := by
  unfold stp
  rw [List.foldl_append, List.foldl_cons, List.foldl_nil, h]; rfl
theorem pzF_app (T : Tie) (z : List (Int × Int)) (w v : Wd) : pzF T z (w ++ v) = pzF T (pzF T z w) v := List.foldl_append ..
theorem pzF_over {T : Tie} (hT : TieOk T) {a : Int} (ha : Let a) : ∀ (l v : Wd) (z : List (Int × Int)), WdOk l → (∀ d ∈ l, tie T a d = false) → (pzF T z (a :: (l ++ v))).Perm (pzF T z (l ++ a :: v))
  | [], _, _, _, _ => List.Perm.refl _
  | d :: l, v, z, hl, h => by
    have h1 := h d (.head _)
    have h2 : tie T d a = false := by rw [hT.sym d a (hl d (.head _)) ha]; exact h1
    refine List.Perm.trans ?_ (pzF_over hT ha l v _ (fun b hb => hl b (.tail _ hb)) fun b hb => h b (.tail _ hb))
    show (pzF T ((z ++ [(stp T z a, a)]) ++ [(stp T (z ++ [(stp T z a, a)]) d, d)]) (l ++ v)).Perm (pzF T ((z ++ [(stp T z d, d)]) ++ [(stp T (z ++ [(stp T z d, d)]) a, a)]) (l ++ v))
    rw [stp_skip h2, stp_skip h1]
    refine pzF_perm _ ?_
    rw [List.append_assoc, List.append_assoc]
    exact List.Perm.append_left _ (List.Perm.swap ..)
theorem pzF_lay {T : Tie} (hT : TieOk T) : ∀ (w l : Wd), WdOk w → WdOk l → (pzF T [] (w.foldl (layW T) l)).Perm (pzF T [] (l ++ w))
  | [], l, _, _ => by rw [List.append_nil]; exact List.Perm.refl _
  | a :: w, l, hw, hl => by
    have ha := hw a (.head _)
    have hc : WdOk (a :: l) := fun b hb => by
      rcases List.mem_cons.mp hb with rfl | hb
      · exact ha
      · exact hl b hb
    rw [List.foldl_cons]
    refine (pzF_lay hT w _ (fun b hb => hw b (.tail _ hb)) (hc.perm (layW_perm T l a))).trans ?_
    obtain ⟨l1, l2, h1, h2, h3⟩ := layW_split T l a
    rw [h2, h1, List.append_assoc, List.append_assoc, pzF_app T [] l1, pzF_app T [] l1]
    exact pzF_over hT ha l2 w _ (fun b hb => hl b (by rw [h1]; exact List.mem_append_right _ hb)) h3
theorem pz_same {T : Tie} (hT : TieOk T) {w v : Wd} (hw : WdOk w) (hv : WdOk v) (h : SameP T w v) : (pzF T [] w).Perm (pzF T [] v) := by
  have h1 := pzF_lay hT w [] hw fun _ h => by cases h
  have h2 := pzF_lay hT v [] hv fun _ h => by cases h
  rw [show w.foldl (layW T) [] = v.foldl (layW T) [] from (same_least hT hw hv).mpr h] at h1
  exact h1.symm.trans h2
theorem stp_low {T : Tie} {a : Int} : ∀ (z : List (Int × Int)) (i : Int), i ≤ z.foldl (fun s p => if tie T a p.2 && decide (s ≤ p.1) then p.1 + 1 else s) i ∧ ∀ u ∈ z, tie T a u.2 = true → u.1 < z.foldl (fun s p => if tie T a p.2 && decide (s ≤ p.1) then p.1 + 1 else s) i
  | [], _ => ⟨Int.le_refl _, fun _ h => by cases h⟩
  | p :: z, i => by
    rw [List.foldl_cons]
    obtain ⟨h1, h2⟩ := stp_low (T := T) (a := a) z (if tie T a p.2 && decide (i ≤ p.1) then p.1 + 1 else i)
    by_cases hc : (tie T a p.2 && decide (i ≤ p.1)) = true
    · rw [if_pos hc] at h1 h2 ⊢
      have hi : i ≤ p.1 := of_decide_eq_true ((Bool.and_eq_true _ _).mp hc).2
      refine ⟨by lia, fun u hu ht => ?_⟩
      rcases List.mem_cons.mp hu with rfl | hu
      · lia
      · exact h2 u hu ht
    · rw [if_neg hc] at h1 h2 ⊢
      refine ⟨h1, fun u hu ht => ?_⟩
      rcases List.mem_cons.mp hu with rfl | hu
      · rw [ht, Bool.true_and, decide_eq_true_eq] at hc
        lia
      · exact h2 u hu ht
theorem pzF_steps {T : Tie} : ∀ (w : Wd) (z : List (Int × Int)), z.Pairwise (fun u v => tie T v.2 u.2 = true → u.1 < v.1) → (pzF T z w).Pairwise (fun u v => tie T v.2 u.2 = true → u.1 < v.1)
  | [], _, h => h
  | a :: w, z, h => by
    refine pzF_steps w (z ++ [(stp T z a, a)]) ?_
    rw [List.pairwise_append]
    refine ⟨h, List.pairwise_singleton _ _, fun u hu v hv ht => ?_⟩
    rw [List.mem_singleton] at hv
    subst hv
    exact (stp_low z 0).2 u hu ht
theorem pzF_snd (T : Tie) : ∀ (w : Wd) (z : List (Int × Int)), (pzF T z w).map (·.2) = z.map (·.2) ++ w
  | [], z => by rw [List.append_nil]; rfl
  | a :: w, z => by
    have := pzF_snd T w (z ++ [(stp T z a, a)])
    rw [List.map_append, List.append_assoc] at this
    exact this
theorem key_inj {u v : Int × Int} (h1 : Let u.2) (h2 : Let v.2) (h3 : keyP u ≤ keyP v) (h4 : keyP v ≤ keyP u) : u = v := by
  obtain ⟨h5, h6⟩ := h1
  obtain ⟨h7, h8⟩ := h2
  unfold keyP at h3 h4
  exact Prod.ext (by lia) (by lia)
theorem SrtOk.same {T : Tie} (hT : TieOk T) {w s : Wd} (hw : WdOk w) (h : SrtOk T w s) : SameP T s w := by
  obtain ⟨q, h1, h2, rfl⟩ := h
  rw [steps_pz] at h1
  have hl : ∀ u ∈ pzF T [] w, Let u.2 := fun u hu => hw _ (by have := List.mem_map_of_mem (f := (·.2)) hu; rwa [pzF_snd, List.map_nil, List.nil_append] at this)
  intro a b ha hb ht
  have e : q.filter (fun u => inP (a, b) u.2) = (pzF T [] w).filter (fun u => inP (a, b) u.2) := by
    refine List.Perm.eq_of_pairwise (le := fun u v => keyP u ≤ keyP v) (fun u v hu hv h3 h4 => ?_) (h2.filter _) ?_ (h1.filter _)
    · exact key_inj (hl u (h1.mem_iff.mp (List.mem_filter.mp hu).1)) (hl v (List.mem_filter.mp hv).1) h3 h4
    · refine List.Pairwise.imp_of_mem ?_ ((pzF_steps w [] List.Pairwise.nil).filter _)
      intro u v hu hv h3
      have h4 := List.mem_filter.mp hu
      have h5 := List.mem_filter.mp hv
      have h6 := h3 (inP_tie hT ha hb ht h5.2 h4.2)
      obtain ⟨h7, h8⟩ := hl u h4.1
      obtain ⟨h9, h10⟩ := hl v h5.1
      unfold keyP
      lia
  have e2 := congrArg (List.map (·.2)) e
  have hf : ∀ l : List (Int × Int), (l.filter fun u => inP (a, b) u.2).map (·.2) = (l.map (·.2)).filter (inP (a, b)) := fun l => by rw [List.filter_map]; rfl
  rw [hf, hf, pzF_snd] at e2
  exact e2
theorem srt_same {T : Tie} (hT : TieOk T) {w o s s' : Wd} (hw : WdOk w) (ho : WdOk o) (h : SrtOk T w s) (h' : SrtOk T o s') : s = s' ↔ SameP T w o := by
  constructor
  · rintro rfl
    exact (h.same hT hw).symm.trans (h'.same hT ho)
  · intro hs
    obtain ⟨q, h1, h2, rfl⟩ := h
    obtain ⟨q', h3, h4, rfl⟩ := h'
    rw [steps_pz] at h1 h3
    have hl : ∀ {v : Wd}, WdOk v → ∀ u ∈ pzF T [] v, Let u.2 := fun hv u hu => hv _ (by have := List.mem_map_of_mem (f := (·.2)) hu; rwa [pzF_snd, List.map_nil, List.nil_append] at this)
    have : q = q' := List.Perm.eq_of_pairwise (le := fun u v => keyP u ≤ keyP v) (fun u v hu hv h5 h6 => key_inj (hl hw u (h1.mem_iff.mp hu)) (hl ho v (h3.mem_iff.mp hv)) h5 h6) h2 h4 ((h1.trans (pz_same hT hw ho hs)).trans h3.symm)
    rw [this]
end Mine
end

section
namespace Mine
theorem c3_out : ∀ {n : Nat} {rows : List (List Int)} {x : Int}, x ∈ (c3 n rows).1 → ∃ r ∈ rows, x ∈ r
  | 0, _, _, h => by cases h
  | n + 1, rows, x, h => by
    unfold c3 at h
    cases hp : pick rows with
    | none => rw [hp] at h; cases h
    | some c =>
      rw [hp] at h
      rcases List.mem_cons.mp h with rfl | h
      · obtain ⟨r, hr, hx⟩ := List.mem_filterMap.mp (pick_mem hp)
        exact ⟨r, hr, List.mem_of_head? hx⟩
      · obtain ⟨r, hr, hx⟩ := c3_out h
        obtain ⟨r', hr', rfl⟩ := List.mem_map.mp hr
        refine ⟨r', hr', ?_⟩
        unfold strip1 at hx
        split at hx
        · exact List.mem_of_mem_tail hx
        · exact hx
theorem c3_all : ∀ {n : Nat} {rows : List (List Int)}, (∀ r ∈ (c3 n rows).2, r = []) → ∀ r ∈ rows, (c3 n rows).1.filter (fun x => decide (x ∈ r)) = r
  | 0, _, h, r, hr => by rw [h r hr]; rfl
  | n + 1, rows, h, r, hr => by
    unfold c3 at h ⊢
    cases hp : pick rows with
    | none => rw [hp] at h; rw [h r hr]; rfl
    | some c =>
      rw [hp] at h
      have hf := pick_free hp
      unfold free at hf
      rw [List.all_eq_true] at hf
      have hf : ∀ r ∈ rows, c ∉ r.tail := fun r hr => by simpa using hf r hr
      have hc : c ∉ (c3 n (strip c rows)).1 := fun hx => by
        obtain ⟨r, hr, hx⟩ := c3_out hx
        obtain ⟨r', hr', rfl⟩ := List.mem_map.mp hr
        unfold strip1 at hx
        split at hx
        · exact hf r' hr' hx
        · rename_i hn
          cases r' with
          | nil => cases hx
          | cons y r' =>
            rcases List.mem_cons.mp hx with rfl | hx
            · exact hn rfl
            · exact hf _ hr' hx
      have ih := c3_all h (strip1 c r) (List.mem_map_of_mem hr)
      show (c :: (c3 n (strip c rows)).1).filter _ = r
      have ht := hf r hr
      by_cases hh : r.head? = some c
      · obtain ⟨r', rfl⟩ := List.head?_eq_some_iff.mp hh
        unfold strip1 at ih
        rw [if_pos hh] at ih
        rw [List.filter_cons, if_pos (by simp)]
        congr 1
        refine Eq.trans (List.filter_congr fun x hx => ?_) ih
        have : x ≠ c := by rintro rfl; exact hc hx
        exact decide_eq_decide.mpr ⟨fun h => (List.mem_cons.mp h).resolve_left this, List.mem_cons_of_mem _⟩
      · unfold strip1 at ih
        rw [if_neg hh] at ih
        have : c ∉ r := fun hx => by
          cases r with
          | nil => cases hx
          | cons y r =>
            rcases List.mem_cons.mp hx with rfl | hx
            · exact hh rfl
            · exact ht hx
        rw [List.filter_cons, if_neg (by simpa using this)]
        exact ih
theorem c3_rest : ∀ {n : Nat} {rows : List (List Int)}, total rows ≤ n → pick (c3 n rows).2 = none ∧ ∀ (i : Nat) (l w : List Int), (c3 n rows).2[i]? = some l → rows[i]? = some w → l <:+ w
  | n, rows, hn => by
    cases hp : pick rows with
    | none =>
      have e : c3 n rows = ([], rows) := by cases n <;> simp [c3, hp]
      rw [e]
      refine ⟨hp, fun i l w h1 h2 => ?_⟩
      rw [h1] at h2
      cases h2
      exact List.suffix_refl l
    | some c =>
      have hl := strip_lt (pick_mem hp)
      cases n with
      | zero => exact absurd hl (by lia)
      | succ n =>
        obtain ⟨h1, h2⟩ := c3_rest (n := n) (rows := strip c rows) (by lia)
        unfold c3
        rw [hp]
        refine ⟨h1, fun i l w h3 h4 => ?_⟩
        refine (h2 i l (strip1 c w) h3 (by unfold strip; rw [List.getElem?_map, h4]; rfl)).trans ?_
        unfold strip1
        split
        · exact List.tail_suffix w
        · exact List.suffix_refl w
theorem own_inj : ∀ {t u : List Int}, t.map (fun x => x.fmod 4) = u.map (fun x => x.fmod 4) → (∀ a, ownR t a = ownR u a) → t = u
  | [], [], _, _ => rfl
  | [], _ :: _, h, _ => by cases h
  | _ :: _, [], h, _ => by cases h
  | x :: t, y :: u, h, ho => by
    obtain ⟨h1, h2⟩ := List.cons.inj h
    have h3 := ho (x.fmod 4)
    unfold ownR at h3
    rw [List.filter_cons, List.filter_cons, if_pos (by simp), if_pos (by simp [h1])] at h3
    have hxy := (List.cons.inj h3).1
    subst hxy
    rw [own_inj h2 fun a => ?_]
    have h4 := ho a
    unfold ownR at h4 ⊢
    rw [List.filter_cons, List.filter_cons] at h4
    split at h4
    · exact (List.cons.inj h4).2
    · exact h4
theorem mixG_pick {α β : Type} {f g h : α → β} : ∀ {l : List α} {t : Int}, (∀ p ∈ l, f p ∈ mixG t (l.map g) (l.map f) → h p = f p) → (∀ p ∈ l, g p ∈ mixG t (l.map g) (l.map f) → h p = g p) → mixG t (l.map g) (l.map f) = l.map h
  | [], _, _, _ => rfl
  | p :: l, t, h1, h2 => by
    simp only [List.map_cons, mixG] at h1 h2 ⊢
    rw [mixG_pick (h := h) (fun q hq hm => h1 q (.tail _ hq) (.tail _ hm)) fun q hq hm => h2 q (.tail _ hq) (.tail _ hm)]
    congr 1
    by_cases ht : (t.fmod 2 == 0) = true
    · rw [if_pos ht] at h1 ⊢
      exact (h1 p (.head _) (.head _)).symm
    · rw [if_neg ht] at h2 ⊢
      exact (h2 p (.head _) (.head _)).symm
theorem mixG_mem {α β : Type} {f g : α → β} : ∀ {l : List α} {t : Int} {r : β}, r ∈ mixG t (l.map g) (l.map f) → ∃ p ∈ l, r = f p ∨ r = g p
  | [], _, _, h => by cases h
  | p :: l, t, r, h => by
    simp only [List.map_cons, mixG] at h
    rcases List.mem_cons.mp h with rfl | h
    · refine ⟨p, .head _, ?_⟩
      split
      · exact .inl rfl
      · exact .inr rfl
    · obtain ⟨q, hq, e⟩ := mixG_mem h
      exact ⟨q, .tail _ hq, e⟩
theorem mixG_both {α β : Type} {f g : α → β} : ∀ {l : List α} {t : Int} {p : α}, p ∈ l → f p = g p → f p ∈ mixG t (l.map g) (l.map f)
  | [], _, _, h, _ => by cases h
  | q :: l, t, p, h, e => by
    simp only [List.map_cons, mixG]
    rcases List.mem_cons.mp h with rfl | h
    · rw [e]
      split
      · exact .head _
      · exact .head _
    · exact .tail _ (mixG_both h e)
theorem filter_rep {w : Wd} (a : Int) : w.filter (inP (a, a)) = List.replicate (w.count a) a := by
  have : inP (a, a) = (· == a) := funext fun x => Bool.or_self _
  rw [this, List.filter_beq]
theorem mix_ok {T : Tie} (hT : TieOk T) {w o : Wd} (hw : WdOk w) (hp : o.Perm w) (t : Int) : MixOk T (mixW t (rowsW T w) (rowsW T o)) := by
  have ho := hw.perm hp
  have hrest := c3_rest (Nat.le_refl (total (mixW t (rowsW T w) (rowsW T o))))
  have hne : ∀ {rest : List (List Int)}, pick rest = none → ∀ l ∈ rest, l ≠ [] → l.headD 0 ∈ rest.flatMap List.tail := by
    intro rest hn l hl hx
    cases l with
    | nil => exact absurd rfl hx
    | cons x l =>
      unfold pick at hn
      rw [List.find?_eq_none] at hn
      have := hn x (List.mem_filterMap.mpr ⟨_, hl, rfl⟩)
      unfold free at this
      rw [List.all_eq_true] at this
      have : ∃ r ∈ rest, x ∈ r.tail := by simpa using this
      obtain ⟨r, hr, hx⟩ := this
      exact List.mem_flatMap.mpr ⟨r, hr, hx⟩
  refine ⟨fun hd => ?_, fun hl i l r h1 h2 => ?_, fun ⟨r, hr, hx⟩ e => ?_⟩
  · unfold mixW rowsW at hd ⊢
    rw [rowsT_specs, rowsT_specs] at hd ⊢
    generalize hm : mixG t ((specs T).map fun p => (numW w).filter fun x => inP p (x.fmod 4)) ((specs T).map fun p => (numW o).filter fun x => inP p (x.fmod 4)) = m at hd ⊢
    have hall : ∀ r ∈ m, (mrg m).1.filter (fun x => decide (x ∈ r)) = r := c3_all hd
    generalize hout : (mrg m).1 = out at hall ⊢
    have hcnt : ∀ a, w.filter (inP (a, a)) = o.filter (inP (a, a)) := fun a => by rw [filter_rep, filter_rep, hp.count_eq]
    have hown : ∀ a, ((numW o).filter fun x => inP (a, a) (x.fmod 4)) = (numW w).filter fun x => inP (a, a) (x.fmod 4) := fun a => by rw [numW_filter _ hw, numW_filter _ ho, hcnt]
    have hin : ∀ x, x ∈ numW o ↔ x ∈ numW w := fun x => by
      have h1 := congrArg (x ∈ ·) (hown (x.fmod 4))
      simpa [List.mem_filter, inP] using h1
    have hsub : ∀ x ∈ out, x ∈ numW w := fun x hx => by
      rw [← hout] at hx
      obtain ⟨r, hr, hx⟩ := c3_out hx
      rw [← hm] at hr
      obtain ⟨p, _, rfl | rfl⟩ := mixG_mem hr
      · exact (hin x).mp (List.mem_filter.mp hx).1
      · exact (List.mem_filter.mp hx).1
    have hrow : ∀ {p : Int × Int} {u : List Int}, (∀ x, x ∈ u ↔ x ∈ numW w) → (u.filter fun x => inP p (x.fmod 4)) ∈ m → (out.filter fun x => inP p (x.fmod 4)) = u.filter fun x => inP p (x.fmod 4) := fun {p u} hu hr => by
      refine Eq.trans (List.filter_congr fun x hx => ?_) (hall _ hr)
      have h1 := (hu x).mpr (hsub x hx)
      rw [Bool.eq_iff_iff, decide_eq_true_eq, List.mem_filter]
      exact ⟨fun h => ⟨h1, h⟩, fun h => h.2⟩
    have hrows : rowsT T out = m := by
      rw [rowsT_specs, ← hm]
      symm
      refine mixG_pick (fun p _ hr => ?_) fun p _ hr => ?_
      · rw [hm] at hr
        exact hrow hin hr
      · rw [hm] at hr
        exact hrow (fun _ => Iff.rfl) hr
    have hl : WdOk (out.map fun x => x.fmod 4) := fun a ha => by
      obtain ⟨x, _, rfl⟩ := List.mem_map.mp ha
      exact let_mod x
    have hoo : ∀ a, Let a → (out.filter fun x => inP (a, a) (x.fmod 4)) = (numW w).filter fun x => inP (a, a) (x.fmod 4) := fun a ha => by
      obtain ⟨p, hp, e⟩ := specs_has hT ha ha (hT.self a ha)
      refine hrow (fun _ => Iff.rfl) ?_
      have := mixG_both (t := t) (f := fun p : Int × Int => (numW o).filter fun x => inP p (x.fmod 4)) (g := fun p : Int × Int => (numW w).filter fun x => inP p (x.fmod 4)) hp (by show (_ : List Int) = _; rw [e]; exact hown a)
      rw [hm] at this
      rw [← hown a, ← e]; exact this
    have hnum : out = numW (out.map fun x => x.fmod 4) := by
      refine own_inj (numW_map hl).symm fun a => ?_
      have hr : ∀ u : List Int, ownR u a = u.filter fun x => inP (a, a) (x.fmod 4) := fun u => by simp [ownR, inP]
      rw [hr, hr]
      by_cases ha : Let a
      · have h1 := congrArg (List.map fun x => x.fmod 4) (hoo a ha)
        rw [numW_filter _ hw, numW_map (fun b hb => hw b (List.mem_filter.mp hb).1)] at h1
        rw [numW_filter _ hl, hoo a ha, numW_filter _ hw, ← h1, List.filter_map]; rfl
      · have h0 : ∀ u : List Int, (u.filter fun x => inP (a, a) (x.fmod 4)) = [] := fun u => by
          rw [List.filter_eq_nil_iff]
          intro x _ hx
          have : x.fmod 4 = a := by simpa [inP] using hx
          exact ha (this ▸ let_mod x)
        rw [h0, h0]
    have hrw : rowsW T (out.map fun x => x.fmod 4) = m := by
      unfold rowsW
      rw [← hnum]; exact hrows
    refine ⟨hnum, hrw, ?_⟩
    have h1 := congrArg (fun m => (mrg m).1.map fun x => x.fmod 4) hrw
    simp only [mrg_rows hT hl, numW_map (leastW_ok hl), hout] at h1
    exact h1
  · have hs := hrest.2 i l r h1 h2
    exact ⟨hs.length_le, List.suffix_iff_eq_drop.mp hs, fun hx => hne hrest.1 l (List.mem_of_getElem? h1) hx⟩
  · have := hne hrest.1 r hr hx
    have e' : (c3 (total (mixW t (rowsW T w) (rowsW T o))) (mixW t (rowsW T w) (rowsW T o))).2.flatMap List.tail = [] := e
    rw [e'] at this
    cases this
theorem one_ok {T : Tie} (hT : TieOk T) {w : Wd} (hw : WdOk w) : OneOk T w where
  mrg := mrg_rows hT hw
  rows := (rowsW_same hT (leastW_ok hw) hw).mpr (leastW_same hT w)
  srt := fun s h => by
    have h1 := h.same hT hw
    have h2 := hw.perm h.perm
    exact ⟨(rowsW_same hT h2 hw).mpr h1, (same_least hT h2 hw).mpr h1⟩
theorem law1_plain : ∀ script : List Int, script.length ≤ 63 → LawOk1 script := fun script _ => by
  have hT := tiesW_ok (script.sum.fmod 64)
  have hw := drawn1_ok script
  have hp := swapW_perm (drawn1 script) script
  have ho := hw.perm hp
  exact ⟨one_ok hT hw, one_ok hT ho, (same_least hT hw ho).trans (alike_same hT hw ho).symm, fun s s' h h' => (srt_same hT hw ho h h').trans (alike_same hT hw ho).symm, mix_ok hT hw hp _⟩
end Mine
end

theorem PySem.Challenge.cw_sn0003_01_holds : PySem.Challenge.rw_sn0003_01.Holds :=
  Mine.law1_of Mine.law1_plain
