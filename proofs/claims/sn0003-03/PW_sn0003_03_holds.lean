import PyProof.Rows.All
import Wide.All
import OpenK.AllK
import Wide.FinOn
import PyProof.Rows.CallKwBuiltin
import KE.KLam
import PyProof.Walk
import PyProof.WalkLemmas
import KE.KSortAsk
import KE.KSortKey
import Lean
import PySem.Challenge.RW_sn0003_03
set_option Elab.async false
section
set_option Elab.async false
set_option linter.unusedVariables false
namespace Mine
open PySem PySem.W PyProof.Rows PySem.Calls

noncomputable abbrev Fz := Addr → Option Obj

inductive D where
  | none
  | bool (b : Bool)
  | int (i : Int)
  | ref (a : Addr)
  | list (l : List D)
  | tup (l : List D)
  | rng (lo hi : Int)

noncomputable def LstO (o : Obj) (vs : List Value) : Prop := vs.length ≤ 100000 ∧ ∃ n, o = { cls := .type "list", data := .seq vs.toArray n }
noncomputable def TupO (o : Obj) (vs : List Value) : Prop := vs.length ≤ 100000 ∧ ∃ n, o = { cls := .type "tuple", data := .seq vs.toArray n }

noncomputable def RngO (o : Obj) (lo hi : Int) : Prop := ∃ t u v, o = { cls := .type "range", dict := none, data := .fields #[.int lo t, .int hi u, .int 1 v], slots := #[] }

mutual
inductive Rep (F : Fz) : Value → D → Prop
  | none : Rep F .none .none
  | bool (b : Bool) : Rep F (.bool b) (.bool b)
  | int (i : Int) (t : Tok) : Rep F (.int i t) (.int i)
  | ref (a : Addr) : Rep F (.ref a) (.ref a)
  | list {a : Addr} {o : Obj} {vs : List Value} {ds : List D} : F a = some o → LstO o vs → RepL F vs ds → Rep F (.ref a) (.list ds)
  | tup {a : Addr} {o : Obj} {vs : List Value} {ds : List D} : F a = some o → TupO o vs → RepL F vs ds → Rep F (.ref a) (.tup ds)
  | rng {a : Addr} {o : Obj} {lo hi : Int} : F a = some o → RngO o lo hi → Rep F (.ref a) (.rng lo hi)
inductive RepL (F : Fz) : List Value → List D → Prop
  | nil : RepL F [] []
  | cons {v : Value} {vs : List Value} {d : D} {ds : List D} : Rep F v d → RepL F vs ds → RepL F (v :: vs) (d :: ds)
end

noncomputable def Fle (F F' : Fz) : Prop := ∀ a o, F a = some o → F' a = some o
theorem Fle.refl (F : Fz) : Fle F F := fun _ _ e => e
theorem Fle.trans {F G H : Fz} (x : Fle F G) (y : Fle G H) : Fle F H := fun a o e => y a o (x a o e)

mutual
theorem Rep.mono {F F' : Fz} (hF : Fle F F') : ∀ {v : Value} {d : D}, Rep F v d → Rep F' v d
  | _, _, .none => .none
  | _, _, .bool b => .bool b
  | _, _, .int i t => .int i t
  | _, _, .ref a => .ref a
  | _, _, .list h1 h2 h3 => .list (hF _ _ h1) h2 (RepL.mono hF h3)
  | _, _, .tup h1 h2 h3 => .tup (hF _ _ h1) h2 (RepL.mono hF h3)
  | _, _, .rng h1 h2 => .rng (hF _ _ h1) h2
theorem RepL.mono {F F' : Fz} (hF : Fle F F') : ∀ {vs : List Value} {ds : List D}, RepL F vs ds → RepL F' vs ds
  | _, _, .nil => .nil
  | _, _, .cons h t => .cons (Rep.mono hF h) (RepL.mono hF t)
end

section
variable {F : Fz}
theorem RepL.length : ∀ {vs : List Value} {ds : List D}, RepL F vs ds → vs.length = ds.length
  | _, _, .nil => rfl
  | _, _, .cons _ t => congrArg (· + 1) t.length
theorem RepL.get : ∀ {vs : List Value} {ds : List D}, RepL F vs ds → ∀ {i : Nat} {d : D}, ds[i]? = some d → ∃ v, vs[i]? = some v ∧ Rep F v d
  | _, _, .cons h t, 0, d, e => by
    simp only [List.getElem?_cons_zero, Option.some.injEq] at e
    subst e
    exact ⟨_, rfl, h⟩
  | _, _, .cons _ t, i + 1, d, e => by
    simp only [List.getElem?_cons_succ] at e ⊢
    exact t.get e
theorem RepL.get' : ∀ {vs : List Value} {ds : List D}, RepL F vs ds → ∀ {i : Nat} {v : Value}, vs[i]? = some v → ∃ d, ds[i]? = some d ∧ Rep F v d
  | _, _, .cons h t, 0, d, e => by
    simp only [List.getElem?_cons_zero, Option.some.injEq] at e
    subst e
    exact ⟨_, rfl, h⟩
  | _, _, .cons _ t, i + 1, d, e => by
    simp only [List.getElem?_cons_succ] at e ⊢
    exact t.get' e
theorem RepL.append : ∀ {vs : List Value} {ds : List D} {vs' : List Value} {ds' : List D}, RepL F vs ds → RepL F vs' ds' → RepL F (vs ++ vs') (ds ++ ds')
  | _, _, _, _, .nil, h => h
  | _, _, _, _, .cons x t, h => .cons x (t.append h)
theorem RepL.drop : ∀ {vs : List Value} {ds : List D}, RepL F vs ds → ∀ n : Nat, RepL F (vs.drop n) (ds.drop n)
  | _, _, h, 0 => h
  | _, _, .nil, n + 1 => .nil
  | _, _, .cons _ t, n + 1 => t.drop n
theorem RepL.take : ∀ {vs : List Value} {ds : List D}, RepL F vs ds → ∀ n : Nat, RepL F (vs.take n) (ds.take n)
  | _, _, h, 0 => .nil
  | _, _, .nil, n + 1 => .nil
  | _, _, .cons x t, n + 1 => .cons x (t.take n)
theorem RepL.set : ∀ {vs : List Value} {ds : List D}, RepL F vs ds → ∀ (n : Nat) {v : Value} {d : D}, Rep F v d → RepL F (vs.set n v) (ds.set n d)
  | _, _, .nil, n, _, _, _ => .nil
  | _, _, .cons _ t, 0, _, _, h => .cons h t
  | _, _, .cons x t, n + 1, _, _, h => .cons x (t.set n h)
theorem RepL.eraseIdx : ∀ {vs : List Value} {ds : List D}, RepL F vs ds → ∀ (n : Nat), RepL F (vs.eraseIdx n) (ds.eraseIdx n)
  | _, _, .nil, n => .nil
  | _, _, .cons _ t, 0 => t
  | _, _, .cons x t, n + 1 => .cons x (t.eraseIdx n)
theorem RepL.reverse : ∀ {vs : List Value} {ds : List D}, RepL F vs ds → RepL F vs.reverse ds.reverse
  | _, _, .nil => .nil
  | _, _, .cons x t => by
    rw [List.reverse_cons, List.reverse_cons]
    exact t.reverse.append (.cons x .nil)
theorem Rep.int_inv {v : Value} {i : Int} (h : Rep F v (.int i)) : ∃ t, v = .int i t := by
  cases h; exact ⟨_, rfl⟩
theorem Rep.bool_inv {v : Value} {i : Bool} (h : Rep F v (.bool i)) : v = .bool i := by
  cases h; rfl
theorem Rep.none_inv {v : Value} (h : Rep F v .none) : v = .none := by
  cases h; rfl
theorem Rep.ref_inv {v : Value} {a : Addr} (h : Rep F v (.ref a)) : v = .ref a := by
  cases h; rfl
theorem Rep.list_inv {v : Value} {ds : List D} (h : Rep F v (.list ds)) : ∃ a o vs, v = .ref a ∧ F a = some o ∧ LstO o vs ∧ RepL F vs ds := by
  cases h with | list h1 h2 h3 => exact ⟨_, _, _, rfl, h1, h2, h3⟩
theorem Rep.tup_inv {v : Value} {ds : List D} (h : Rep F v (.tup ds)) : ∃ a o vs, v = .ref a ∧ F a = some o ∧ TupO o vs ∧ RepL F vs ds := by
  cases h with | tup h1 h2 h3 => exact ⟨_, _, _, rfl, h1, h2, h3⟩
theorem Rep.rng_inv {v : Value} {lo hi : Int} (h : Rep F v (.rng lo hi)) : ∃ a o, v = .ref a ∧ F a = some o ∧ RngO o lo hi := by
  cases h with | rng h1 h2 => exact ⟨_, _, rfl, h1, h2⟩
end

inductive MO where
  | list (ds : List D)
  | obj (P : Obj → Prop)
  | fobj (P : Fz → Obj → Prop)
noncomputable def MO.At (F : Fz) (h : Heap) (a : Addr) : MO → Prop
  | .list ds => ∃ o vs, h.get? a = some o ∧ LstO o vs ∧ RepL F vs ds
  | .obj P => ∃ o, h.get? a = some o ∧ P o
  | .fobj P => ∃ o F0, Fle F0 F ∧ h.get? a = some o ∧ P F0 o
theorem MO.At.mono {F F' : Fz} {h h' : Heap} {a : Addr} {m : MO} (x : m.At F h a) (hF : Fle F F') (hh : ∀ o, h.get? a = some o → h'.get? a = some o) : m.At F' h' a := by
  cases m with
  | list ds =>
    obtain ⟨o, vs, h1, h2, h3⟩ := x
    exact ⟨o, vs, hh _ h1, h2, h3.mono hF⟩
  | obj P => exact x.imp fun o e => ⟨hh _ e.1, e.2⟩
  | fobj P =>
    obtain ⟨o, F0, g, h1, h2⟩ := x
    exact ⟨o, F0, g.trans hF, hh _ h1, h2⟩
theorem MO.At.some {F : Fz} {h : Heap} {a : Addr} {m : MO} (x : m.At F h a) : ∃ o, h.get? a = some o := by
  cases m with
  | list ds =>
    obtain ⟨o, vs, h1, h2, h3⟩ := x
    exact ⟨o, h1⟩
  | obj P => exact x.imp fun o e => e.1
  | fobj P =>
    obtain ⟨o, F0, g, h1, h2⟩ := x
    exact ⟨o, h1⟩

noncomputable abbrev Mu := List (Addr × MO)

structure Gx where
  prog : Program
  w : World
  hb : Heap
  mg : Str → Option Value
  mb : Str → Option Value
  s0 : Shared
noncomputable abbrev Gx.M (G : Gx) : Model := model G.prog G.w
structure Gx.Ok (G : Gx) : Prop where
  ns : G.hb.Ns mainGlobals G.mg
  bs : G.hb.Ns builtinsNs G.mb
  nl : G.hb.NoLimit

structure Am (G : Gx) (K : Fz) (mu : Mu) (F : Fz) (s : Shared) : Prop where
  ok : G.Ok
  base : ∀ a o, G.hb.get? a = some o → F a = some o
  frz : ∀ a o, F a = some o → s.heap.get? a = some o
  dis : ∀ a o, K a = some o → F a = none
  keep : ∀ a o, K a = some o → s.heap.get? a = some o
  mus : ∀ p ∈ mu, p.2.At F s.heap p.1 ∧ F p.1 = none ∧ K p.1 = none
  nd : (mu.map (·.1)).Nodup
  gens : s.gens = G.s0.gens
  drawn : s.drawn = G.s0.drawn
  os : s.os = G.s0.os

noncomputable abbrev Pred := Fz → Fz → Prop
noncomputable def Pred.Mon (P : Pred) : Prop := ∀ K K' F F', P K F → Fle K K' → Fle F F' → P K' F'

structure Cx where
  G : Gx
  A : Around
  env : Env
  priv : List Addr
  rm : Nat
  ro : Mu
  pre : Pred

structure Room (A : Around) (n : Nat) : Prop where
  hh : A.handled = none
  dp : A.depth + 3 * n + 20 < recursionLimit
  un : A.units + 40 * n + 200 < cLine

structure Cx.Ok (C : Cx) : Prop where
  fn : C.env.scope.kind = .function
  gl : C.env.globals = mainGlobals
  bu : C.env.builtins = builtinsNs
  rm : Room C.A C.rm
  loc : C.env.locals ∈ C.priv
  apart : C.env.cells.Pairwise fun x y => x.2 ≠ y.2
  cne : ∀ x ∈ C.env.cells, x.2 ≠ C.env.locals
  mon : C.pre.Mon

structure St where
  vars : List (Str × D)
  mu : Mu

noncomputable abbrev St.v (σ : St) (x : Str) : Option D := σ.vars.lookup x
noncomputable def VarAt (env : Env) (h : Heap) (m : Str → Option Value) (x : Str) (v : Value) : Prop :=
  match env.kindOf x with
  | some .local => m x = some v
  | some .cell => ∃ c, env.cells.lookup x = some c ∧ h.IsCell c (some v)
  | some .free => ∃ c, env.cells.lookup x = some c ∧ h.IsCell c (some v)
  | _ => False

structure Mo (C : Cx) (K : Fz) (σ : St) (F : Fz) (s : Shared) : Prop where
  ok : C.Ok
  am : Am C.G K σ.mu F s
  priv : ∀ a ∈ C.priv, F a = none ∧ K a = none ∧ ∃ o, s.heap.get? a = some o
  live : ∀ x ∈ C.env.cells, (∃ v, s.heap.IsCell x.2 v) ∧ (x.2 ∈ C.priv ∨ ∃ o, K x.2 = some o)
  loc : ∃ m, s.heap.Ns C.env.locals m ∧ ∀ x d, σ.vars.lookup x = some d → ∃ v, VarAt C.env s.heap m x v ∧ Rep F v d
  pmu : ∀ p ∈ σ.mu, p.1 ∉ C.priv
  ro : ∀ p ∈ C.ro, p.2.At F s.heap p.1 ∧ ∃ o, K p.1 = some o
  pre : C.pre K F

noncomputable def Fz.put (F : Fz) (a : Addr) (o : Obj) : Fz := fun b => if b = a then some o else F b
theorem Fz.put_self (F : Fz) (a : Addr) (o : Obj) : F.put a o a = some o := if_pos rfl
theorem Fz.put_ne (F : Fz) {a b : Addr} (o : Obj) (h : b ≠ a) : F.put a o b = F b := if_neg h
theorem Fle.put {F : Fz} {a : Addr} (hf : F a = none) (o : Obj) : Fle F (F.put a o) :=
  fun b ob e => by rw [Fz.put_ne]; exact e; rintro rfl; rw [hf] at e; cases e
noncomputable def Fz.del (F : Fz) (a : Addr) : Fz := fun b => if b = a then none else F b
theorem MO.At.sameBut {F : Fz} {h h' : Heap} {a b : Addr} {m : MO} (x : m.At F h b) (hs : Heap.SameBut a h h') (hb : b ≠ a) : m.At F h' b :=
  x.mono (Fle.refl _) fun o e => (hs.2 b hb).trans e

section
variable {G : Gx} {K : Fz} {mu : Mu} {F : Fz} {s : Shared}

theorem Am.toks (X : Am G K mu F s) (t : Nat) : Am G K mu F { s with toks := t } :=
  ⟨X.ok, X.base, X.frz, X.dis, X.keep, X.mus, X.nd, X.gens, X.drawn, X.os⟩
theorem Am.ns (X : Am G K mu F s) : s.heap.Ns mainGlobals G.mg := X.ok.ns.keeps fun b o e => X.frz _ _ (X.base _ _ e)
theorem Am.nsb (X : Am G K mu F s) : s.heap.Ns builtinsNs G.mb := X.ok.bs.keeps fun b o e => X.frz _ _ (X.base _ _ e)
theorem Am.nl (X : Am G K mu F s) : s.heap.NoLimit := by
  obtain ⟨mc, h1, h2⟩ := X.ok.nl
  exact ⟨mc, h1.keeps fun b o e => X.frz _ _ (X.base _ _ e), h2⟩
theorem Am.fresh (X : Am G K mu F s) : F s.heap.objs.size = none := by
  cases e : F s.heap.objs.size with
  | none => rfl
  | some o => exact absurd (Heap.lt_size (X.frz _ _ e)) (Nat.lt_irrefl _)
theorem Am.freshK (X : Am G K mu F s) : K s.heap.objs.size = none := by
  cases e : K s.heap.objs.size with
  | none => rfl
  | some o => exact absurd (Heap.lt_size (X.keep _ _ e)) (Nat.lt_irrefl _)
theorem Am.freshMu (X : Am G K mu F s) : ∀ p ∈ mu, p.1 ≠ s.heap.objs.size := fun p hp e => by
  obtain ⟨o, ho⟩ := (X.mus p hp).1.some
  have := Heap.lt_size ho
  rw [e] at this
  exact Nat.lt_irrefl _ this

theorem Am.grow {F' : Fz} {h' : Heap} {t : Nat} (X : Am G K mu F s) (hk : ∀ a o, s.heap.get? a = some o → h'.get? a = some o)
    (hF : Fle F F') (hn : ∀ a o, F' a = some o → F a = some o ∨ s.heap.get? a = none) (hf : ∀ a o, F' a = some o → h'.get? a = some o) : Am G K mu F' { s with heap := h', toks := t } := by
  have out : ∀ a o, s.heap.get? a = some o → F a = none → F' a = none := fun a o e f => by
    cases q : F' a with
    | none => rfl
    | some o' =>
      rcases hn a o' q with h | h
      · rw [f] at h; cases h
      · rw [e] at h; cases h
  refine ⟨X.ok, fun a o e => hF _ _ (X.base a o e), hf, fun a o e => out a o (X.keep a o e) (X.dis a o e), fun a o e => hk _ _ (X.keep a o e), fun p hp => ?_, X.nd, X.gens, X.drawn, X.os⟩
  obtain ⟨h1, h2, h3⟩ := X.mus p hp
  obtain ⟨o, ho⟩ := h1.some
  exact ⟨h1.mono hF fun o e => hk _ _ e, out _ _ ho h2, h3⟩
theorem Am.put_new (X : Am G K mu F s) (o : Obj) : ∀ a o', F.put s.heap.objs.size o a = some o' → F a = some o' ∨ s.heap.get? a = none := fun a o' e => by
  by_cases h : a = s.heap.objs.size
  · subst h
    refine Or.inr ?_
    cases q : s.heap.get? s.heap.objs.size with
    | none => rfl
    | some o => exact absurd (Heap.lt_size q) (Nat.lt_irrefl _)
  · rw [Fz.put_ne _ _ h] at e; exact Or.inl e
theorem Am.put_heap (X : Am G K mu F s) (o : Obj) (ho : o.isFreed = false) : ∀ a o', F.put s.heap.objs.size o a = some o' → (s.heap.push o).get? a = some o' := fun a o' e => by
  by_cases h : a = s.heap.objs.size
  · subst h
    rw [Fz.put_self] at e
    cases e
    exact Heap.get?_push_size _ ho
  · rw [Fz.put_ne _ _ h] at e
    exact Heap.get?_push_of_some _ (X.frz _ _ e)
theorem Am.junk (X : Am G K mu F s) (o : Obj) (t : Nat) : Am G K mu F { s with heap := s.heap.push o, toks := t } :=
  X.grow (fun a o' e => Heap.get?_push_of_some _ e) (Fle.refl _) (fun a o e => .inl e) fun a o' e => Heap.get?_push_of_some _ (X.frz _ _ e)
theorem Am.allocMu (X : Am G K mu F s) (o : Obj) (mo : MO) (t : Nat) (hm : mo.At F (s.heap.push o) s.heap.objs.size) :
    Am G K ((s.heap.objs.size, mo) :: mu) F { s with heap := s.heap.push o, toks := t } := by
  have X' := X.junk o t
  refine ⟨X'.ok, X'.base, X'.frz, X'.dis, X'.keep, fun p hp => ?_, ?_, X'.gens, X'.drawn, X'.os⟩
  · rcases List.mem_cons.mp hp with rfl | hp
    · exact ⟨hm, X.fresh, X.freshK⟩
    · exact X'.mus p hp
  · rw [List.map_cons, List.nodup_cons]
    refine ⟨fun hq => ?_, X.nd⟩
    obtain ⟨p, hp, e⟩ := List.mem_map.mp hq
    exact X.freshMu p hp e
theorem Am.other {h' : Heap} {a : Addr} {t : Nat} (X : Am G K mu F s) (hs : Heap.SameBut a s.heap h') (hF : F a = none) (hK : K a = none) (hm : ∀ p ∈ mu, p.1 ≠ a) : Am G K mu F { s with heap := h', toks := t } :=
  ⟨X.ok, X.base, fun b o e => (hs.2 b (fun q => by subst q; rw [hF] at e; cases e)).trans (X.frz b o e), X.dis, fun b o e => (hs.2 b (fun q => by subst q; rw [hK] at e; cases e)).trans (X.keep b o e),
    fun p hp => ⟨(X.mus p hp).1.sameBut hs (hm p hp), (X.mus p hp).2⟩, X.nd, X.gens, X.drawn, X.os⟩
theorem nodup_mid {pre post : Mu} {a : Addr} {mo : MO} (nd : ((pre ++ (a, mo) :: post).map (·.1)).Nodup) : (∀ p ∈ pre ++ post, p.1 ≠ a) ∧ ((pre ++ post).map (·.1)).Nodup := by
  rw [List.map_append, List.map_cons] at nd
  have nd' : (a :: (pre.map (·.1) ++ post.map (·.1))).Nodup := (List.perm_middle).nodup_iff.mp nd
  rw [← List.map_append, List.nodup_cons] at nd'
  exact ⟨fun p hp e => nd'.1 (e ▸ List.mem_map_of_mem hp), nd'.2⟩
theorem Am.turn {h' : Heap} {a : Addr} {pre post : Mu} {mo mo' : MO} {t : Nat} (X : Am G K (pre ++ (a, mo) :: post) F s) (hs : Heap.SameBut a s.heap h') (hm : mo'.At F h' a) :
    Am G K (pre ++ (a, mo') :: post) F { s with heap := h', toks := t } := by
  obtain ⟨h1, h2, h3⟩ := X.mus (a, mo) (by simp)
  obtain ⟨ne, _⟩ := nodup_mid X.nd
  refine ⟨X.ok, X.base, fun b o e => (hs.2 b (fun q => by subst q; rw [h2] at e; cases e)).trans (X.frz b o e), X.dis, fun b o e => (hs.2 b (fun q => by subst q; rw [h3] at e; cases e)).trans (X.keep b o e), fun p hp => ?_, ?_, X.gens, X.drawn, X.os⟩
  · rcases List.mem_append.mp hp with hp | hp
    · obtain ⟨q1, q2⟩ := X.mus p (List.mem_append_left _ hp)
      exact ⟨q1.sameBut hs (ne p (List.mem_append_left _ hp)), q2⟩
    · rcases List.mem_cons.mp hp with rfl | hp
      · exact ⟨hm, h2, h3⟩
      · obtain ⟨q1, q2⟩ := X.mus p (List.mem_append_right _ (.tail _ hp))
        exact ⟨q1.sameBut hs (ne p (List.mem_append_right _ hp)), q2⟩
  · have := X.nd
    rw [List.map_append, List.map_cons] at this ⊢
    exact this
theorem Am.sub {mu' : Mu} (X : Am G K mu F s) (h : ∀ p ∈ mu', p ∈ mu) (nd : (mu'.map (·.1)).Nodup) : Am G K mu' F s :=
  ⟨X.ok, X.base, X.frz, X.dis, X.keep, fun p hp => X.mus p (h p hp), nd, X.gens, X.drawn, X.os⟩
theorem Am.perm {mu' : Mu} (X : Am G K mu F s) (h : mu'.Perm mu) : Am G K mu' F s :=
  X.sub (fun p hp => h.mem_iff.mp hp) ((h.map _).nodup_iff.mpr X.nd)
theorem Am.freeze {a : Addr} {mo : MO} (X : Am G K ((a, mo) :: mu) F s) : ∃ o, s.heap.get? a = some o ∧ mo.At F s.heap a ∧ F a = none ∧ Am G K mu (F.put a o) s := by
  obtain ⟨h1, h2, h3⟩ := X.mus (a, mo) (.head _)
  obtain ⟨o, ho⟩ := h1.some
  have nd := X.nd
  rw [List.map_cons, List.nodup_cons] at nd
  have hF : Fle F (F.put a o) := Fle.put h2 o
  refine ⟨o, ho, h1, h2, X.ok, fun b ob e => hF _ _ (X.base b ob e), fun b ob e => ?_, fun b ob e => ?_, X.keep, fun p hp => ?_, nd.2, X.gens, X.drawn, X.os⟩
  · by_cases hb : b = a
    · subst hb; rw [Fz.put_self] at e; cases e; exact ho
    · rw [Fz.put_ne _ _ hb] at e; exact X.frz _ _ e
  · rw [Fz.put_ne]; exact X.dis b ob e; rintro rfl; rw [h3] at e; cases e
  · have hpa : p.1 ≠ a := fun e => nd.1 (List.mem_map.mpr ⟨p, hp, e⟩)
    obtain ⟨e1, e2, e3⟩ := X.mus p (.tail _ hp)
    exact ⟨e1.mono hF fun o e => e, by rw [Fz.put_ne _ _ hpa]; exact e2, e3⟩
theorem Am.hide {a : Addr} {mo : MO} (X : Am G K ((a, mo) :: mu) F s) : ∃ o, s.heap.get? a = some o ∧ mo.At F s.heap a ∧ K a = none ∧ Am G (K.put a o) mu F s := by
  obtain ⟨h1, h2, h3⟩ := X.mus (a, mo) (.head _)
  obtain ⟨o, ho⟩ := h1.some
  have nd := X.nd
  rw [List.map_cons, List.nodup_cons] at nd
  refine ⟨o, ho, h1, h3, X.ok, X.base, X.frz, fun b ob e => ?_, fun b ob e => ?_, fun p hp => ?_, nd.2, X.gens, X.drawn, X.os⟩
  · by_cases hb : b = a
    · subst hb; exact h2
    · rw [Fz.put_ne _ _ hb] at e; exact X.dis _ _ e
  · by_cases hb : b = a
    · subst hb; rw [Fz.put_self] at e; cases e; exact ho
    · rw [Fz.put_ne _ _ hb] at e; exact X.keep _ _ e
  · have hpa : p.1 ≠ a := fun e => nd.1 (List.mem_map.mpr ⟨p, hp, e⟩)
    obtain ⟨e1, e2, e3⟩ := X.mus p (.tail _ hp)
    exact ⟨e1, e2, by rw [Fz.put_ne _ _ hpa]; exact e3⟩
theorem Am.show {a : Addr} {o : Obj} {mo : MO} (X : Am G (K.put a o) mu F s) (hK : K a = none) (hm : mo.At F s.heap a) : Am G K ((a, mo) :: mu) F s := by
  have kp : ∀ b ob, K b = some ob → K.put a o b = some ob := fun b ob e => (Fle.put hK o) b ob e
  refine ⟨X.ok, X.base, X.frz, fun b ob e => X.dis _ _ (kp _ _ e), fun b ob e => X.keep _ _ (kp _ _ e), fun p hp => ?_, ?_, X.gens, X.drawn, X.os⟩
  · rcases List.mem_cons.mp hp with rfl | hp
    · exact ⟨hm, X.dis _ _ (Fz.put_self _ _ _), hK⟩
    · obtain ⟨e1, e2, e3⟩ := X.mus p hp
      have ne : p.1 ≠ a := fun e => by rw [e, Fz.put_self] at e3; cases e3
      rw [Fz.put_ne _ _ ne] at e3
      exact ⟨e1, e2, e3⟩
  · rw [List.map_cons, List.nodup_cons]
    refine ⟨fun hq => ?_, X.nd⟩
    obtain ⟨p, hp, e⟩ := List.mem_map.mp hq
    have := (X.mus p hp).2.2
    rw [e] at this
    dsimp only at this
    rw [Fz.put_self] at this
    cases this
end

section
variable {C : Cx} {K : Fz} {σ : St} {F : Fz} {s : Shared}

theorem VarAt.imp {env : Env} {h h' : Heap} {m m' : Str → Option Value} {x : Str} {v : Value} (X : VarAt env h m x v) (h1 : env.kindOf x = some .local → m x = some v → m' x = some v)
    (h2 : ∀ c, env.cells.lookup x = some c → h.IsCell c (some v) → h'.IsCell c (some v)) : VarAt env h' m' x v := by
  unfold VarAt at X ⊢
  revert X h1
  cases env.kindOf x with
  | none => intro X _; exact X
  | some k =>
    cases k <;> intro X h1
    case «local» => exact h1 rfl X
    case cell => obtain ⟨c, e1, e2⟩ := X; exact ⟨c, e1, h2 c e1 e2⟩
    case free => obtain ⟨c, e1, e2⟩ := X; exact ⟨c, e1, h2 c e1 e2⟩
    all_goals exact X
theorem VarAt.mono {env : Env} {h h' : Heap} {m : Str → Option Value} {x : Str} {v : Value} (hh : ∀ c ∈ env.cells, ∀ o, h.get? c.2 = some o → h'.get? c.2 = some o) (X : VarAt env h m x v) : VarAt env h' m x v :=
  X.imp (fun _ e => e) fun c e ⟨o, e1, e2⟩ => ⟨o, hh _ (mem_of_lookup e) _ e1, e2⟩

noncomputable def St.set (σ : St) (x : Str) (d : D) : St := { σ with vars := (x, d) :: σ.vars }
noncomputable def St.setMu (σ : St) (m : Mu) : St := { σ with mu := m }

theorem Mo.toks (X : Mo C K σ F s) (t : Nat) : Mo C K σ F { s with toks := t } :=
  ⟨X.ok, X.am.toks t, X.priv, X.live, X.loc, X.pmu, X.ro, X.pre⟩

theorem Mo.frame {K' : Fz} {mu' : Mu} {F' : Fz} {s' : Shared} (X : Mo C K σ F s) (A : Am C.G K' mu' F' s') (hk : ∀ a ∈ C.priv, F' a = none ∧ K' a = none ∧ s'.heap.get? a = s.heap.get? a)
    (hc : ∀ x ∈ C.env.cells, x.2 ∉ C.priv → (∃ o, K' x.2 = some o) ∧ s'.heap.get? x.2 = s.heap.get? x.2) (hF : Fle F F')
    (hp : ∀ p ∈ mu', p.1 ∉ C.priv) (hro : ∀ p ∈ C.ro, s'.heap.get? p.1 = s.heap.get? p.1 ∧ ∃ o, K' p.1 = some o) (hpre : C.pre K' F') : Mo C K' (σ.setMu mu') F' s' := by
  obtain ⟨m, hm, hv⟩ := X.loc
  have cel : ∀ x ∈ C.env.cells, s'.heap.get? x.2 = s.heap.get? x.2 := fun x hx => by
    by_cases h : x.2 ∈ C.priv
    · exact (hk _ h).2.2
    · exact (hc x hx h).2
  refine ⟨X.ok, A, fun a ha => ?_, fun x hx => ?_, ⟨m, ?_, fun x d e => ?_⟩, hp, fun p hq => ?_, hpre⟩
  · obtain ⟨h1, h2, h3⟩ := hk a ha
    exact ⟨h1, h2, by rw [h3]; exact (X.priv a ha).2.2⟩
  · obtain ⟨⟨v, o, h1, h2⟩, _⟩ := X.live x hx
    refine ⟨⟨v, o, (cel x hx).trans h1, h2⟩, ?_⟩
    by_cases h : x.2 ∈ C.priv
    · exact Or.inl h
    · exact Or.inr (hc x hx h).1
  · obtain ⟨o, es, ep, e, r⟩ := hm
    exact ⟨o, es, ep, (hk _ X.ok.loc).2.2.trans e, r⟩
  · obtain ⟨v, h1, h2⟩ := hv x d e
    exact ⟨v, h1.mono fun c hc o e => (cel c hc).trans e, h2.mono hF⟩
  · obtain ⟨h1, h2⟩ := X.ro p hq
    exact ⟨h1.mono hF fun o e => (hro p hq).1.trans e, (hro p hq).2⟩

theorem Mo.with {mu' : Mu} {F' : Fz} {s' : Shared} (X : Mo C K σ F s) (A : Am C.G K mu' F' s') (hk : ∀ a ∈ C.priv, F' a = none ∧ s'.heap.get? a = s.heap.get? a) (hF : Fle F F') (hp : ∀ p ∈ mu', p.1 ∉ C.priv) : Mo C K (σ.setMu mu') F' s' := by
  have kk : ∀ a o, K a = some o → s'.heap.get? a = s.heap.get? a := fun a o e => (A.keep _ _ e).trans (X.am.keep _ _ e).symm
  refine X.frame A (fun a ha => ⟨(hk a ha).1, (X.priv a ha).2.1, (hk a ha).2⟩) (fun x hx hn => ?_) hF hp (fun p hq => ?_) (X.ok.mon _ _ _ _ X.pre (Fle.refl _) hF)
  · rcases (X.live x hx).2 with h | ⟨o, h⟩
    · exact absurd h hn
    · exact ⟨⟨o, h⟩, kk _ _ h⟩
  · obtain ⟨o, h⟩ := (X.ro p hq).2
    exact ⟨kk _ _ h, o, h⟩

theorem Mo.grow {F' : Fz} {h' : Heap} {t : Nat} (X : Mo C K σ F s) (hk : ∀ a o, s.heap.get? a = some o → h'.get? a = some o)
    (hF : Fle F F') (hn : ∀ a o, F' a = some o → F a = some o ∨ s.heap.get? a = none) (hf : ∀ a o, F' a = some o → h'.get? a = some o) : Mo C K σ F' { s with heap := h', toks := t } := by
  refine X.with (X.am.grow hk hF hn hf) (fun a ha => ?_) hF X.pmu
  obtain ⟨h1, h2, o, ho⟩ := X.priv a ha
  refine ⟨?_, (hk _ _ ho).trans ho.symm⟩
  cases q : F' a with
  | none => rfl
  | some o' =>
    rcases hn a o' q with h | h
    · rw [h1] at h; cases h
    · rw [ho] at h; cases h
theorem Mo.alloc (X : Mo C K σ F s) (o : Obj) (ho : o.isFreed = false) (t : Nat) : Mo C K σ (F.put s.heap.objs.size o) { s with heap := s.heap.push o, toks := t } :=
  X.grow (fun a o' e => Heap.get?_push_of_some _ e) (Fle.put X.am.fresh _) (X.am.put_new o) (X.am.put_heap o ho)
theorem Mo.junk (X : Mo C K σ F s) (o : Obj) (t : Nat) : Mo C K σ F { s with heap := s.heap.push o, toks := t } :=
  X.grow (fun a o' e => Heap.get?_push_of_some _ e) (Fle.refl _) (fun a o e => .inl e) fun a o' e => Heap.get?_push_of_some _ (X.am.frz _ _ e)
theorem Mo.allocMu (X : Mo C K σ F s) (o : Obj) (mo : MO) (t : Nat) (hm : mo.At F (s.heap.push o) s.heap.objs.size) :
    Mo C K (σ.setMu ((s.heap.objs.size, mo) :: σ.mu)) F { s with heap := s.heap.push o, toks := t } := by
  have X' := X.junk o t
  refine X'.with (mu' := (s.heap.objs.size, mo) :: σ.mu) (X.am.allocMu o mo t hm) (fun a ha => ⟨(X.priv a ha).1, rfl⟩) (Fle.refl _) fun p hp => ?_
  rcases List.mem_cons.mp hp with rfl | hp
  · intro hq
    obtain ⟨o', ho'⟩ := (X.priv _ hq).2.2
    exact Nat.lt_irrefl _ (Heap.lt_size ho')
  · exact X.pmu p hp
theorem Mo.turn {h' : Heap} {a : Addr} {pre post : Mu} {mo mo' : MO} {t : Nat} (X : Mo C K σ F s) (hσ : σ.mu = pre ++ (a, mo) :: post) (hs : Heap.SameBut a s.heap h') (hm : mo'.At F h' a) :
    Mo C K (σ.setMu (pre ++ (a, mo') :: post)) F { s with heap := h', toks := t } := by
  have A := X.am
  rw [hσ] at A
  have ha : a ∉ C.priv := X.pmu (a, mo) (by rw [hσ]; simp)
  refine X.with (A.turn hs hm) (fun b hb => ⟨(X.priv b hb).1, hs.2 b fun e => ha (e ▸ hb)⟩) (Fle.refl _) fun p hp => ?_
  rcases List.mem_append.mp hp with hp | hp
  · exact X.pmu p (by rw [hσ]; exact List.mem_append_left _ hp)
  · rcases List.mem_cons.mp hp with rfl | hp
    · exact ha
    · exact X.pmu p (by rw [hσ]; exact List.mem_append_right _ (.tail _ hp))
theorem Mo.sub {mu' : Mu} (X : Mo C K σ F s) (h : ∀ p ∈ mu', p ∈ σ.mu) (nd : (mu'.map (·.1)).Nodup) : Mo C K (σ.setMu mu') F s :=
  X.with (X.am.sub h nd) (fun a ha => ⟨(X.priv a ha).1, rfl⟩) (Fle.refl _) fun p hp => X.pmu p (h p hp)
theorem Mo.perm {mu' : Mu} (X : Mo C K σ F s) (h : mu'.Perm σ.mu) : Mo C K (σ.setMu mu') F s :=
  X.sub (fun p hp => h.mem_iff.mp hp) ((h.map _).nodup_iff.mpr X.am.nd)
theorem Mo.freeze {a : Addr} {mo : MO} {mu : Mu} (X : Mo C K σ F s) (hσ : σ.mu = (a, mo) :: mu) : ∃ o, s.heap.get? a = some o ∧ mo.At F s.heap a ∧ F a = none ∧ Mo C K (σ.setMu mu) (F.put a o) s := by
  have A := X.am
  rw [hσ] at A
  obtain ⟨o, h1, h2, h3, A'⟩ := A.freeze
  have ha : a ∉ C.priv := X.pmu (a, mo) (by rw [hσ]; exact .head _)
  exact ⟨o, h1, h2, h3, X.with A' (fun b hb => ⟨by rw [Fz.put_ne _ _ (show b ≠ a from fun e => ha (e ▸ hb))]; exact (X.priv b hb).1, rfl⟩) (Fle.put h3 o) fun p hp => X.pmu p (by rw [hσ]; exact .tail _ hp)⟩
theorem Mo.hide {a : Addr} {mo : MO} {mu : Mu} (X : Mo C K σ F s) (hσ : σ.mu = (a, mo) :: mu) : ∃ o, s.heap.get? a = some o ∧ mo.At F s.heap a ∧ K a = none ∧ Mo C (K.put a o) (σ.setMu mu) F s := by
  have A := X.am
  rw [hσ] at A
  obtain ⟨o, h1, h2, h3, A'⟩ := A.hide
  have ha : a ∉ C.priv := X.pmu (a, mo) (by rw [hσ]; exact .head _)
  refine ⟨o, h1, h2, h3, X.frame A' (fun b hb => ⟨(X.priv b hb).1, by rw [Fz.put_ne _ _ (show b ≠ a from fun e => ha (e ▸ hb))]; exact (X.priv b hb).2.1, rfl⟩) (fun x hx hn => ⟨?_, rfl⟩) (Fle.refl _) (fun p hp => X.pmu p (by rw [hσ]; exact .tail _ hp)) (fun p hp => ⟨rfl, ?_⟩) (X.ok.mon _ _ _ _ X.pre (Fle.put h3 o) (Fle.refl _))⟩
  · rcases (X.live x hx).2 with h | ⟨o', h⟩
    · exact absurd h hn
    · exact ⟨o', Fle.put h3 o _ _ h⟩
  · obtain ⟨o', h⟩ := (X.ro p hp).2
    exact ⟨o', Fle.put h3 o _ _ h⟩
theorem Mo.show {a : Addr} {o : Obj} {mo : MO} (X : Mo C (K.put a o) σ F s) (hK : K a = none) (hm : mo.At F s.heap a) (hc : ∀ x ∈ C.env.cells, x.2 ≠ a) (hr : ∀ p ∈ C.ro, p.1 ≠ a) (hpre : C.pre K F) : Mo C K (σ.setMu ((a, mo) :: σ.mu)) F s := by
  have hp : ∀ b ∈ C.priv, b ≠ a := fun b hb e => by have := (X.priv b hb).2.1; rw [e, Fz.put_self] at this; cases this
  refine X.frame (X.am.show hK hm) (fun b hb => ⟨(X.priv b hb).1, ?_, rfl⟩) (fun x hx hn => ⟨?_, rfl⟩) (Fle.refl _) (fun p hq => ?_) (fun p hq => ⟨rfl, ?_⟩) hpre
  · have := (X.priv b hb).2.1
    rwa [Fz.put_ne _ _ (hp b hb)] at this
  · rcases (X.live x hx).2 with h | ⟨o', h⟩
    · exact absurd h hn
    · exact ⟨o', by rwa [Fz.put_ne _ _ (hc x hx)] at h⟩
  · rcases List.mem_cons.mp hq with rfl | hq
    · exact fun e => hp _ e rfl
    · exact X.pmu p hq
  · obtain ⟨o', h⟩ := (X.ro p hq).2
    exact ⟨o', by rwa [Fz.put_ne _ _ (hr p hq)] at h⟩

theorem Mo.storeL {h' : Heap} {x : Str} {v : Value} {d : D} {t : Nat} (X : Mo C K σ F s) {m : Str → Option Value} (hm : ∀ y d, σ.vars.lookup y = some d → ∃ v, VarAt C.env s.heap m y v ∧ Rep F v d)
    (hx : C.env.kindOf x = some .local) (hs : Heap.SameBut C.env.locals s.heap h') (hn : h'.Ns C.env.locals (fun y => if y = x then some v else m y)) (hr : Rep F v d) :
    Mo C K (σ.set x d) F { s with heap := h', toks := t } := by
  have hp := X.priv _ X.ok.loc
  have hL : ∀ c ∈ C.env.cells, ∀ o, s.heap.get? c.2 = some o → h'.get? c.2 = some o := fun c hc o e => (hs.2 _ (X.ok.cne c hc)).trans e
  have ex : ∀ b o, s.heap.get? b = some o → ∃ o, h'.get? b = some o := fun b o e => by
    by_cases h : b = C.env.locals
    · subst h; obtain ⟨o, es, ep, e, r⟩ := hn; exact ⟨o, e⟩
    · exact ⟨o, (hs.2 b h).trans e⟩
  refine ⟨X.ok, X.am.other hs hp.1 hp.2.1 (fun p hq e => X.pmu p hq (e ▸ X.ok.loc)), fun b hb => ?_, fun c hc => ?_, ⟨_, hn, fun y dy e => ?_⟩, X.pmu, fun p hq => ?_, X.pre⟩
  · obtain ⟨h1, h2, o, h3⟩ := X.priv b hb
    exact ⟨h1, h2, ex b o h3⟩
  · obtain ⟨⟨v, o, e1, e2⟩, e3⟩ := X.live c hc
    exact ⟨⟨v, o, hL c hc _ e1, e2⟩, e3⟩
  · simp only [St.set, List.lookup_cons] at e
    by_cases hyx : y = x
    · subst hyx
      simp only [beq_self_eq_true, Option.some.injEq] at e
      subst e
      refine ⟨v, ?_, hr⟩
      unfold VarAt
      rw [hx]
      simp
    · have hb : (y == x) = false := beq_eq_false_iff_ne.mpr hyx
      simp only [hb] at e
      obtain ⟨v', e1, e2⟩ := hm y dy e
      refine ⟨v', ?_, e2⟩
      exact (e1.mono hL).imp (fun _ e => by rw [if_neg hyx]; exact e) fun _ _ e => e
  · obtain ⟨q1, o, q2⟩ := X.ro p hq
    exact ⟨q1.sameBut hs (fun e => by { have := (X.priv _ X.ok.loc).2.1; rw [e, this] at q2; cases q2 }), o, q2⟩

theorem Mo.storeC {h' : Heap} {x : Str} {c : Addr} {v : Value} {d : D} {t : Nat} (X : Mo C K σ F s)
    (hx : C.env.kindOf x = some .cell) (hc : C.env.cells.lookup x = some c) (hcp : c ∈ C.priv) (hs : Heap.SameBut c s.heap h') (hn : h'.IsCell c (some v)) (hr : Rep F v d) :
    Mo C K (σ.set x d) F { s with heap := h', toks := t } := by
  have hp := X.priv _ hcp
  have hcm := mem_of_lookup hc
  obtain ⟨m, hns, hm⟩ := X.loc
  have hLc : C.env.locals ≠ c := fun e => X.ok.cne _ hcm e.symm
  have ex : ∀ b o, s.heap.get? b = some o → ∃ o, h'.get? b = some o := fun b o e => by
    by_cases h : b = c
    · subst h; obtain ⟨o, e, r⟩ := hn; exact ⟨o, e⟩
    · exact ⟨o, (hs.2 b h).trans e⟩
  refine ⟨X.ok, X.am.other hs hp.1 hp.2.1 (fun p hq e => X.pmu p hq (e ▸ hcp)), fun b hb => ?_, fun y hy => ?_, ⟨m, hns.sameBut hs hLc, fun y dy e => ?_⟩, X.pmu, fun p hq => ?_, X.pre⟩
  · obtain ⟨h1, h2, o, h3⟩ := X.priv b hb
    exact ⟨h1, h2, ex b o h3⟩
  · by_cases e : y.2 = c
    · refine ⟨?_, ?_⟩
      · rw [e]; exact ⟨_, hn⟩
      · exact Or.inl (e ▸ hcp)
    · obtain ⟨⟨v, o, e1, e2⟩, e3⟩ := X.live y hy
      exact ⟨⟨v, o, (hs.2 _ e).trans e1, e2⟩, e3⟩
  · simp only [St.set, List.lookup_cons] at e
    by_cases hyx : y = x
    · subst hyx
      simp only [beq_self_eq_true, Option.some.injEq] at e
      subst e
      refine ⟨v, ?_, hr⟩
      unfold VarAt
      rw [hx]
      exact ⟨c, hc, hn⟩
    · have hb : (y == x) = false := beq_eq_false_iff_ne.mpr hyx
      simp only [hb] at e
      obtain ⟨v', e1, e2⟩ := hm y dy e
      refine ⟨v', ?_, e2⟩
      exact e1.imp (fun _ e => e) fun c' f1 ⟨o, f2, f3⟩ => ⟨o, (hs.2 c' (fun q => hyx (name_of_addr X.ok.apart (mem_of_lookup f1) (by rw [q]; exact hcm)))).trans f2, f3⟩
  · obtain ⟨q1, o, q2⟩ := X.ro p hq
    exact ⟨q1.sameBut hs (fun e => by { have := (X.priv _ hcp).2.1; rw [e, this] at q2; cases q2 }), o, q2⟩

theorem Am.dropExt {G : Gx} {K F : Fz} {mu : Mu} {s : Shared} {h' : Heap} {a : Addr} {mo : MO} {t : Nat} (X : Am G K ((a, mo) :: mu) F s) (hs : Heap.ExtBut a s.heap h') : Am G K mu F { s with heap := h', toks := t } := by
  obtain ⟨h1, h2, h3⟩ := X.mus (a, mo) (.head _)
  have nd := X.nd
  rw [List.map_cons, List.nodup_cons] at nd
  refine ⟨X.ok, X.base, fun b o e => hs b o (fun q => by subst q; rw [h2] at e; cases e) (X.frz b o e), X.dis, fun b o e => hs b o (fun q => by subst q; rw [h3] at e; cases e) (X.keep b o e), fun p hp => ?_, nd.2, X.gens, X.drawn, X.os⟩
  have hpa : p.1 ≠ a := fun e => nd.1 (List.mem_map.mpr ⟨p, hp, e⟩)
  obtain ⟨e1, e2⟩ := X.mus p (.tail _ hp)
  exact ⟨e1.mono (Fle.refl _) fun o e => hs _ _ hpa e, e2⟩
theorem get_of_ext {h h' : Heap} {a b : Addr} {o : Obj} (hs : Heap.ExtBut a h h') (hb : b ≠ a) (e : h.get? b = some o) : h'.get? b = h.get? b := (hs b o hb e).trans e.symm
theorem Mo.dropExt {h' : Heap} {a : Addr} {mo : MO} {mu : Mu} {t : Nat} (X : Mo C K σ F s) (hσ : σ.mu = (a, mo) :: mu) (hs : Heap.ExtBut a s.heap h') : Mo C K (σ.setMu mu) F { s with heap := h', toks := t } := by
  have A := X.am
  rw [hσ] at A
  have ha : a ∉ C.priv := X.pmu (a, mo) (by rw [hσ]; exact .head _)
  refine X.with (A.dropExt hs) (fun b hb => ⟨(X.priv b hb).1, ?_⟩) (Fle.refl _) fun p hp => X.pmu p (by rw [hσ]; exact .tail _ hp)
  obtain ⟨o, ho⟩ := (X.priv b hb).2.2
  exact get_of_ext hs (fun e => ha (e ▸ hb)) ho

theorem Mo.weak {σ' : St} (X : Mo C K σ F s) (hv : ∀ y d, σ'.vars.lookup y = some d → σ.vars.lookup y = some d) (hm : σ'.mu = σ.mu) : Mo C K σ' F s := by
  obtain ⟨m, hn, hv'⟩ := X.loc
  exact ⟨X.ok, hm ▸ X.am, X.priv, X.live, ⟨m, hn, fun x d e => hv' x d (hv _ _ e)⟩, hm ▸ X.pmu, X.ro, X.pre⟩

noncomputable def full (F : Fz) (h : Heap) (ex : List Addr) : Fz := fun a => if F a = none ∧ a ∉ ex then h.get? a else none
theorem full_some {F : Fz} {h : Heap} {ex : List Addr} {a : Addr} {o : Obj} (e : full F h ex a = some o) : F a = none ∧ a ∉ ex ∧ h.get? a = some o := by
  unfold full at e
  split at e
  · rename_i q; exact ⟨q.1, q.2, e⟩
  · cases e
theorem full_of {F : Fz} {h : Heap} {ex : List Addr} {a : Addr} {o : Obj} (h1 : F a = none) (h2 : a ∉ ex) (h3 : h.get? a = some o) : full F h ex a = some o := by
  unfold full; rw [if_pos ⟨h1, h2⟩]; exact h3
theorem full_none {F : Fz} {h : Heap} {ex : List Addr} {a : Addr} (h1 : a ∈ ex ∨ h.get? a = none) : full F h ex a = none := by
  unfold full
  split
  · rename_i q
    rcases h1 with h1 | h1
    · exact absurd h1 q.2
    · exact h1
  · rfl
theorem Am.leave {G : Gx} {K F : Fz} {mu : Mu} {s : Shared} {pas oth : Mu} (X : Am G K mu F s) (hm : mu = pas ++ oth) : Am G (full F s.heap (pas.map (·.1))) pas F s := by
  subst hm
  have nd := X.nd
  rw [List.map_append] at nd
  refine ⟨X.ok, X.base, X.frz, fun a o e => (full_some e).1, fun a o e => (full_some e).2.2, fun p hp => ?_, (List.nodup_append.mp nd).1, X.gens, X.drawn, X.os⟩
  obtain ⟨h1, h2, h3⟩ := X.mus p (List.mem_append_left _ hp)
  exact ⟨h1, h2, full_none (.inl (List.mem_map_of_mem hp))⟩
theorem Mo.back {F' : Fz} {s' : Shared} {pas oth mu' : Mu} (X : Mo C K σ F s) (hσ : σ.mu = pas ++ oth) (A : Am C.G (full F s.heap (pas.map (·.1))) mu' F' s') (hF : Fle F F') : Mo C K (σ.setMu (mu' ++ oth)) F' s' := by
  have key : ∀ a o, F a = none → a ∉ pas.map (·.1) → s.heap.get? a = some o → s'.heap.get? a = s.heap.get? a ∧ F' a = none := fun a o h1 h2 h3 => by
    have := full_of h1 h2 h3
    exact ⟨(A.keep _ _ this).trans h3.symm, A.dis _ _ this⟩
  have X0 := X.am
  rw [hσ] at X0
  have nd := X0.nd
  rw [List.map_append] at nd
  have nd' := List.nodup_append.mp nd
  have kout : ∀ a o, K a = some o → a ∉ pas.map (·.1) := fun a o e hm => by
    obtain ⟨p, hp, e'⟩ := List.mem_map.mp hm
    have := (X0.mus p (List.mem_append_left _ hp)).2.2
    rw [e', e] at this; cases this
  have kk : ∀ a o, K a = some o → s'.heap.get? a = s.heap.get? a ∧ F' a = none := fun a o e => key a o (X.am.dis _ _ e) (kout a o e) (X.am.keep _ _ e)
  have pk : ∀ a ∈ C.priv, s'.heap.get? a = s.heap.get? a ∧ F' a = none := fun a ha => by
    obtain ⟨h1, h2, o, h3⟩ := X.priv a ha
    refine key a o h1 (fun hm => ?_) h3
    obtain ⟨p, hp, e'⟩ := List.mem_map.mp hm
    exact X.pmu p (by rw [hσ]; exact List.mem_append_left _ hp) (e' ▸ ha)
  have ok : ∀ p ∈ oth, s'.heap.get? p.1 = s.heap.get? p.1 ∧ F' p.1 = none := fun p hp => by
    obtain ⟨h1, h2, h3⟩ := X0.mus p (List.mem_append_right _ hp)
    obtain ⟨o, ho⟩ := h1.some
    exact key p.1 o h2 (fun hm => nd'.2.2 _ hm _ (List.mem_map_of_mem hp) rfl) ho
  have mk : ∀ p ∈ mu', ∀ a o, F a = none → a ∉ pas.map (·.1) → s.heap.get? a = some o → p.1 ≠ a := fun p hp a o h1 h2 h3 e => by
    have := (A.mus p hp).2.2
    rw [e, full_of h1 h2 h3] at this; cases this
  have AA : Am C.G K (mu' ++ oth) F' s' := by
    refine ⟨A.ok, A.base, A.frz, fun a o e => (kk a o e).2, fun a o e => (kk a o e).1.trans (X.am.keep _ _ e), fun p hp => ?_, ?_, A.gens, A.drawn, A.os⟩
    · rcases List.mem_append.mp hp with hp | hp
      · obtain ⟨h1, h2, h3⟩ := A.mus p hp
        refine ⟨h1, h2, ?_⟩
        cases e : K p.1 with
        | none => rfl
        | some o => exact absurd rfl (mk p hp p.1 o (X.am.dis _ _ e) (kout _ _ e) (X.am.keep _ _ e))
      · obtain ⟨h1, h2, h3⟩ := X0.mus p (List.mem_append_right _ hp)
        exact ⟨h1.mono hF fun o e => (ok p hp).1.trans e, (ok p hp).2, h3⟩
    · rw [List.map_append, List.nodup_append]
      refine ⟨A.nd, nd'.2.1, fun a ha b hb e => ?_⟩
      subst e
      obtain ⟨p, hp, e1⟩ := List.mem_map.mp ha
      obtain ⟨q, hq, e2⟩ := List.mem_map.mp hb
      obtain ⟨h1, h2, h3⟩ := X0.mus q (List.mem_append_right _ hq)
      obtain ⟨o, ho⟩ := h1.some
      exact mk p hp q.1 o h2 (fun hm => nd'.2.2 _ hm _ (List.mem_map_of_mem hq) rfl) ho (e1.trans e2.symm)
  refine X.frame AA (fun a ha => ⟨(pk a ha).2, (X.priv a ha).2.1, (pk a ha).1⟩) (fun x hx hn => ?_) hF (fun p hp => ?_) (fun p hp => ?_) (X.ok.mon _ _ _ _ X.pre (Fle.refl _) hF)
  · rcases (X.live x hx).2 with h | ⟨o, h⟩
    · exact absurd h hn
    · exact ⟨⟨o, h⟩, (kk _ _ h).1⟩
  · rcases List.mem_append.mp hp with hp | hp
    · intro ha
      obtain ⟨h1, h2, o, h3⟩ := X.priv _ ha
      refine mk p hp p.1 o h1 (fun hm => ?_) h3 rfl
      obtain ⟨q, hq, e'⟩ := List.mem_map.mp hm
      exact X.pmu q (by rw [hσ]; exact List.mem_append_left _ hq) (e' ▸ ha)
    · exact X.pmu p (by rw [hσ]; exact List.mem_append_right _ hp)
  · obtain ⟨o, h⟩ := (X.ro p hp).2
    exact ⟨(kk _ _ h).1, o, h⟩
theorem Mo.preFull {ex : List Addr} (X : Mo C K σ F s) (h : ∀ a ∈ ex, K a = none) : C.pre (full F s.heap ex) F :=
  X.ok.mon _ _ _ _ X.pre (fun a o e => full_of (X.am.dis _ _ e) (fun hm => by rw [h a hm] at e; cases e) (X.am.keep _ _ e)) (Fle.refl _)
theorem Mo.apartMu {p : Addr × MO} (X : Mo C K σ F s) (hp : p ∈ σ.mu) : (∀ x ∈ C.env.cells, x.2 ≠ p.1) ∧ (∀ q ∈ C.ro, q.1 ≠ p.1) := by
  refine ⟨fun x hx e => ?_, fun q hq e => ?_⟩
  · rcases (X.live x hx).2 with h | ⟨o, h⟩
    · exact X.pmu p hp (e ▸ h)
    · have := (X.am.mus p hp).2.2
      rw [← e, h] at this; cases this
  · obtain ⟨o, h⟩ := (X.ro q hq).2
    have := (X.am.mus p hp).2.2
    rw [← e, h] at this; cases this
end
end Mine
end

section
set_option Elab.async false
set_option linter.unusedVariables false
namespace Mine
open PySem PySem.W PyProof.Rows PySem.Calls

noncomputable def Ev (C : Cx) (σ : St) (e : Expr) (d : D) : Prop :=
  ∀ (K F : Fz) (s : Shared) (Q : Value → Shared → Prop) (E : Value → Shared → Prop), Mo C K σ F s →
    (∀ F' v s', Mo C K σ F' s' → Fle F F' → Rep F' v d → Q v s') → wpAny C.G.M C.A (eval e C.env) Q E s

noncomputable def EvT (C : Cx) (σ : St) (e : Expr) (b : Bool) : Prop :=
  ∀ (K F : Fz) (s : Shared) (Q : Bool → Shared → Prop) (E : Value → Shared → Prop), Mo C K σ F s →
    (∀ F' s', Mo C K σ F' s' → Fle F F' → Q b s') → wpAny C.G.M C.A (isTrue e C.env (eval e C.env)) Q E s

noncomputable def EvX (C : Cx) (σ : St) (e : Expr) (R : D → Mu → Prop) : Prop :=
  ∀ (K F : Fz) (s : Shared) (Q : Value → Shared → Prop) (E : Value → Shared → Prop), Mo C K σ F s →
    (∀ F' v s' d mu, R d mu → Mo C K (σ.setMu mu) F' s' → Fle F F' → Rep F' v d → Q v s') → wpAny C.G.M C.A (eval e C.env) Q E s

noncomputable def NewL (σ : St) (ds : List D) (d : D) (mu : Mu) : Prop := ∃ a, d = .ref a ∧ mu = (a, .list ds) :: σ.mu
noncomputable abbrev EvN (C : Cx) (σ : St) (e : Expr) (ds : List D) : Prop := EvX C σ e (NewL σ ds)

theorem Ev.of_new {C : Cx} {σ : St} {e : Expr} {ds : List D} (h : EvN C σ e ds) : Ev C σ e (.list ds) := fun K F s Q E X hQ =>
  h K F s Q E X fun F' v s' d mu ⟨a, e1, e2⟩ X' g r => by
    subst e1 e2
    obtain ⟨o, ho, ⟨o', vs, h1, h2, h3⟩, hF, X''⟩ := X'.freeze rfl
    have g' : Fle F' (F'.put a o) := Fle.put hF o
    refine hQ _ _ _ X'' (g.trans g') ?_
    rw [ho] at h1
    cases h1
    cases r.ref_inv
    exact .list (Fz.put_self _ _ _) h2 (h3.mono g')
theorem EvX.of {C : Cx} {σ : St} {e : Expr} {d : D} (h : Ev C σ e d) : EvX C σ e (fun d' mu => d' = d ∧ mu = σ.mu) := fun K F s Q E X hQ =>
  h K F s Q E X fun F' v s' X' g r => hQ F' v s' d σ.mu ⟨rfl, rfl⟩ X' g r
theorem EvX.mono {C : Cx} {σ : St} {e : Expr} {R R' : D → Mu → Prop} (h : EvX C σ e R) (hR : ∀ d mu, R d mu → R' d mu) : EvX C σ e R' := fun K F s Q E X hQ =>
  h K F s Q E X fun F' v s' d mu r => hQ F' v s' d mu (hR d mu r)
theorem Ev.cast {C : Cx} {σ : St} {e : Expr} {d d' : D} (h : Ev C σ e d) (hd : d = d') : Ev C σ e d' := hd ▸ h
theorem EvT.cast {C : Cx} {σ : St} {e : Expr} {d d' : Bool} (h : EvT C σ e d) (hd : d = d') : EvT C σ e d' := hd ▸ h
theorem EvN.cast {C : Cx} {σ : St} {e : Expr} {d d' : List D} (h : EvN C σ e d) (hd : d = d') : EvN C σ e d' := hd ▸ h

section
variable {C : Cx} {σ : St}

theorem Ev.int {i : Int} {k : Nat} {p : Pos} : Ev C σ (.Constant (.int i) k p) (.int i) := fun K F s Q E X hQ =>
  wpAny_Constant_int (hQ F _ _ (X.toks _) (Fle.refl _) (.int _ _))
theorem Ev.bool {i : Bool} {k : Nat} {p : Pos} : Ev C σ (.Constant (.bool i) k p) (.bool i) := fun K F s Q E X hQ =>
  wpAny_Constant_bool (hQ F _ _ X (Fle.refl _) (.bool _))
theorem Ev.none {k : Nat} {p : Pos} : Ev C σ (.Constant .none k p) .none := fun K F s Q E X hQ =>
  wpAny_Constant_none (hQ F _ _ X (Fle.refl _) .none)

theorem Ev.name {x : Str} {p : Pos} {d : D} (hx : σ.vars.lookup x = some d) (h1 : (x == ("__debug__" : Str)) = false := by decide) (h2 : (x == ("__classdict__" : Str)) = false := by decide) : Ev C σ (.Name x p) d := fun K F s Q E X hQ => by
  obtain ⟨m, hn, hm⟩ := X.loc
  obtain ⟨v, hv, hr⟩ := hm x d hx
  refine wpAny_Name ?_ h1
  have fin := hQ F v s X (Fle.refl _) hr
  unfold VarAt at hv
  split at hv
  · rename_i e; exact wpAny_loadName_local X.ok.fn e hn hv fin
  · rename_i e; obtain ⟨c, e1, e2⟩ := hv; exact wpAny_loadName_cell X.ok.fn e e1 e2 fin
  · rename_i e; obtain ⟨c, e1, e2⟩ := hv; exact wpAny_loadName_free X.ok.fn e e1 e2 fin h2
  · exact hv.elim

theorem Mo.nsg {K F : Fz} {s : Shared} (X : Mo C K σ F s) : s.heap.Ns C.env.globals C.G.mg := by
  rw [X.ok.gl]; exact X.am.ns
theorem Mo.nsb {K F : Fz} {s : Shared} (X : Mo C K σ F s) : s.heap.Ns C.env.builtins C.G.mb := by
  rw [X.ok.bu]; exact X.am.nsb

theorem gName {K F : Fz} {s : Shared} {Q : Value → Shared → Prop} {E : Value → Shared → Prop} {x : Str} {p : Pos} {v : Value} (X : Mo C K σ F s) (hk : C.env.kindOf x = some .globalImplicit) (hv : C.G.mg x = some v) (h : Q v s)
    (h1 : (x == ("__debug__" : Str)) = false := by decide) : wpAny C.G.M C.A (eval (.Name x p) C.env) Q E s :=
  Name_function_global X.ok.fn hk (loadGlobal_global X.nsg hv h) h1
theorem bName {K F : Fz} {s : Shared} {Q : Value → Shared → Prop} {E : Value → Shared → Prop} {x : Str} {p : Pos} {v : Value} (X : Mo C K σ F s) (hk : C.env.kindOf x = some .globalImplicit) (hn : C.G.mg x = none) (hv : C.G.mb x = some v) (h : Q v s)
    (h1 : (x == ("__debug__" : Str)) = false := by decide) : wpAny C.G.M C.A (eval (.Name x p) C.env) Q E s :=
  Name_function_global X.ok.fn hk (loadGlobal_builtin X.nsg hn X.nsb hv h) h1
theorem Ev.glob {x : Str} {p : Pos} {a : Addr} (hk : C.env.kindOf x = some .globalImplicit) (hv : C.G.mg x = some (.ref a)) (h1 : (x == ("__debug__" : Str)) = false := by decide) : Ev C σ (.Name x p) (.ref a) :=
  fun K F s Q E X hQ => gName X hk hv (hQ F _ s X (Fle.refl _) (.ref a)) h1

noncomputable def OpX (C : Cx) (σ : St) (t : Value → Value → Sem Value) (d1 d2 : D) (R : D → Mu → Prop) : Prop :=
  ∀ (K F : Fz) (s : Shared) (v1 v2 : Value) (Q : Value → Shared → Prop) (E : Value → Shared → Prop), Mo C K σ F s → Rep F v1 d1 → Rep F v2 d2 →
    (∀ F' v s' d mu, R d mu → Mo C K (σ.setMu mu) F' s' → Fle F F' → Rep F' v d → Q v s') → wpAny C.G.M C.A (t v1 v2) Q E s
noncomputable def OpSem (C : Cx) (σ : St) (t : Value → Value → Sem Value) (d1 d2 d : D) : Prop :=
  ∀ (K F : Fz) (s : Shared) (v1 v2 : Value) (Q : Value → Shared → Prop) (E : Value → Shared → Prop), Mo C K σ F s → Rep F v1 d1 → Rep F v2 d2 →
    (∀ F' v s', Mo C K σ F' s' → Fle F F' → Rep F' v d → Q v s') → wpAny C.G.M C.A (t v1 v2) Q E s

theorem Ev.bin {l r : Expr} {op : Operator} {p : Pos} {d1 d2 d : D} (hl : Ev C σ l d1) (hr : Ev C σ r d2) (ho : OpSem C σ (binaryOp op) d1 d2 d) : Ev C σ (.BinOp l op r p) d := fun K F s Q E X hQ =>
  wpAny_BinOp (hl K F s _ E X fun F1 v1 s1 X1 g1 r1 => hr K F1 s1 _ E X1 fun F2 v2 s2 X2 g2 r2 =>
    ho K F2 s2 v1 v2 Q E X2 (r1.mono g2) r2 fun F3 v s3 X3 g3 r3 => hQ F3 v s3 X3 ((g1.trans g2).trans g3) r3)
theorem EvX.bin {l r : Expr} {op : Operator} {p : Pos} {d1 d2 : D} {R : D → Mu → Prop} (hl : Ev C σ l d1) (hr : Ev C σ r d2) (ho : OpX C σ (binaryOp op) d1 d2 R) : EvX C σ (.BinOp l op r p) R := fun K F s Q E X hQ =>
  wpAny_BinOp (hl K F s _ E X fun F1 v1 s1 X1 g1 r1 => hr K F1 s1 _ E X1 fun F2 v2 s2 X2 g2 r2 =>
    ho K F2 s2 v1 v2 Q E X2 (r1.mono g2) r2 fun F3 v s3 d mu hR X3 g3 r3 => hQ F3 v s3 d mu hR X3 ((g1.trans g2).trans g3) r3)
theorem EvX.binX {l r : Expr} {op : Operator} {p : Pos} {R1 R : D → Mu → Prop} {R2 : D → Mu → D → Mu → Prop} (hl : EvX C σ l R1) (hr : ∀ d1 mu1, R1 d1 mu1 → EvX C (σ.setMu mu1) r (R2 d1 mu1))
    (ho : ∀ d1 mu1 d2 mu2, R1 d1 mu1 → R2 d1 mu1 d2 mu2 → OpX C (σ.setMu mu2) (binaryOp op) d1 d2 R) : EvX C σ (.BinOp l op r p) R := fun K F s Q E X hQ =>
  wpAny_BinOp (hl K F s _ E X fun F1 v1 s1 d1 mu1 h1 X1 g1 r1 => hr d1 mu1 h1 K F1 s1 _ E X1 fun F2 v2 s2 d2 mu2 h2 X2 g2 r2 =>
    ho d1 mu1 d2 mu2 h1 h2 K F2 s2 v1 v2 Q E X2 (r1.mono g2) r2 fun F3 v s3 d mu hR X3 g3 r3 => hQ F3 v s3 d mu hR X3 ((g1.trans g2).trans g3) r3)

theorem Op.add {a b : Int} : OpSem C σ (binaryOp .Add) (.int a) (.int b) (.int (a + b)) := fun K F s v1 v2 Q E X r1 r2 hQ => by
  obtain ⟨t, rfl⟩ := r1.int_inv; obtain ⟨u, rfl⟩ := r2.int_inv
  exact add_int (hQ F _ _ (X.toks _) (Fle.refl _) (.int _ _))
theorem Op.sub {a b : Int} : OpSem C σ (binaryOp .Sub) (.int a) (.int b) (.int (a - b)) := fun K F s v1 v2 Q E X r1 r2 hQ => by
  obtain ⟨t, rfl⟩ := r1.int_inv; obtain ⟨u, rfl⟩ := r2.int_inv
  exact sub_int (hQ F _ _ (X.toks _) (Fle.refl _) (.int _ _))
theorem Op.mul {a b : Int} (hm : IntMulOk a b) : OpSem C σ (binaryOp .Mult) (.int a) (.int b) (.int (a * b)) := fun K F s v1 v2 Q E X r1 r2 hQ => by
  obtain ⟨t, rfl⟩ := r1.int_inv; obtain ⟨u, rfl⟩ := r2.int_inv
  exact mul_int (hQ F _ _ (X.toks _) (Fle.refl _) (.int _ _)) hm
theorem Op.mod {a b : Int} (hb : b ≠ 0) : OpSem C σ (binaryOp .Mod) (.int a) (.int b) (.int (a.fmod b)) := fun K F s v1 v2 Q E X r1 r2 hQ => by
  obtain ⟨t, rfl⟩ := r1.int_inv; obtain ⟨u, rfl⟩ := r2.int_inv
  exact mod_int' hb (hQ F _ _ (X.toks _) (Fle.refl _) (.int _ _))
theorem Op.div {a b : Int} (hb : b ≠ 0) (hs : b.natAbs < 1073741824) : OpSem C σ (binaryOp .FloorDiv) (.int a) (.int b) (.int (a.fdiv b)) := fun K F s v1 v2 Q E X r1 r2 hQ => by
  obtain ⟨t, rfl⟩ := r1.int_inv; obtain ⟨u, rfl⟩ := r2.int_inv
  exact floordiv_int hb (hQ F _ _ (X.toks _) (Fle.refl _) (.int _ _)) (Or.inl (PyProof.noPylong_small hs))

noncomputable def Items (C : Cx) (σ : St) (d : D) (ds : List D) : Prop := d = .list ds ∨ ∃ a, d = .ref a ∧ ((a, MO.list ds) ∈ σ.mu ∨ (a, MO.list ds) ∈ C.ro)
theorem Items.list {ds : List D} : Items C σ (.list ds) ds := .inl rfl
theorem Items.mu {a : Addr} {ds : List D} (h : (a, MO.list ds) ∈ σ.mu) : Items C σ (.ref a) ds := .inr ⟨a, rfl, .inl h⟩
theorem Items.ro {a : Addr} {ds : List D} (h : (a, MO.list ds) ∈ C.ro) : Items C σ (.ref a) ds := .inr ⟨a, rfl, .inr h⟩

theorem MO.At.isL {F : Fz} {h : Heap} {a : Addr} {ds : List D} (x : (MO.list ds).At F h a) : ∃ vs n, IsL h a vs.toArray n ∧ RepL F vs ds ∧ vs.length ≤ 100000 := by
  obtain ⟨o, vs, h1, ⟨h2, n, rfl⟩, h3⟩ := x
  exact ⟨vs, n, h1, h3, h2⟩
theorem Items.at {K F : Fz} {s : Shared} {v : Value} {d : D} {ds : List D} (X : Mo C K σ F s) (h : Items C σ d ds) (r : Rep F v d) :
    ∃ a vs n, v = .ref a ∧ IsL s.heap a vs.toArray n ∧ RepL F vs ds ∧ vs.length ≤ 100000 := by
  rcases h with rfl | ⟨a, rfl, h | h⟩
  · obtain ⟨a, o, vs, rfl, h1, ⟨h2, n, rfl⟩, h3⟩ := r.list_inv
    exact ⟨a, vs, n, rfl, X.am.frz _ _ h1, h3, h2⟩
  · obtain ⟨vs, n, k⟩ := (X.am.mus _ h).1.isL
    exact ⟨a, vs, n, r.ref_inv, k⟩
  · obtain ⟨vs, n, k⟩ := (X.ro _ h).1.isL
    exact ⟨a, vs, n, r.ref_inv, k⟩
theorem tup_at {K F : Fz} {s : Shared} {v : Value} {ds : List D} (X : Mo C K σ F s) (r : Rep F v (.tup ds)) :
    ∃ a vs n, v = .ref a ∧ s.heap.get? a = some { cls := .type "tuple", data := .seq vs.toArray n } ∧ RepL F vs ds ∧ vs.length ≤ 100000 := by
  obtain ⟨a, o, vs, rfl, h1, ⟨h2, n, rfl⟩, h3⟩ := r.tup_inv
  exact ⟨a, vs, n, rfl, X.am.frz _ _ h1, h3, h2⟩

theorem Mo.newList {K F : Fz} {s : Shared} (X : Mo C K σ F s) {vs : List Value} {ds : List D} (hr : RepL F vs ds) (hl : vs.length ≤ 100000) (t : Nat) :
    Mo C K (σ.setMu ((s.heap.objs.size, .list ds) :: σ.mu)) F { s with heap := s.heap.push { cls := .type "list", data := .seq vs.toArray }, toks := t } :=
  X.allocMu _ _ t ⟨_, vs, Heap.get?_push_size _ rfl, ⟨hl, 0, rfl⟩, hr⟩
theorem Mo.newTup {K F : Fz} {s : Shared} (X : Mo C K σ F s) {vs : List Value} {ds : List D} (hr : RepL F vs ds) (hl : vs.length ≤ 100000) (t : Nat) :
    ∃ F', Fle F F' ∧ Rep F' (.ref s.heap.objs.size) (.tup ds) ∧ Mo C K σ F' { s with heap := s.heap.push { cls := .type "tuple", data := .seq vs.toArray }, toks := t } := by
  have g : Fle F (F.put s.heap.objs.size { cls := .type "tuple", data := .seq vs.toArray }) := Fle.put X.am.fresh _
  exact ⟨_, g, .tup (Fz.put_self _ _ _) ⟨hl, 0, rfl⟩ (hr.mono g), X.alloc _ rfl t⟩
theorem fitsSz {n : Nat} (h : n ≤ 200000) : n ≤ sizeLine := by rw [sizeLine_eq]; lia

theorem OpN.concat {d1 d2 : D} {ds1 ds2 : List D} (i1 : Items C σ d1 ds1) (i2 : Items C σ d2 ds2) (hz : ds1.length + ds2.length ≤ 100000) : OpX C σ (binaryOp .Add) d1 d2 (NewL σ (ds1 ++ ds2)) := fun K F s v1 v2 Q E X r1 r2 hQ => by
  obtain ⟨a, vs, n, rfl, h1, h2, h3⟩ := i1.at X r1
  obtain ⟨b, ws, m, rfl, k1, k2, k3⟩ := i2.at X r2
  refine P.add_list h1 k1 ?_ (fitsSz (by simp only [List.size_toArray]; lia))
  rw [show vs.toArray ++ ws.toArray = (vs ++ ws).toArray by simp]
  have l1 := h2.length
  have l2 := k2.length
  exact hQ F _ _ _ _ ⟨_, rfl, rfl⟩ (X.newList (h2.append k2) (by rw [List.length_append]; lia) _) (Fle.refl _) (.ref _)

noncomputable def EvL (C : Cx) (σ : St) (es : List Expr) (ds : List D) : Prop :=
  ∀ (pos : Pos) (K F : Fz) (s : Shared) (Q : List Value → Shared → Prop) (E : Value → Shared → Prop), Mo C K σ F s →
    (∀ F' vs s', Mo C K σ F' s' → Fle F F' → RepL F' vs ds → Q vs s') → wpAny C.G.M C.A (spliced (backTo pos (starEach es C.env))) Q E s
theorem EvL.nil : EvL C σ [] [] := fun pos K F s Q E X hQ => wpAny_items_nil (hQ F _ _ X (Fle.refl _) .nil)
theorem EvL.cons {e : Expr} {es : List Expr} {d : D} {ds : List D} (h : Ev C σ e d) (hr : EvL C σ es ds) (he : starEach (e :: es) C.env = (false, eval e C.env) :: starEach es C.env := by rfl) : EvL C σ (e :: es) (d :: ds) := fun pos K F s Q E X hQ =>
  wpAny_items_cons (h K F s _ E X fun F1 v s1 X1 g1 r1 => hr pos K F1 s1 _ E X1 fun F2 vs s2 X2 g2 r2 => hQ F2 _ s2 X2 (g1.trans g2) (.cons (r1.mono g2) r2)) he
theorem EvN.list {es : List Expr} {pos : Pos} {ds : List D} (h : EvL C σ es ds) (hz : ds.length ≤ 100000) : EvN C σ (.List es pos) ds := fun K F s Q E X hQ =>
  wpAny_List (h pos K F s _ E X fun F' vs s' X' g r => by
    have hl := r.length
    exact ⟨fitsSz (by lia), hQ F' _ _ _ _ ⟨_, rfl, rfl⟩ (X'.newList r (by lia) _) g (.ref _)⟩)
theorem Ev.tuple {es : List Expr} {k : Nat} {pos : Pos} {ds : List D} (h : EvL C σ es ds) (hz : ds.length ≤ 100000) : Ev C σ (.Tuple es k pos) (.tup ds) := fun K F s Q E X hQ =>
  wpAny_Tuple (h pos K F s _ E X fun F' vs s' X' g r => by
    have hl := r.length
    obtain ⟨F2, g2, r2, X2⟩ := X'.newTup r (by lia) s'.toks
    exact ⟨fitsSz (by lia), hQ F2 _ _ X2 (g.trans g2) r2⟩)

noncomputable abbrev CmpSem (C : Cx) (σ : St) (op : CmpOp) (d1 d2 : D) (b : Bool) : Prop := OpSem C σ (compareOp op) d1 d2 (.bool b)

theorem Ev.cmp {l r : Expr} {op : CmpOp} {p : Pos} {d1 d2 : D} {b : Bool} (hl : Ev C σ l d1) (hr : Ev C σ r d2) (ho : CmpSem C σ op d1 d2 b) (hm : behindInMarks op r = false := by with_unfolding_all rfl) :
    Ev C σ (.Compare l [op] [r] p) (.bool b) := fun K F s Q E X hQ =>
  wpAny_Compare1 (hl K F s _ E X fun F1 v1 s1 X1 g1 r1 => hr K F1 s1 _ E X1 fun F2 v2 s2 X2 g2 r2 =>
    ho K F2 s2 v1 v2 Q E X2 (r1.mono g2) r2 fun F3 v s3 X3 g3 r3 => hQ F3 v s3 X3 ((g1.trans g2).trans g3) r3) hm
theorem EvT.cmp {l r : Expr} {op : CmpOp} {p : Pos} {d1 d2 : D} {b : Bool} (hl : Ev C σ l d1) (hr : Ev C σ r d2) (ho : CmpSem C σ op d1 d2 b) (hm : behindInMarks op r = false := by with_unfolding_all rfl) :
    EvT C σ (.Compare l [op] [r] p) b := fun K F s Q E X hQ =>
  wpAny_isTrue_Compare1 (hl K F s _ E X fun F1 v1 s1 X1 g1 r1 => hr K F1 s1 _ E X1 fun F2 v2 s2 X2 g2 r2 =>
    ho K F2 s2 v1 v2 _ E X2 (r1.mono g2) r2 fun F3 v s3 X3 g3 r3 => by
      cases r3.bool_inv
      exact wpAny_truthy_bool (hQ F3 s3 X3 ((g1.trans g2).trans g3))) hm

theorem Cm.lt {a b : Int} : CmpSem C σ .Lt (.int a) (.int b) (decide (a < b)) := fun K F s v1 v2 Q E X r1 r2 hQ => by
  obtain ⟨t, rfl⟩ := r1.int_inv; obtain ⟨u, rfl⟩ := r2.int_inv
  exact lt_int (hQ F _ _ X (Fle.refl _) (.bool _))
theorem Cm.gt {a b : Int} : CmpSem C σ .Gt (.int a) (.int b) (decide (b < a)) := fun K F s v1 v2 Q E X r1 r2 hQ => by
  obtain ⟨t, rfl⟩ := r1.int_inv; obtain ⟨u, rfl⟩ := r2.int_inv
  exact gt_int (hQ F _ _ X (Fle.refl _) (.bool _))
theorem Cm.eq {a b : Int} : CmpSem C σ .Eq (.int a) (.int b) (a == b) := fun K F s v1 v2 Q E X r1 r2 hQ => by
  obtain ⟨t, rfl⟩ := r1.int_inv; obtain ⟨u, rfl⟩ := r2.int_inv
  exact eq_int (hQ F _ _ X (Fle.refl _) (.bool _))
theorem Cm.ne {a b : Int} : CmpSem C σ .NotEq (.int a) (.int b) (a != b) := fun K F s v1 v2 Q E X r1 r2 hQ => by
  obtain ⟨t, rfl⟩ := r1.int_inv; obtain ⟨u, rfl⟩ := r2.int_inv
  exact ne_int (hQ F _ _ X (Fle.refl _) (.bool _))

theorem EvT.not {x : Expr} {p : Pos} {b : Bool} (h : EvT C σ x b) : EvT C σ (.UnaryOp .Not x p) (!b) := fun K F s Q E X hQ =>
  wpAny_isTrue_Not (h K F s _ E X fun F' s' X' g => hQ F' s' X' g)
theorem EvT.and {x y : Expr} {p : Pos} {a b : Bool} (hx : EvT C σ x a) (hy : a = true → EvT C σ y b) : EvT C σ (.BoolOp .And [x, y] p) (a && b) := fun K F s Q E X hQ => by
  refine wpAny_isTrue_BoolOp (wpAny_allTrue_And_cons (hx K F s _ E X fun F1 s1 X1 g1 => ?_))
  cases a with
  | false => exact hQ F1 s1 X1 g1
  | true =>
    refine wpAny_allTrue_And_cons (hy rfl K F1 s1 _ E X1 fun F2 s2 X2 g2 => ?_)
    have q := hQ F2 s2 X2 (g1.trans g2)
    cases b with
    | false => exact q
    | true => exact wpAny_allTrue_And_nil q
theorem EvT.or {x y : Expr} {p : Pos} {a b : Bool} (hx : EvT C σ x a) (hy : a = false → EvT C σ y b) : EvT C σ (.BoolOp .Or [x, y] p) (a || b) := fun K F s Q E X hQ => by
  refine wpAny_isTrue_BoolOp (wpAny_allTrue_Or_cons (hx K F s _ E X fun F1 s1 X1 g1 => ?_))
  cases a with
  | true => exact hQ F1 s1 X1 g1
  | false =>
    refine wpAny_allTrue_Or_cons (hy rfl K F1 s1 _ E X1 fun F2 s2 X2 g2 => ?_)
    have q := hQ F2 s2 X2 (g1.trans g2)
    cases b with
    | true => exact q
    | false => exact wpAny_allTrue_Or_nil q
theorem EvT.bool {e : Expr} {b : Bool} (h : Ev C σ e (.bool b)) (he : ∀ whole, isTrue e C.env whole = (do let v ← whole; standAt e.pos; holding [v] (truthy v)) := by intro _; rfl) : EvT C σ e b := fun K F s Q E X hQ =>
  wpAny_isTrue_value (h K F s _ E X fun F' v s' X' g r => by cases r.bool_inv; exact wpAny_truthy_bool (hQ F' s' X' g)) (he _)
theorem EvT.list {e : Expr} {d : D} {ds : List D} (h : Ev C σ e d) (hi : Items C σ d ds) (he : ∀ whole, isTrue e C.env whole = (do let v ← whole; standAt e.pos; holding [v] (truthy v)) := by intro _; rfl) : EvT C σ e (!ds.isEmpty) := fun K F s Q E X hQ =>
  wpAny_isTrue_value (h K F s _ E X fun F' v s' X' g r => by
    obtain ⟨a, vs, n, rfl, h1, h2, h3⟩ := hi.at X' r
    refine wpAny_truthy_list (IsL.isList h1) (by rw [List.size_toArray]; lia) ?_
    have : vs.toArray.isEmpty = ds.isEmpty := by
      have := h2.length
      cases vs <;> cases ds <;> simp at this ⊢
    rw [this]
    exact hQ F' _ (X'.toks _) g) (he _)

theorem Ev.isNone {x : Expr} {p pc : Pos} {k : Nat} {d : D} (h : Ev C σ x d) (hd : d = .none ∨ ∃ i, d = .int i) : EvT C σ (.Compare x [.Is] [.Constant .none k pc] p) (match d with | .none => true | _ => false) := fun K F s Q E X hQ => by
  refine wpAny_isTrue_Compare1 (h K F s _ E X fun F' v s' X' g r => wpAny_Constant_none ?_) (by with_unfolding_all rfl)
  rcases hd with rfl | ⟨i, rfl⟩
  · cases r.none_inv
    exact wpAny_is_self rfl (wpAny_truthy_bool (hQ F' s' X' g))
  · obtain ⟨t, rfl⟩ := r.int_inv
    exact wpAny_is_other rfl (by intro e; cases e) (wpAny_truthy_bool (hQ F' s' X' g))
end
end Mine
end

section
set_option Elab.async false
set_option linter.unusedVariables false
namespace Mine
open PySem PySem.W PyProof.Rows PySem.Calls

section
variable {C : Cx} {σ : St}

theorem Ev.idx {value slice : Expr} {p : Pos} {d x : D} {ds : List D} {k : Int} (hv : Ev C σ value d) (hi : Items C σ d ds) (hs : Ev C σ slice (.int k)) (h0 : 0 ≤ k) (hx : ds[k.toNat]? = some x)
    (ho : ∀ a t, subscripted slice false (.ref a) (.int k t) = operate [.ref a, .int k t] (getItem (.ref a) (.int k t)) := by intro _ _; with_unfolding_all rfl) : Ev C σ (.Subscript value slice p) x := fun K F s Q E X hQ => by
  refine Subscript_ (hv K F s _ E X fun F1 v1 s1 X1 g1 r1 => hs K F1 s1 _ E X1 fun F2 v2 s2 X2 g2 r2 => ?_)
  obtain ⟨a, vs, n, rfl, h1, h2, h3⟩ := hi.at X2 (r1.mono g2)
  obtain ⟨t, rfl⟩ := r2.int_inv
  obtain ⟨v, hv, hr⟩ := h2.get hx
  have hlt : k.toNat < ds.length := (List.getElem?_eq_some_iff.mp hx).1
  have hl := h2.length
  exact tail_any (IsL.isList h1).typeIs slot_list_getitem.lookup (wpAny_getItem_list (IsL.isList h1) h0 (by lia) (by simpa using hv) (hQ F2 v s2 X2 (g1.trans g2) hr)) (ho a t)

theorem Ev.idxNeg {value slice : Expr} {p : Pos} {d x : D} {ds : List D} {k : Int} (hv : Ev C σ value d) (hi : Items C σ d ds) (hs : Ev C σ slice (.int k)) (h0 : k < 0) (hk : -(ds.length : Int) ≤ k) (hx : ds[(k + ds.length).toNat]? = some x)
    (ho : ∀ a t, subscripted slice false (.ref a) (.int k t) = operate [.ref a, .int k t] (getItem (.ref a) (.int k t)) := by intro _ _; with_unfolding_all rfl) : Ev C σ (.Subscript value slice p) x := fun K F s Q E X hQ => by
  refine Subscript_ (hv K F s _ E X fun F1 v1 s1 X1 g1 r1 => hs K F1 s1 _ E X1 fun F2 v2 s2 X2 g2 r2 => ?_)
  obtain ⟨a, vs, n, rfl, h1, h2, h3⟩ := hi.at X2 (r1.mono g2)
  obtain ⟨t, rfl⟩ := r2.int_inv
  have hl := h2.length
  obtain ⟨v, hv, hr⟩ := h2.get hx
  refine tail_any (IsL.isList h1).typeIs slot_list_getitem.lookup (wpAny_getItem_list_neg (IsL.isList h1) h0 ?_ ?_ ?_ (hQ F2 v s2 X2 (g1.trans g2) hr)) (ho a t)
  · rw [List.size_toArray, hl]; exact hk
  · lia
  · rw [List.size_toArray, hl]; simpa using hv

theorem Ev.tupIdx {value slice : Expr} {p : Pos} {x : D} {ds : List D} {k : Int} (hv : Ev C σ value (.tup ds)) (hs : Ev C σ slice (.int k)) (h0 : 0 ≤ k) (hx : ds[k.toNat]? = some x)
    (ho : ∀ a t, subscripted slice false (.ref a) (.int k t) = operate [.ref a, .int k t] (getItem (.ref a) (.int k t)) := by intro _ _; with_unfolding_all rfl) : Ev C σ (.Subscript value slice p) x := fun K F s Q E X hQ => by
  refine Subscript_ (hv K F s _ E X fun F1 v1 s1 X1 g1 r1 => hs K F1 s1 _ E X1 fun F2 v2 s2 X2 g2 r2 => ?_)
  obtain ⟨a, vs, n, rfl, h1, h2, h3⟩ := tup_at X2 (r1.mono g2)
  obtain ⟨t, rfl⟩ := r2.int_inv
  obtain ⟨v, hv, hr⟩ := h2.get hx
  have hlt : k.toNat < ds.length := (List.getElem?_eq_some_iff.mp hx).1
  have hl := h2.length
  refine item_tupleT (l := vs) (j := k.toNat) ⟨_, h1, rfl, _, rfl⟩ (by lia) (by lia) (seqIndex_of h0 (by lia)) hv (hQ F2 v s2 X2 (g1.trans g2) hr) (ho a t)

noncomputable def EvP (C : Cx) (σ : St) (e : Option Expr) (k : Option Int) : Prop :=
  ∀ (K F : Fz) (s : Shared) (Q : Value → Shared → Prop) (E : Value → Shared → Prop), Mo C K σ F s →
    (∀ F' v s', Mo C K σ F' s' → Fle F F' → IsPart v k → Q v s') → wpAny C.G.M C.A (evalPart e C.env) Q E s
theorem EvP.none : EvP C σ none none := fun K F s Q E X hQ => by
  rw [evalPart_none]
  exact wpAny_pure (hQ F _ s X (Fle.refl _) .none)
theorem EvP.some {e : Expr} {k : Int} (h : Ev C σ e (.int k)) : EvP C σ (some e) (some k) := fun K F s Q E X hQ => by
  rw [evalPart_some]
  refine h K F s _ E X fun F' v s' X' g r => ?_
  obtain ⟨t, rfl⟩ := r.int_inv
  exact hQ F' _ s' X' g (.int _ _)

theorem EvN.slice0 {value : Expr} {lower upper step : Option Expr} {p pos : Pos} {d : D} {ds ds' : List D} {lo hi st : Option Int} (hv : Ev C σ value d) (hi' : Items C σ d ds) (hl : EvP C σ lower lo) (hu : EvP C σ upper hi) (hst : EvP C σ step st) (h0 : st ≠ some 0)
    (hp : ∀ (F : Fz) (vs : List Value), RepL F vs ds → vs.length ≤ 100000 → ∃ ws, slicePick vs.toArray lo hi st = ws.toArray ∧ RepL F ws ds')
    (ho : ∀ a i, ∃ ops, subscripted (.Slice lower upper step p) false (.ref a) (.ref i) = operate ops (getItem (.ref a) (.ref i)) := by intro _ _; exact ⟨_, by with_unfolding_all rfl⟩) : EvN C σ (.Subscript value (.Slice lower upper step p) pos) ds' := fun K F s Q E X hQ => by
  refine Subscript_ (hv K F s _ E X fun F1 v1 s1 X1 g1 r1 => wpAny_Slice (hl K F1 s1 _ E X1 fun F2 v2 s2 X2 g2 r2 => hu K F2 s2 _ E X2 fun F3 v3 s3 X3 g3 r3 => hst K F3 s3 _ E X3 fun F4 v4 s4 X4 g4 r4 => ?_))
  obtain ⟨a, vs, n, rfl, h1, h2, h3⟩ := hi'.at X4 (((r1.mono g2).mono g3).mono g4)
  have hL : (s4.heap.push { cls := .type "slice", data := .fields #[v2, v3, v4] }).IsList a vs.toArray := (IsL.isList h1).push _
  obtain ⟨ws, e1, e2⟩ := hp F4 vs h2 h3
  have hz := slicePick_size_le vs.toArray lo hi st
  rw [e1, List.size_toArray, List.size_toArray] at hz
  refine tail_any hL.typeIs slot_list_getitem.lookup (wpAny_getItem_list_slice hL (Heap.IsSliceOf.new ..) r2 r3 r4 h0 ?_ (by rw [List.size_toArray]; exact fitsSz (by lia))) (ho _ _).choose_spec
  rw [e1]
  have X5 := X4.junk { cls := .type "slice", data := .fields #[v2, v3, v4] } s4.toks
  exact hQ F4 _ _ _ _ ⟨_, rfl, rfl⟩ (X5.newList e2 (by lia) s4.toks) (((g1.trans g2).trans g3).trans g4) (.ref _)

theorem EvN.upto {value upper : Expr} {p pos : Pos} {d : D} {ds : List D} {n : Nat} (hv : Ev C σ value d) (hi : Items C σ d ds) (hu : Ev C σ upper (.int n))
    (ho : ∀ a i, ∃ ops, subscripted (.Slice none (some upper) none p) false (.ref a) (.ref i) = operate ops (getItem (.ref a) (.ref i)) := by intro _ _; exact ⟨_, by with_unfolding_all rfl⟩) : EvN C σ (.Subscript value (.Slice none (some upper) none p) pos) (ds.take n) :=
  EvN.slice0 hv hi .none (.some hu) .none (by simp) (fun F vs h _ => ⟨vs.take n, slicePick_upto' _ _, h.take n⟩) ho
theorem EvN.from {value lower : Expr} {p pos : Pos} {d : D} {ds : List D} {n : Nat} (hv : Ev C σ value d) (hi : Items C σ d ds) (hu : Ev C σ lower (.int n))
    (ho : ∀ a i, ∃ ops, subscripted (.Slice (some lower) none none p) false (.ref a) (.ref i) = operate ops (getItem (.ref a) (.ref i)) := by intro _ _; exact ⟨_, by with_unfolding_all rfl⟩) : EvN C σ (.Subscript value (.Slice (some lower) none none p) pos) (ds.drop n) :=
  EvN.slice0 hv hi (.some hu) .none .none (by simp) (fun F vs h _ => ⟨vs.drop n, slicePick_from' _ _, h.drop n⟩) ho
theorem EvN.copy {value : Expr} {p pos : Pos} {d : D} {ds : List D} (hv : Ev C σ value d) (hi : Items C σ d ds)
    (ho : ∀ a i, ∃ ops, subscripted (.Slice none none none p) false (.ref a) (.ref i) = operate ops (getItem (.ref a) (.ref i)) := by intro _ _; exact ⟨_, by with_unfolding_all rfl⟩) : EvN C σ (.Subscript value (.Slice none none none p) pos) ds :=
  EvN.slice0 hv hi .none .none .none (by simp) (fun F vs h _ => ⟨vs, slicePick_all _, h⟩) ho
theorem EvP.neg1 {k : Nat} {p p' : Pos} : EvP C σ (.some (.UnaryOp .USub (.Constant (.int 1) k p) p')) (.some (-1)) := by
  refine EvP.some fun K F s Q E X hQ => ?_
  refine wpAny_UnaryOp (wpAny_Constant_int ?_)
  exact neg_int (hQ F _ _ ((X.toks _).toks _) (Fle.refl _) (.int _ _))
theorem EvN.rev {value : Expr} {p pos : Pos} {d : D} {ds : List D} {k : Nat} {p1 p2 : Pos} (hv : Ev C σ value d) (hi : Items C σ d ds)
    (ho : ∀ a i, ∃ ops, subscripted (.Slice none none (.some (.UnaryOp .USub (.Constant (.int 1) k p1) p2)) p) false (.ref a) (.ref i) = operate ops (getItem (.ref a) (.ref i)) := by intro _ _; exact ⟨_, by with_unfolding_all rfl⟩) :
    EvN C σ (.Subscript value (.Slice none none (.some (.UnaryOp .USub (.Constant (.int 1) k p1) p2)) p) pos) ds.reverse :=
  EvN.slice0 hv hi .none .none .neg1 (by simp) (fun F vs h _ => ⟨vs.reverse, krv_pick _, h.reverse⟩) ho
end
end Mine
end

section
set_option Elab.async false
set_option linter.unusedVariables false
namespace Mine
open PySem PySem.W PyProof.Rows PySem.Calls

structure IterOk (G : Gx) (A : Around) (K F : Fz) (it : Addr) (ds : List D) (P : Nat → Obj → Prop) : Prop where
  item : ∀ (k : Nat) (d : D) (F' : Fz) (s : Shared) (Q : Option Value → Shared → Prop) (E : Value → Shared → Prop), Fle F F' → (∀ a o, F' a = some o → s.heap.get? a = some o) → (∀ a o, K a = some o → s.heap.get? a = some o) → ds[k]? = some d →
    (∃ o, s.heap.get? it = some o ∧ P k o) → (∀ h' v t, Heap.SameBut it s.heap h' → (∃ o, h'.get? it = some o ∧ P (k + 1) o) → Rep F' v d → Q (some v) { s with heap := h', toks := t }) → wpAny (model G.prog G.w) A (pyNext (.ref it)) Q E s
  stop : ∀ (F' : Fz) (s : Shared) (Q : Option Value → Shared → Prop) (E : Value → Shared → Prop), Fle F F' → (∀ a o, F' a = some o → s.heap.get? a = some o) → (∀ a o, K a = some o → s.heap.get? a = some o) →
    (∃ o, s.heap.get? it = some o ∧ P ds.length o) → (∀ h' t, Heap.ExtBut it s.heap h' → Q none { s with heap := h', toks := t }) → wpAny (model G.prog G.w) A (pyNext (.ref it)) Q E s
  self : ∀ (k : Nat) (s : Shared) (Q : Value → Shared → Prop) (E : Value → Shared → Prop), (∃ o, s.heap.get? it = some o ∧ P k o) → Q (.ref it) s → wpAny (model G.prog G.w) A (pyIter (.ref it)) Q E s
theorem IterOk.mono {G : Gx} {A : Around} {K K' F F' : Fz} {it : Addr} {ds : List D} {P : Nat → Obj → Prop} (I : IterOk G A K F it ds P) (hK : Fle K K') (hF : Fle F F') : IterOk G A K' F' it ds P :=
  ⟨fun k d F2 s Q E h1 h2 h3 => I.item k d F2 s Q E (hF.trans h1) h2 fun a o e => h3 a o (hK a o e), fun F2 s Q E h1 h2 h3 => I.stop F2 s Q E (hF.trans h1) h2 fun a o e => h3 a o (hK a o e), I.self⟩

noncomputable def rints (lo hi : Int) : List D := (List.range (hi - lo).toNat).map fun i : Nat => D.int (lo + i)

inductive Src (K F : Fz) : Value → List D → Prop
  | list {a : Addr} {o : Obj} {vs : List Value} {ds : List D} : (F a = some o ∨ K a = some o) → LstO o vs → RepL F vs ds → Src K F (.ref a) ds
  | rng {a : Addr} {o : Obj} {lo hi : Int} : F a = some o → RngO o lo hi → (-1000000 ≤ lo ∧ lo ≤ 1000000 ∧ -1000000 ≤ hi ∧ hi ≤ 1000000) → Src K F (.ref a) (rints lo hi)

theorem pyIter_src {G : Gx} {A : Around} {K F : Fz} {v : Value} {ds : List D} {s : Shared} {Q : Value → Shared → Prop} {E : Value → Shared → Prop} (hh : A.handled = none) (S : Src K F v ds)
    (hF : ∀ a o, F a = some o → s.heap.get? a = some o) (hK : ∀ a o, K a = some o → s.heap.get? a = some o)
    (h : ∀ o P, o.isFreed = false → P 0 o → (∀ A : Around, A.handled = none → IterOk G A K F s.heap.objs.size ds P) → Q (.ref s.heap.objs.size) { s with heap := s.heap.push o }) : wpAny (model G.prog G.w) A (pyIter v) Q E s := by
  cases S with
  | @list a o vs ds ha hl hr =>
    obtain ⟨hlen, n, rfl⟩ := hl
    have hget : ∀ (F' : Fz) (s : Shared), Fle F F' → (∀ a o, F' a = some o → s.heap.get? a = some o) → (∀ a o, K a = some o → s.heap.get? a = some o) → s.heap.IsList a vs.toArray := fun F' s h1 h2 h3 => by
      rcases ha with ha | ha
      · exact ⟨_, h2 _ _ (h1 _ _ ha), rfl, n, rfl⟩
      · exact ⟨_, h3 _ _ ha, rfl, n, rfl⟩
    refine wpAny_pyIter_list (hget F s (Fle.refl _) hF hK) (h _ (fun k o => o.cls = .type "list_iterator" ∧ o.data = .fields #[.ref a, .int k 0]) rfl ⟨rfl, rfl⟩ fun A' hh' => ⟨?_, ?_, fun k s Q E ⟨o, ho, hc, hd⟩ hQ => wpAny_pyIter_listiter ⟨o, ho, hc, hd⟩ hQ⟩)
    · intro k d F' s Q E h1 h2 h3 hk ⟨o, ho, hc, hd⟩ hQ
      obtain ⟨v, hv, hr'⟩ := hr.get hk
      exact wpAny_pyNext_list_item ⟨o, ho, hc, hd⟩ (hget F' s h1 h2 h3) (by simpa using hv) fun h' hit hs => hQ h' v _ hs hit (hr'.mono h1)
    · intro F' s Q E h1 h2 h3 ⟨o, ho, hc, hd⟩ hQ
      refine wpAny_pyNext_list_end hh' ⟨o, ho, hc, hd⟩ (hget F' s h1 h2 h3) ?_ fun h' hs => hQ h' _ hs
      rw [← hr.length]; simp
  | @rng a o lo hi ha ho hb =>
    obtain ⟨t, u, v, rfl⟩ := ho
    have hsz : Builtin.Range.rangeSize lo hi 1 = ((hi - lo).toNat : Int) := by rw [rangeSize_one]; split <;> lia
    refine wpAny_pyIter_range (a := lo) (b := hi) (c := 1) (t := t) (u := u) (v := v) (hF _ _ ha) (small_one (by lia) (by lia) (by lia) (by lia)) (h _ (fun k o => o = { cls := .type "range_iterator", dict := none, data := .fields #[rawInt (lo + k), rawInt ((hi - lo).toNat - k : Int), rawInt 1], slots := #[] }) rfl ?_ fun A' hh' => ⟨?_, ?_, fun k s Q E ⟨o, ho, hd⟩ hQ => wpAny_pyIter_rangeiter (hd ▸ ho) hQ⟩)
    · rw [hsz]; simp
    · intro k d F' s Q E h1 h2 h3 hk ⟨o, ho, hd⟩ hQ
      subst hd
      have hk' : k < (hi - lo).toNat := by
        have := (List.getElem?_eq_some_iff.mp hk).1
        simpa [rints] using this
      have hd' : d = .int (lo + k) := by
        rw [rints, List.getElem?_map, List.getElem?_range hk'] at hk
        simpa using hk.symm
      subst hd'
      refine wpAny_pyNext_range_item ho (by lia) fun h' hit hs => hQ h' _ _ hs ⟨_, hit, ?_⟩ (.int _ _)
      rw [show lo + ((k + 1 : Nat) : Int) = lo + k + 1 by lia, show (((hi - lo).toNat : Int) - ((k + 1 : Nat) : Int)) = (hi - lo).toNat - k - 1 by lia]
    · intro F' s Q E h1 h2 h3 ⟨o, ho, hd⟩ hQ
      subst hd
      refine wpAny_pyNext_range_end hh' ho ?_ fun h' hs => hQ h' _ hs
      simp [rints]

section
variable {C : Cx} {σ : St}

noncomputable def Asg (C : Cx) (σ : St) (t : Expr) (d : D) (σ' : St) : Prop :=
  ∀ (K F : Fz) (s : Shared) (v : Value) (Q : Unit → Shared → Prop) (E : Value → Shared → Prop), Mo C K σ F s → Rep F v d →
    (∀ s', Mo C K σ' F s' → Q () s') → wpAny C.G.M C.A (assign t C.env v) Q E s
theorem Asg.local {x : Str} {p : Pos} {d : D} (hx : C.env.kindOf x = some .local) : Asg C σ (.Name x p) d (σ.set x d) := fun K F s v Q E X r hQ => by
  obtain ⟨m, hn, hm⟩ := X.loc
  exact wpAny_assign_Name (wpAny_storeName_local hx hn (fun h' hn' hs => hQ _ (X.storeL hm hx hs hn' r)) (by rw [X.ok.fn]; rfl))
theorem Asg.cell {x : Str} {p : Pos} {d : D} {c : Addr} (hx : C.env.kindOf x = some .cell) (hc : C.env.cells.lookup x = some c) (hp : c ∈ C.priv) : Asg C σ (.Name x p) d (σ.set x d) := fun K F s v Q E X r hQ => by
  obtain ⟨⟨v0, hv0⟩, _⟩ := X.live (x, c) (mem_of_lookup hc)
  exact wpAny_assign_Name (wpAny_storeName_cell X.ok.fn hx hc hv0 fun h' hn hs => hQ _ (X.storeC (t := s.toks) hx hc hp hs hn r))
end
end Mine
end

section
set_option Elab.async false
set_option linter.unusedVariables false
set_option linter.unusedSimpArgs false
namespace Mine
open PySem PySem.W PyProof.Rows PySem.Calls

theorem cellsFrom_acc : ∀ (names : List (Str × NameKind)) (n : Nat) (acc : List (Str × Addr)), cellsFrom n names acc = cellsFrom n names [] ++ acc
  | [], _, _ => rfl
  | (name, kind) :: r, n, acc => by
    unfold cellsFrom
    split
    · rw [cellsFrom_acc r (n + 1) ((name, n) :: acc), cellsFrom_acc r (n + 1) [(name, n)], List.append_assoc]; rfl
    · exact cellsFrom_acc r n acc
theorem cellsFrom_names : ∀ (names : List (Str × NameKind)) (n : Nat) (acc : List (Str × Addr)) (y : Str × Addr), y ∈ cellsFrom n names acc → y ∈ acc ∨ (y.1, NameKind.cell) ∈ names
  | [], _, _, _, h => .inl h
  | (name, kind) :: r, n, acc, y, h => by
    unfold cellsFrom at h
    split at h
    · rename_i hk
      rcases cellsFrom_names r _ _ y h with h | h
      · rcases List.mem_cons.mp h with rfl | h
        · have : kind = .cell := by simpa using hk
          subst this
          exact .inr (.head _)
        · exact .inl h
      · exact .inr (.tail _ h)
    · rcases cellsFrom_names r _ _ y h with h | h
      · exact .inl h
      · exact .inr (.tail _ h)
theorem lookup_append_none {α : Type} : ∀ {l r : List (Str × α)} {x : Str}, (∀ y ∈ l, y.1 ≠ x) → (l ++ r).lookup x = r.lookup x
  | [], _, _, _ => rfl
  | (k, v) :: l, r, x, h => by
    have : (x == k) = false := beq_eq_false_iff_ne.mpr fun e => h (k, v) (.head _) e.symm
    rw [List.cons_append, List.lookup_cons, this]
    exact lookup_append_none fun y hy => h y (.tail _ hy)
theorem lookup_filter {α : Type} (q : Str → Bool) : ∀ {l : List (Str × α)} {x : Str} {v : α}, (l.filter fun p => q p.1).lookup x = some v → q x = true ∧ l.lookup x = some v
  | [], _, _, h => by cases h
  | (k, w) :: l, x, v, h => by
    rw [List.filter_cons] at h
    split at h
    · rename_i hk
      rw [List.lookup_cons] at h ⊢
      cases hb : x == k with
      | true => rw [hb] at h; rw [beq_iff_eq.mp hb]; exact ⟨hk, h⟩
      | false => rw [hb] at h; exact lookup_filter q h
    · rename_i hk
      obtain ⟨h1, h2⟩ := lookup_filter q h
      refine ⟨h1, ?_⟩
      rw [List.lookup_cons]
      cases hb : x == k with
      | true => rw [beq_iff_eq.mp hb] at h1; exact absurd h1 hk
      | false => exact h2

theorem isCell_keeps {h h' : Heap} {c : Addr} {v : Option Value} (x : h.IsCell c v) (hk : ∀ o, h.get? c = some o → h'.get? c = some o) : h'.IsCell c v :=
  let ⟨o, ho, hd⟩ := x; ⟨o, hk o ho, hd⟩
theorem apA {a b : Addr} {n : Nat} (h1 : n + 1 ≤ b) (h2 : a < n) (e : b = a) : False := by subst e; exact absurd (Nat.lt_of_lt_of_le (Nat.lt_succ_self n) h1) (Nat.not_lt.mpr (Nat.le_of_lt h2))
theorem apB {a b : Addr} (h1 : a + 1 ≤ b) (e : b = a) : False := by subst e; exact Nat.lt_irrefl _ h1
theorem apC {a b : Addr} (h2 : a < b) (e : a = b) : False := by subst e; exact Nat.lt_irrefl _ h2
noncomputable def sees (env : Env) (scope : Scope) (cl : List (Str × Addr)) (x : Str) (y : Str) : Bool :=
  !(y == x) && (cl.lookup y).isSome && (env.kindOf y == some .cell || env.kindOf y == some .free) && scope.names.lookup y == some .free
noncomputable def compVars (env : Env) (scope : Scope) (cl : List (Str × Addr)) (x : Str) (vars : List (Str × D)) : List (Str × D) := vars.filter fun p => sees env scope cl x p.1

noncomputable def compCx (C : Cx) (σ : St) (scope : Scope) (cl : List (Str × Addr)) (L : Addr) : Cx :=
  { G := C.G, A := C.A, env := compEnvC scope (cellsFrom (L + 1) scope.names cl) L C.env, priv := L :: (cellsFrom (L + 1) scope.names []).map (·.2), rm := C.rm, ro := σ.mu ++ C.ro, pre := C.pre }

structure CompOk (C : Cx) (scope : Scope) (cl : List (Str × Addr)) : Prop where
  clos : closureFor scope C.env = pure cl
  kind : scope.kind = .function
  names : ∀ y ∈ scope.names, y.2 = .local → scope.names.lookup y.1 = some .local
  look : ∀ x c, cl.lookup x = some c → C.env.cells.lookup x = some c
  clm : ∀ x ∈ cl, x ∈ C.env.cells
  pw : cl.Pairwise fun x y => x.1 ≠ y.1
  own : ∀ y, scope.names.lookup y = some .free → (y, NameKind.cell) ∉ scope.names

theorem lookup_relabel {env : Env} {y : Str} {k : NameKind} : ∀ {names : List (Str × NameKind)}, names.lookup y = some k →
    (names.map fun (n, k) => if (k == NameKind.free && env.scope.kind == .function && env.kindOf n == some .cell) then (n, NameKind.cell) else (n, k)).lookup y = some (if (k == NameKind.free && env.scope.kind == .function && env.kindOf y == some .cell) then NameKind.cell else k)
  | [], h => by cases h
  | (n, k') :: r, h => by
    rw [List.lookup_cons] at h
    show List.lookup y ((if (k' == NameKind.free && env.scope.kind == .function && env.kindOf n == some .cell) = true then (n, NameKind.cell) else (n, k')) :: _) = _
    cases hb : y == n with
    | true =>
      rw [hb] at h
      have e := beq_iff_eq.mp hb
      subst e
      simp only [Option.some.injEq] at h
      subst h
      split <;> simp [List.lookup_cons]
    | false =>
      rw [hb] at h
      split <;> (rw [List.lookup_cons, hb]; exact lookup_relabel h)

section
variable {C : Cx} {σ : St} {scope : Scope} {cl : List (Str × Addr)}

noncomputable def compSt (C : Cx) (σ : St) (scope : Scope) (cl : List (Str × Addr)) (x : Str) (mu : Mu) : St := { vars := compVars C.env scope cl x σ.vars, mu := mu }

theorem comp_enter {K F : Fz} {s s1 : Shared} {x : Str} {mu : Mu} {Q : Env → Shared → Prop} {E : Value → Shared → Prop} (X : Mo C K σ F s) (ok : CompOk C scope cl) (A1 : Am C.G (full F s.heap []) mu F s1)
    (h : ∀ L s2, s.heap.get? L = none → Mo (compCx C σ scope cl L) (full F s.heap []) (compSt C σ scope cl x mu) F s2 → Q { (compCx C σ scope cl L).env with scope := scope } s2) :
    wpAny C.G.M C.A (newFunctionEnv scope C.env.globals cl [] C.env.qual none .none (some C.env)) Q E s1 := by
  simp only [newFunctionEnv, Option.isSome_some, if_true]
  refine wpAny_bind (wpAny_alloc ?_)
  refine wpAny_bind (wpAny_layCells _ (fun name kind cells => by cases hkc : kind == NameKind.cell <;> simp) _ _ _ _ ?_)
  rw [show ({ s1 with heap := s1.heap.push { cls := .type "dict", data := .dict #[] } } : Shared).heap.objs.size = s1.heap.objs.size + 1 from Heap.size_push ..]
  refine wpAny_bind ?_
  rw [List.forIn_nil]
  refine wpAny_pure (wpAny_pure ?_)
  refine h s1.heap.objs.size _ ?_ ?_
  · cases e : s.heap.get? s1.heap.objs.size with
    | none => rfl
    | some o =>
      cases f : F s1.heap.objs.size with
      | some o' => exact absurd (Heap.lt_size (A1.frz _ _ f)) (Nat.lt_irrefl _)
      | none => exact absurd (Heap.lt_size (A1.keep _ _ (full_of f (List.not_mem_nil (a := s1.heap.objs.size)) e))) (Nat.lt_irrefl _)
  have ck := cellsFrom_ok scope.names (s1.heap.push { cls := .type "dict", data := .dict #[] }) (s1.heap.objs.size + 1) [] ⟨fun _ _ hm => (nomatch hm), List.Pairwise.nil⟩ (by rw [Heap.size_push]; exact Nat.le_refl _)
  rw [Heap.size_push] at ck
  have keepAll : ∀ a o, s1.heap.get? a = some o → (pushCells (s1.heap.push { cls := .type "dict", data := .dict #[] }) scope.names).get? a = some o := fun a o e => pushCells_keeps _ _ a o (Heap.get?_push_of_some _ e)
  have ns : (pushCells (s1.heap.push { cls := .type "dict", data := .dict #[] }) scope.names).Ns s1.heap.objs.size fun _ => none := (Heap.Ns.new s1.heap (.type "dict")).keeps (pushCells_keeps _ _)
  -- what lies in the old heap is kept
  have old : ∀ a o, F a = none → s.heap.get? a = some o → full F s.heap [] a = some o ∧ s1.heap.get? a = some o := fun a o h1 h2 => by
    have := full_of h1 (List.not_mem_nil (a := a)) h2
    exact ⟨this, A1.keep _ _ this⟩
  have fresh : ∀ a, s1.heap.objs.size ≤ a → F a = none ∧ full F s.heap [] a = none := fun a ha => by
    refine ⟨?_, ?_⟩
    · cases e : F a with
      | none => rfl
      | some o => exact absurd (Heap.lt_size (A1.frz _ _ e)) (Nat.not_lt.mpr ha)
    · cases e : full F s.heap [] a with
      | none => rfl
      | some o => exact absurd (Heap.lt_size (A1.keep _ _ e)) (Nat.not_lt.mpr ha)
  have clK : ∀ x ∈ cl, ∃ v o, s.heap.get? x.2 = some o ∧ o.data = .cell v ∧ F x.2 = none := fun x hx => by
    obtain ⟨⟨v, o, h1, h2⟩, h3⟩ := X.live x (ok.clm x hx)
    refine ⟨v, o, h1, h2, ?_⟩
    rcases h3 with h3 | ⟨o', h3⟩
    · exact (X.priv _ h3).1
    · exact X.am.dis _ _ h3
  have memC : ∀ y ∈ cellsFrom (s1.heap.objs.size + 1) scope.names cl, y ∈ cellsFrom (s1.heap.objs.size + 1) scope.names [] ∨ y ∈ cl := fun y hy => by
    rw [cellsFrom_acc] at hy; exact List.mem_append.mp hy
  have AA := A1.grow (F' := F) (t := s1.toks) (h' := pushCells (s1.heap.push { cls := .type "dict", data := .dict #[] }) scope.names) keepAll (Fle.refl _) (fun a o e => .inl e) (fun a o e => keepAll _ _ (A1.frz _ _ e))
  refine ⟨⟨ok.kind, X.ok.gl, X.ok.bu, X.ok.rm, .head _, ?_, ?_, X.ok.mon⟩, AA, ?_, ?_, ⟨_, ns, ?_⟩, ?_, ?_, X.preFull (by simp)⟩
  · show (cellsFrom (s1.heap.objs.size + 1) scope.names cl).Pairwise _
    rw [cellsFrom_acc, List.pairwise_append]
    refine ⟨ck.apart, ok.pw.imp_of_mem fun {a b} ha hb h e => h (name_of_addr X.ok.apart (n := a.1) (n' := b.1) (c := a.2) (ok.clm _ ha) (by rw [e]; exact ok.clm _ hb)), fun a ha b hb e => ?_⟩
    obtain ⟨v, o, h1, h2, h3⟩ := clK b hb
    have h4 := Heap.lt_size (old _ _ h3 h1).2
    have h5 := (ck.empty a.1 a.2 ha).2
    exact apA h5 h4 e
  · intro y hy e
    have e' : y.2 = s1.heap.objs.size := e
    rcases memC y hy with hy | hy
    · have h5 := (ck.empty y.1 y.2 hy).2
      exact apB h5 e'
    · obtain ⟨v, o, h1, h2, h3⟩ := clK y hy
      have h4 := Heap.lt_size (old _ _ h3 h1).2
      exact apC h4 e'
  · intro a ha
    rcases List.mem_cons.mp ha with rfl | ha
    · obtain ⟨o, es, ep, e, r⟩ := ns
      exact ⟨(fresh _ (Nat.le_refl _)).1, (fresh _ (Nat.le_refl _)).2, o, e⟩
    · obtain ⟨y, hy, rfl⟩ := List.mem_map.mp ha
      obtain ⟨⟨o, h1, h2⟩, h5⟩ := ck.empty y.1 y.2 hy
      exact ⟨(fresh _ (by lia)).1, (fresh _ (by lia)).2, o, h1⟩
  · intro y hy
    rcases memC y hy with hy | hy
    · exact ⟨⟨none, (ck.empty y.1 y.2 hy).1⟩, .inl (.tail _ (List.mem_map_of_mem hy))⟩
    · obtain ⟨v, o, h1, h2, h3⟩ := clK y hy
      exact ⟨⟨v, o, keepAll _ _ (old _ _ h3 h1).2, h2⟩, .inr ⟨o, (old _ _ h3 h1).1⟩⟩
  · intro y d e
    have e' : (compVars C.env scope cl x σ.vars).lookup y = some d := e
    unfold compVars at e'
    obtain ⟨q, e2⟩ := lookup_filter (fun n => sees C.env scope cl x n) e'
    obtain ⟨m, hn, hm⟩ := X.loc
    obtain ⟨v, hv, hr⟩ := hm y d e2
    refine ⟨v, ?_, hr⟩
    simp only [sees, Bool.and_eq_true, Bool.or_eq_true, beq_iff_eq] at q
    obtain ⟨⟨⟨q1, q2⟩, q3⟩, q4⟩ := q
    obtain ⟨c, hc⟩ := Option.isSome_iff_exists.mp q2
    have hce := ok.look y c hc
    have hcell : s.heap.IsCell c (some v) := by
      unfold VarAt at hv
      rcases q3 with q3 | q3 <;> (rw [q3] at hv; obtain ⟨c', h1, h2⟩ := hv; rw [hce] at h1; cases h1; exact h2)
    have hcell' : (pushCells (s1.heap.push { cls := .type "dict", data := .dict #[] }) scope.names).IsCell c (some v) := by
      obtain ⟨v', o, h1, h2, h3⟩ := clK (y, c) (mem_of_lookup hc)
      exact isCell_keeps hcell fun o e => keepAll _ _ (old _ _ h3 e).2
    have hlook : (cellsFrom (s1.heap.objs.size + 1) scope.names cl).lookup y = some c := by
      rw [cellsFrom_acc, lookup_append_none]
      · exact hc
      · intro z hz e
        rcases cellsFrom_names _ _ _ z hz with h | h
        · cases h
        · exact ok.own y q4 (e ▸ h)
    have hkind : (compCx C σ scope cl s1.heap.objs.size).env.kindOf y = some .cell ∨ (compCx C σ scope cl s1.heap.objs.size).env.kindOf y = some .free := by
      show (relabel scope C.env).names.lookup y = _ ∨ _
      unfold relabel
      dsimp only
      rw [lookup_relabel q4]
      split
      · exact .inl rfl
      · exact .inr (by
          show (relabel scope C.env).names.lookup y = _
          unfold relabel
          dsimp only
          rw [lookup_relabel q4]
          rename_i hh
          rw [if_neg hh])
    unfold VarAt
    rcases hkind with hk | hk <;> (rw [hk]; exact ⟨c, hlook, hcell'⟩)
  · intro p hp ha
    obtain ⟨o, ho⟩ := (A1.mus p hp).1.some
    have h4 := Heap.lt_size ho
    rcases List.mem_cons.mp ha with e | ha
    · exact apC h4 e
    · obtain ⟨y, hy, e⟩ := List.mem_map.mp ha
      have h5 := (ck.empty y.1 y.2 hy).2
      exact apA h5 h4 e
  · intro p hp
    rcases List.mem_append.mp hp with hp | hp
    · obtain ⟨h1, h2, h3⟩ := X.am.mus p hp
      obtain ⟨o, ho⟩ := h1.some
      obtain ⟨h4, h5⟩ := old _ _ h2 ho
      exact ⟨h1.mono (Fle.refl _) fun o e => keepAll _ _ (old _ _ h2 e).2, o, h4⟩
    · obtain ⟨h1, o, h3⟩ := X.ro p hp
      have h2 := X.am.dis _ _ h3
      exact ⟨h1.mono (Fle.refl _) fun o e => keepAll _ _ (old _ _ h2 e).2, o, (old _ _ h2 (X.am.keep _ _ h3)).1⟩

noncomputable def Tests (C : Cx) (σ : St) : List Expr → Bool → Prop
  | [], b => b = true
  | [c], b => EvT C σ c b
  | _, _ => False
theorem wpAny_tests {K F : Fz} {s : Shared} {ifs : List Expr} {b : Bool} {Q : Bool → Shared → Prop} {E : Value → Shared → Prop} (X : Mo C K σ F s) (h : Tests C σ ifs b) (hQ : ∀ F' s', Mo C K σ F' s' → Fle F F' → Q b s') :
    wpAny C.G.M C.A (forIn ifs true fun c r => if r = true then do let ok ← isTrue c C.env (eval c C.env); pure (ForInStep.yield ok) else pure (ForInStep.yield r)) Q E s := by
  match ifs, h with
  | [], h =>
    have h' : b = true := h
    subst h'
    exact wpAny_tests_nil (hQ F s X (Fle.refl _))
  | [c], h => exact wpAny_tests_one (h K F s Q E X hQ)

theorem Mo.other {K F : Fz} {s : Shared} {h' : Heap} {a : Addr} {t : Nat} (X : Mo C K σ F s) (hs : Heap.SameBut a s.heap h') (hF : F a = none) (hK : K a = none) (hm : ∀ p ∈ σ.mu, p.1 ≠ a) (hp : a ∉ C.priv) : Mo C K σ F { s with heap := h', toks := t } :=
  X.with (X.am.other hs hF hK hm) (fun b hb => ⟨(X.priv b hb).1, hs.2 b fun e => hp (e ▸ hb)⟩) (Fle.refl _) X.pmu

theorem comp_loop {K0 F0 : Fz} {elt iter target : Expr} {ifs : List Expr} {pos : Pos} {it acc : Addr} {ds : List D} {P : Nat → Obj → Prop} {R : Result → Shared → Prop} {vs0 : List (Str × D)}
    (St' : Nat → List D → Mu → Prop) (I : IterOk C.G C.A K0 F0 it ds P) (hlen : ds.length ≤ 100000) (tv : D → List (Str × D) → List (Str × D)) (tv0 : D → List (Str × D))
    (hasg : ∀ d mu vs, Asg C { vars := vs, mu := mu } target d { vars := tv d vs, mu := mu })
    (htv : ∀ d vs, (∀ y e, vs0.lookup y = some e → vs.lookup y = some e) → ∀ y e, (tv0 d).lookup y = some e → (tv d vs).lookup y = some e)
    (htv0 : ∀ d y e, vs0.lookup y = some e → (tv0 d).lookup y = some e)
    (hout : ∀ k out nm, St' k out nm → out.length ≤ k)
    (step : ∀ k d out nm, ds[k]? = some d → St' k out nm → ∃ b, Tests C { vars := tv0 d, mu := nm } ifs b ∧
      (b = true → EvX C { vars := tv0 d, mu := nm } elt (fun e nm' => St' (k + 1) (out ++ [e]) nm')) ∧ (b = false → St' (k + 1) out nm))
    (hR : ∀ F' s' out nm vs, St' ds.length out nm → Mo C K0 { vars := vs, mu := (acc, .list out) :: nm } F' s' → Fle F0 F' → R (.ok .next) s')
    {s : Shared} {nm0 : Mu} (h0 : St' 0 [] nm0) (X : Mo C K0 { vars := vs0, mu := (it, .obj (P 0)) :: (acc, .list []) :: nm0 } F0 s)
    (ht : ∀ v, letOwnedTupleGo target (.ref it) v = pure () := by intro _; rfl) :
    codeAny C.G.M C.A (.compLoop (.ListComp elt [⟨target, iter, ifs, 0⟩] scope pos) 0 (.ref it) (.ref acc) C.env) R s := by
  refine codeAny_compLoop_tests (prog := C.G.prog) (w := C.G.w) (fun n s => ∃ k out nm vs F, n + k = ds.length ∧ St' k out nm ∧ Fle F0 F ∧ (∀ y e, vs0.lookup y = some e → vs.lookup y = some e) ∧
    Mo C K0 { vars := vs, mu := (it, .obj (P k)) :: (acc, .list out) :: nm } F s) ?_ ds.length ⟨0, [], nm0, vs0, F0, by simp, h0, Fle.refl _, fun _ _ e => e, X⟩ ht
  rintro n s ⟨k, out, nm, vs, F, hn, hSt, hF, hvs, X⟩
  have hit : ∃ o, s.heap.get? it = some o ∧ P k o := (X.am.mus (it, .obj (P k)) (.head _)).1
  cases n with
  | zero =>
    have hk : k = ds.length := by lia
    subst hk
    refine I.stop F s _ _ hF X.am.frz X.am.keep hit fun h' t hs => ?_
    have X' := X.dropExt (t := t) rfl hs
    exact hR F _ out nm vs hSt X' hF
  | succ n =>
    have hk : k < ds.length := by lia
    refine I.item k ds[k] F s _ _ hF X.am.frz X.am.keep (List.getElem?_eq_getElem hk) hit fun h' v t hs hit' hr => ?_
    have X1 := X.turn (pre := []) (mo' := .obj (P (k + 1))) (t := t) rfl hs hit'
    refine hasg ds[k] _ vs K0 F _ v _ _ X1 hr fun s2 X2 => ?_
    replace X2 := X2.weak (σ' := { vars := tv0 ds[k], mu := (it, .obj (P (k + 1))) :: (acc, .list out) :: nm }) (htv _ _ hvs) rfl
    -- hide the iterator and the list
    obtain ⟨a1, a2⟩ := X2.apartMu (p := (it, .obj (P (k + 1)))) (.head _)
    obtain ⟨oi, hoi, ⟨oi', hoi', hPi⟩, hKi, X3⟩ := X2.hide (a := it) (mo := .obj (P (k + 1))) (mu := (acc, .list out) :: nm) rfl
    rw [hoi] at hoi'; cases hoi'
    obtain ⟨b1, b2⟩ := X3.apartMu (p := (acc, .list out)) (.head _)
    obtain ⟨oa, hoa, ⟨oa', vsa, hoa', hla, hra⟩, hKa, X4⟩ := X3.hide (a := acc) (mo := .list out) (mu := nm) rfl
    rw [hoa] at hoa'; cases hoa'
    obtain ⟨b, hb, ht, hf⟩ := step k ds[k] out nm (List.getElem?_eq_getElem hk) hSt
    refine wpAny_tests X4 hb fun F5 s5 X5 g5 => ?_
    cases b with
    | false =>
      simp only [Bool.false_eq_true, if_false]
      have ha5 : s5.heap.get? acc = some oa := X5.am.keep _ _ (Fz.put_self _ _ _)
      have X6 := X5.show hKa (mo := .list out) ⟨oa, vsa, ha5, hla, hra.mono g5⟩ b1 b2 (X.ok.mon _ _ _ _ X3.pre (Fle.refl _) g5)
      have hi5 : s5.heap.get? it = some oi := X6.am.keep _ _ (Fz.put_self _ _ _)
      have X7 := X6.show hKi (mo := .obj (P (k + 1))) ⟨oi, hi5, hPi⟩ a1 a2 (X.ok.mon _ _ _ _ X2.pre (Fle.refl _) g5)
      exact ⟨n, Nat.lt_succ_self n, k + 1, out, nm, _, F5, by lia, hf rfl, hF.trans g5, htv0 _, X7⟩
    | true =>
      simp only [if_true]
      refine ht rfl _ F5 s5 _ _ X5 fun F6 v6 s6 e nm' hSt' X6 g6 r6 => ?_
      have ha6 : s6.heap.get? acc = some oa := X6.am.keep _ _ (Fz.put_self _ _ _)
      have X7 := X6.show hKa (mo := .list out) ⟨oa, vsa, ha6, hla, hra.mono (g5.trans g6)⟩ b1 b2 (X.ok.mon _ _ _ _ X3.pre (Fle.refl _) (g5.trans g6))
      obtain ⟨hl100, na, rfl⟩ := hla
      have hlo : vsa.length = out.length := hra.length
      have hok := hout k out nm hSt
      refine wpAny_list_append_plain ⟨na, ha6⟩ (fun h7 hp7 hs7 => ?_) (by rw [List.size_toArray]; exact fitsSz (by lia))
      obtain ⟨n7, hp7⟩ := hp7
      have X8 := X7.turn (pre := []) (mo' := .list (out ++ [e])) (t := s6.toks) rfl hs7 ⟨_, vsa ++ [v6], hp7, ⟨by rw [List.length_append]; simp; lia, n7, by simp⟩, (hra.mono (g5.trans g6)).append (.cons r6 .nil)⟩
      have hi8 : h7.get? it = some oi := X8.am.keep _ _ (Fz.put_self _ _ _)
      have X9 := X8.show hKi (mo := .obj (P (k + 1))) ⟨oi, hi8, hPi⟩ a1 a2 (X.ok.mon _ _ _ _ X2.pre (Fle.refl _) (g5.trans g6))
      exact ⟨n, Nat.lt_succ_self n, k + 1, out ++ [e], nm', _, F6, by lia, hSt', hF.trans (g5.trans g6), htv0 _, X9⟩

noncomputable def ItD (C : Cx) (σ : St) (d : D) (ds : List D) : Prop := Items C σ d ds ∨ ∃ lo hi, d = .rng lo hi ∧ ds = rints lo hi ∧ (-1000000 ≤ lo ∧ lo ≤ 1000000 ∧ -1000000 ≤ hi ∧ hi ≤ 1000000)
theorem ItD.list {ds : List D} : ItD C σ (.list ds) ds := .inl .list
theorem ItD.rng {lo hi : Int} (h : -1000000 ≤ lo ∧ lo ≤ 1000000 ∧ -1000000 ≤ hi ∧ hi ≤ 1000000) : ItD C σ (.rng lo hi) (rints lo hi) := .inr ⟨lo, hi, rfl, rfl, h⟩
theorem ItD.src {K F : Fz} {s : Shared} {v : Value} {d : D} {ds : List D} (X : Mo C K σ F s) (h : ItD C σ d ds) (r : Rep F v d) : Src (full F s.heap []) F v ds := by
  have key : ∀ a ds', F a = none → (MO.list ds').At F s.heap a → Src (full F s.heap []) F (.ref a) ds' := by
    rintro a ds' h1 ⟨o, vs, h2, h3, h4⟩
    exact .list (.inr (full_of h1 List.not_mem_nil h2)) h3 h4
  rcases h with (rfl | ⟨a, rfl, h | h⟩) | ⟨lo, hi, rfl, rfl, hb⟩
  · obtain ⟨a, o, vs, rfl, h1, h2, h3⟩ := r.list_inv
    exact .list (.inl h1) h2 h3
  · cases r.ref_inv
    obtain ⟨h1, h2, h3⟩ := X.am.mus _ h
    exact key a ds h2 h1
  · cases r.ref_inv
    obtain ⟨h1, o, h3⟩ := X.ro _ h
    exact key a ds (X.am.dis _ _ h3) h1
  · obtain ⟨a, o, rfl, h1, h2⟩ := r.rng_inv
    exact .rng h1 h2 hb

theorem cellsFrom_has : ∀ (names : List (Str × NameKind)) (n : Nat) (acc : List (Str × Addr)) (x : Str), (x, NameKind.cell) ∈ names → ∃ c, (cellsFrom n names acc).lookup x = some c ∧ c ∈ (cellsFrom n names []).map (·.2)
  | (name, kind) :: r, n, acc, x, h => by
    unfold cellsFrom
    by_cases hr : (x, NameKind.cell) ∈ r
    · split
      · obtain ⟨c, h1, h2⟩ := cellsFrom_has r (n + 1) ((name, n) :: acc) x hr
        refine ⟨c, h1, ?_⟩
        rw [cellsFrom_acc, List.map_append]
        exact List.mem_append_left _ h2
      · exact cellsFrom_has r n acc x hr
    · rcases List.mem_cons.mp h with e | h
      · cases e
        simp only [beq_self_eq_true, if_true]
        refine ⟨n, ?_, ?_⟩
        · rw [cellsFrom_acc, lookup_append_none]
          · simp [List.lookup_cons]
          · intro y hy e
            rcases cellsFrom_names _ _ _ y hy with h | h
            · cases h
            · exact hr (e ▸ h)
        · rw [cellsFrom_acc, List.map_append]
          exact List.mem_append_right _ (.head _)
      · exact absurd h hr

theorem compAsg {x : Str} {px : Pos} {d : D} {L : Addr} {τ : St} (hx : scope.names.lookup x = some .local ∨ scope.names.lookup x = some .cell) : Asg (compCx C σ scope cl L) τ (.Name x px) d (τ.set x d) := by
  rcases hx with hx | hx
  · exact Asg.local (lookup_relabel_local hx)
  · obtain ⟨c, h1, h2⟩ := cellsFrom_has scope.names (L + 1) cl x (mem_of_lookup hx)
    refine Asg.cell ?_ h1 (.tail _ h2)
    show (relabel scope C.env).names.lookup x = _
    unfold relabel
    dsimp only
    rw [lookup_relabel hx]
    split <;> rfl

theorem comp_run {elt iter : Expr} {x : Str} {px : Pos} {ifs : List Expr} {pos pos' : Pos} {use : Option (Value → Sem Unit)} {d : D} {ds : List D} (ok : CompOk C scope cl) (hx : scope.names.lookup x = some .local ∨ scope.names.lookup x = some .cell)
    (hv : Ev C σ iter d) (hi : ItD C σ d ds) (hlen : ds.length ≤ 100000) (St' : Nat → List D → Mu → Prop) (h0 : St' 0 [] []) (hout : ∀ k out nm, St' k out nm → out.length ≤ k)
    (step : ∀ L k d out nm, ds[k]? = some d → St' k out nm → ∃ b, Tests (compCx C σ scope cl L) ((compSt C σ scope cl x nm).set x d) ifs b ∧
      (b = true → EvX (compCx C σ scope cl L) ((compSt C σ scope cl x nm).set x d) elt (fun e nm' => St' (k + 1) (out ++ [e]) nm')) ∧ (b = false → St' (k + 1) out nm))
    {K F : Fz} {s : Shared} {Q : Value → Shared → Prop} {E : Value → Shared → Prop} (X : Mo C K σ F s)
    (hQ : ∀ F' a s' out nm L, St' ds.length out nm → Mo C K (σ.setMu ((a, .list out) :: (nm ++ σ.mu))) F' s' → Fle F F' → F' L = none → K L = none → (∀ p ∈ (a, MO.list out) :: (nm ++ σ.mu), p.1 ≠ L) → L ∉ C.priv →
      (∃ m, s'.heap.Ns L m) → compPost C.G.M C.A E use Q (.ref a) L (.ok .next) s')
    (hs : ∀ x, foldedSetIterable iter C.env x = pure x := by intro _; rfl) :
    wpAny C.G.M C.A (comprehension (.ListComp elt [⟨.Name x px, iter, ifs, 0⟩] scope pos) scope C.env pos' (newList []) false (eval iter C.env) use) Q E s := by
  refine wpAny_comprehension_free rfl hs ok.clos ok.kind ok.names (hv K F s _ E X fun F1 v s1 X1 g1 r1 => ?_)
  have S := hi.src X1 r1
  have A0 := X1.am.leave (pas := []) rfl
  refine pyIter_src X.ok.rm.hh S X1.am.frz A0.keep fun o P hf hP IA => ?_
  have I := IA C.A X.ok.rm.hh
  have A1 := A0.allocMu o (.obj (P 0)) s1.toks ⟨o, Heap.get?_push_size _ hf, hP⟩
  refine wpAny_newObj_type ?_
  have A2 := A1.allocMu { cls := .type "list", data := .seq ([] : List Value).toArray } (.list []) s1.toks ⟨_, [], Heap.get?_push_size _ rfl, ⟨by simp, 0, rfl⟩, .nil⟩
  have A3 := A2.perm (mu' := [(s1.heap.objs.size, .obj (P 0)), ((s1.heap.push o).objs.size, .list [])]) (List.Perm.swap ..)
  refine comp_enter (x := x) X1 ok A3 fun L s2 hLn X2 => ?_
  have loop : codeAny C.G.M C.A (.compLoop (.ListComp elt [⟨.Name x px, iter, ifs, 0⟩] scope pos) 0 (.ref s1.heap.objs.size) (.ref (s1.heap.push o).objs.size) (compCx C σ scope cl L).env)
      (compPost C.G.M C.A E use Q (.ref (s1.heap.push o).objs.size) L) s2 := by
    refine comp_loop (C := compCx C σ scope cl L) (K0 := full F1 s1.heap []) (F0 := F1) (vs0 := compVars C.env scope cl x σ.vars) St' I hlen (fun d vs => (x, d) :: vs) (fun d => (x, d) :: compVars C.env scope cl x σ.vars)
      (fun d mu vs => compAsg hx) (fun d vs hvs y e h => ?_) (fun d y e h => ?_) hout (fun k d out nm hk hSt => step L k d out nm hk hSt) (fun F' s' out nm vs hSt X' g' => ?_) h0 X2
    · rw [List.lookup_cons] at h ⊢
      cases hb : y == x with
      | true => rw [hb] at h; exact h
      | false => rw [hb] at h; exact hvs y e h
    · have h' := h
      unfold compVars at h'
      obtain ⟨q, _⟩ := lookup_filter (fun n => sees C.env scope cl x n) h'
      simp only [sees, Bool.and_eq_true] at q
      have hb : (y == x) = false := by simpa using q.1.1.1
      rw [List.lookup_cons, hb]
      exact h
    · have B := X1.back (pas := []) (oth := σ.mu) (mu' := ((s1.heap.push o).objs.size, .list out) :: nm) rfl X'.am g'
      obtain ⟨p1, p2, p3⟩ := X'.priv L (.head _)
      have hs1 : ∀ o', s1.heap.get? L ≠ some o' := fun o' e => by rw [hLn] at e; cases e
      refine hQ F' _ s' out nm L hSt B (g1.trans g') p1 ?_ ?_ ?_ ?_
      · cases e : K L with
        | none => rfl
        | some o' => exact absurd (X1.am.keep _ _ e) (hs1 o')
      · intro p hp e
        rcases List.mem_cons.mp hp with rfl | hp
        · exact X'.pmu _ (.head _) (e ▸ .head _)
        · rcases List.mem_append.mp hp with hp | hp
          · exact X'.pmu p (.tail _ hp) (e ▸ .head _)
          · obtain ⟨o', ho'⟩ := (X1.am.mus p hp).1.some
            exact hs1 o' (e ▸ ho')
      · intro hp
        obtain ⟨o', ho'⟩ := (X1.priv L hp).2.2
        exact hs1 o' ho'
      · obtain ⟨m, hm, _⟩ := X'.loc
        exact ⟨m, hm⟩
  exact codeAny_compStart_list loop (I.self 0 s2 _ _ ((X2.am.mus (s1.heap.objs.size, .obj (P 0)) (.head _)).1) loop)
end
end Mine
end

section
set_option Elab.async false
set_option linter.unusedVariables false
set_option linter.unusedSimpArgs false
namespace Mine
open PySem PySem.W PyProof.Rows PySem.Calls

section
variable {C : Cx} {σ : St} {scope : Scope} {cl : List (Str × Addr)}

noncomputable def EvC (C : Cx) (σ : St) (elt : Expr) (gens : List Comprehension) (scope : Scope) (pos : Pos) (R : D → Mu → Prop) : Prop :=
  ∀ (use : Option (Value → Sem Unit)) (K F : Fz) (s : Shared) (Q : Value → Shared → Prop) (E : Value → Shared → Prop), Mo C K σ F s →
    (∀ F' a s' mu L, R (.ref a) mu → Mo C K (σ.setMu mu) F' s' → Fle F F' → F' L = none → K L = none → (∀ p ∈ mu, p.1 ≠ L) → L ∉ C.priv → (∃ m, s'.heap.Ns L m) → compPost C.G.M C.A E use Q (.ref a) L (.ok .next) s') →
    wpAny C.G.M C.A (comprehension (.ListComp elt gens scope pos) scope C.env (firstIterPos gens pos) (newList []) (firstAsync gens) (firstIter gens C.env) use) Q E s

theorem EvC.run {elt iter : Expr} {x : Str} {px : Pos} {ifs : List Expr} {pos : Pos} {d : D} {ds : List D} (ok : CompOk C scope cl) (hx : scope.names.lookup x = some .local ∨ scope.names.lookup x = some .cell)
    (hv : Ev C σ iter d) (hi : ItD C σ d ds) (hlen : ds.length ≤ 100000) (St' : Nat → List D → Mu → Prop) (h0 : St' 0 [] []) (hout : ∀ k out nm, St' k out nm → out.length ≤ k)
    (step : ∀ L k d out nm, ds[k]? = some d → St' k out nm → ∃ b, Tests (compCx C σ scope cl L) ((compSt C σ scope cl x nm).set x d) ifs b ∧
      (b = true → EvX (compCx C σ scope cl L) ((compSt C σ scope cl x nm).set x d) elt (fun e nm' => St' (k + 1) (out ++ [e]) nm')) ∧ (b = false → St' (k + 1) out nm))
    (hs : ∀ x, foldedSetIterable iter C.env x = pure x := by intro _; rfl) :
    EvC C σ elt [⟨.Name x px, iter, ifs, 0⟩] scope pos (fun d mu => ∃ a out nm, St' ds.length out nm ∧ d = .ref a ∧ mu = (a, .list out) :: (nm ++ σ.mu)) := fun use K F s Q E X hQ =>
  comp_run ok hx hv hi hlen St' h0 hout step X (fun F' a s' out nm L hSt X' g h1 h2 h3 h4 h5 => hQ F' a s' _ L ⟨a, out, nm, hSt, rfl, rfl⟩ X' g h1 h2 h3 h4 h5) hs
theorem EvC.mono {elt : Expr} {gens : List Comprehension} {pos : Pos} {R R' : D → Mu → Prop} (h : EvC C σ elt gens scope pos R) (hR : ∀ d mu, R d mu → R' d mu) : EvC C σ elt gens scope pos R' := fun use K F s Q E X hQ =>
  h use K F s Q E X fun F' a s' mu L r => hQ F' a s' mu L (hR _ _ r)

theorem EvC.ev {elt : Expr} {gens : List Comprehension} {pos : Pos} {R : D → Mu → Prop} (h : EvC C σ elt gens scope pos R) : EvX C σ (.ListComp elt gens scope pos) R := fun K F s Q E X hQ => by
  rw [eval_ListComp]
  refine h none K F s Q E X fun F' a s' mu L hR X' g h1 h2 h3 h4 h5 => ?_
  obtain ⟨m, hm⟩ := h5
  exact ⟨m, hm, fun h' hs' => hQ F' _ _ _ mu hR (X'.other (t := s'.toks) hs' h1 h2 h3 h4) g (.ref a)⟩

theorem EvC.plain {α : Type} {elt iter : Expr} {x : Str} {px : Pos} {ifs : List Expr} {pos : Pos} {d : D} (xs : List α) (enc : α → D) (p : α → Bool) (g : α → D) (ok : CompOk C scope cl) (hx : scope.names.lookup x = some .local ∨ scope.names.lookup x = some .cell)
    (hv : Ev C σ iter d) (hi : ItD C σ d (xs.map enc)) (hlen : xs.length ≤ 100000)
    (step : ∀ L a, a ∈ xs → Tests (compCx C σ scope cl L) ((compSt C σ scope cl x []).set x (enc a)) ifs (p a) ∧ (p a = true → Ev (compCx C σ scope cl L) ((compSt C σ scope cl x []).set x (enc a)) elt (g a)))
    (hs : ∀ x, foldedSetIterable iter C.env x = pure x := by intro _; rfl) :
    EvC C σ elt [⟨.Name x px, iter, ifs, 0⟩] scope pos (NewL σ ((xs.filter p).map g)) := by
  refine EvC.mono (EvC.run ok hx hv hi (by simpa using hlen) (fun k out nm => nm = [] ∧ out = ((xs.take k).filter p).map g) (by simp) ?_ ?_ hs) ?_
  · rintro k out nm ⟨rfl, rfl⟩
    rw [List.length_map]
    exact Nat.le_trans (List.length_filter_le _ _) (by rw [List.length_take]; lia)
  · rintro L k d out nm hd ⟨rfl, rfl⟩
    rw [List.getElem?_map] at hd
    obtain ⟨a, ha, rfl⟩ := Option.map_eq_some_iff.mp hd
    have hk := (List.getElem?_eq_some_iff.mp ha)
    obtain ⟨hk1, hk2⟩ := hk
    obtain ⟨h1, h2⟩ := step L a (hk2 ▸ List.getElem_mem hk1)
    have ht : xs.take (k + 1) = xs.take k ++ [a] := by rw [List.take_add_one, ha]; rfl
    refine ⟨p a, h1, fun hp => ?_, fun hp => ?_⟩
    · refine EvX.mono (EvX.of (h2 hp)) ?_
      rintro d mu ⟨rfl, rfl⟩
      refine ⟨rfl, ?_⟩
      rw [ht, List.filter_append, List.map_append]
      simp [hp]
    · refine ⟨rfl, ?_⟩
      rw [ht, List.filter_append, List.map_append]
      simp [hp]
  · rintro d mu ⟨a, out, nm, ⟨rfl, rfl⟩, rfl, rfl⟩
    refine ⟨a, rfl, ?_⟩
    simp

noncomputable def zipMu (as : List Addr) (gs : List (List D)) : Mu := List.zipWith (fun a g => (a, MO.list g)) as gs
noncomputable def FreshL (σ : St) (gs : List (List D)) (d : D) (mu : Mu) : Prop := ∃ a as, as.length = gs.length ∧ d = .ref a ∧ mu = (a, .list (as.map .ref)) :: (zipMu as gs ++ σ.mu)
theorem EvC.perm {elt : Expr} {gens : List Comprehension} {pos : Pos} {R R' : D → Mu → Prop} (h : EvC C σ elt gens scope pos R) (hR : ∀ d mu, R d mu → ∃ mu', mu'.Perm mu ∧ R' d mu') : EvC C σ elt gens scope pos R' := fun use K F s Q E X hQ =>
  h use K F s Q E X fun F' a s' mu L r X' g h1 h2 h3 h4 h5 => by
    obtain ⟨mu', hp, hr⟩ := hR _ mu r
    exact hQ F' a s' mu' L hr (X'.perm hp) g h1 h2 (fun p hp' => h3 p (hp.mem_iff.mp hp')) h4 h5

theorem zipMu_append {as bs : List Addr} {gs hs : List (List D)} (h : as.length = gs.length) : zipMu (as ++ bs) (gs ++ hs) = zipMu as gs ++ zipMu bs hs := by
  unfold zipMu; rw [List.zipWith_append h]

theorem EvC.fresh {α : Type} {elt iter : Expr} {x : Str} {px : Pos} {ifs : List Expr} {pos : Pos} {d : D} (xs : List α) (enc : α → D) (p : α → Bool) (g : α → List D) (ok : CompOk C scope cl) (hx : scope.names.lookup x = some .local ∨ scope.names.lookup x = some .cell)
    (hv : Ev C σ iter d) (hi : ItD C σ d (xs.map enc)) (hlen : xs.length ≤ 100000)
    (step : ∀ L nm a, a ∈ xs → Tests (compCx C σ scope cl L) ((compSt C σ scope cl x nm).set x (enc a)) ifs (p a) ∧ (p a = true → EvN (compCx C σ scope cl L) ((compSt C σ scope cl x nm).set x (enc a)) elt (g a)))
    (hs : ∀ x, foldedSetIterable iter C.env x = pure x := by intro _; rfl) :
    EvC C σ elt [⟨.Name x px, iter, ifs, 0⟩] scope pos (FreshL σ ((xs.filter p).map g)) := by
  refine EvC.perm (EvC.run ok hx hv hi (by simpa using hlen) (fun k out nm => ∃ as : List Addr, as.length = ((xs.take k).filter p).length ∧ out = as.map .ref ∧ nm = (zipMu as (((xs.take k).filter p).map g)).reverse) ⟨[], by simp [zipMu]⟩ ?_ ?_ hs) ?_
  · rintro k out nm ⟨as, h1, rfl, rfl⟩
    rw [List.length_map, h1]
    exact Nat.le_trans (List.length_filter_le _ _) (by rw [List.length_take]; lia)
  · rintro L k d out nm hd ⟨as, hl, rfl, rfl⟩
    rw [List.getElem?_map] at hd
    obtain ⟨a, ha, rfl⟩ := Option.map_eq_some_iff.mp hd
    obtain ⟨hk1, hk2⟩ := (List.getElem?_eq_some_iff.mp ha)
    obtain ⟨h1, h2⟩ := step L (zipMu as (((xs.take k).filter p).map g)).reverse a (hk2 ▸ List.getElem_mem hk1)
    have ht : xs.take (k + 1) = xs.take k ++ [a] := by rw [List.take_add_one, ha]; rfl
    refine ⟨p a, h1, fun hp => ?_, fun hp => ?_⟩
    · refine EvX.mono (h2 hp) ?_
      rintro d mu ⟨b, rfl, rfl⟩
      refine ⟨as ++ [b], ?_, by simp, ?_⟩
      · rw [ht, List.filter_append]; simp [hp, hl]
      · rw [ht, List.filter_append, List.map_append, zipMu_append (by rw [List.length_map]; exact hl), List.reverse_append]
        simp [hp, zipMu]
        rfl
    · refine ⟨as, ?_, rfl, ?_⟩
      · rw [ht, List.filter_append]; simp [hp, hl]
      · rw [ht, List.filter_append]; simp [hp]
  · rintro d mu ⟨a, out, nm, ⟨as, hl, rfl, rfl⟩, rfl, rfl⟩
    refine ⟨(a, .list (as.map .ref)) :: (zipMu as ((xs.filter p).map g) ++ σ.mu), ?_, a, as, ?_, rfl, rfl⟩
    · refine List.Perm.cons _ (List.Perm.append_right _ ?_)
      rw [show xs.take (xs.map enc).length = xs by simp]
      exact (List.reverse_perm _).symm
    · rw [hl]; simp
end

/-! statements -/
inductive Out where
  | next
  | brk
  | cont
  | ret (d : D)
noncomputable def OutIs (F : Fz) : Flow → Out → Prop
  | .next, .next => True
  | .brk, .brk => True
  | .cont, .cont => True
  | .ret v, .ret d => Rep F v d
  | _, _ => False

noncomputable def WP (C : Cx) (σ : St) (ss : List Stmt) (Φ : Out → St → Prop) : Prop :=
  ∀ (K F : Fz) (s : Shared) (Q : Flow → Shared → Prop) (E : Value → Shared → Prop), Mo C K σ F s →
    (∀ f o F' s' σ', OutIs F' f o → Mo C K σ' F' s' → Fle F F' → Φ o σ' → Q f s') → wpAny C.G.M C.A (execs ss C.env) Q E s
noncomputable def WP1 (C : Cx) (σ : St) (st : Stmt) (Φ : Out → St → Prop) : Prop :=
  ∀ (K F : Fz) (s : Shared) (Q : Flow → Shared → Prop) (E : Value → Shared → Prop), Mo C K σ F s →
    (∀ f o F' s' σ', OutIs F' f o → Mo C K σ' F' s' → Fle F F' → Φ o σ' → Q f s') → wpAny C.G.M C.A (exec st C.env) Q E s

section
variable {C : Cx} {σ : St} {Φ : Out → St → Prop}
theorem WP.nil (h : Φ .next σ) : WP C σ [] Φ := fun K F s Q E X hQ => wpAny_execs_nil (hQ .next .next F s σ trivial X (Fle.refl _) h)
theorem WP.cons {st : Stmt} {ss : List Stmt} (h : WP1 C σ st fun o σ' => match o with | .next => WP C σ' ss Φ | o => Φ o σ') : WP C σ (st :: ss) Φ := fun K F s Q E X hQ => by
  refine wpAny_execs_cons (h K F s _ E X fun f o F' s' σ' ho X' g hΦ => ?_)
  cases o with
  | next =>
    cases f <;> try exact ho.elim
    exact hΦ K F' s' Q E X' fun f o F2 s2 σ2 ho2 X2 g2 h2 => hQ f o F2 s2 σ2 ho2 X2 (g.trans g2) h2
  | brk => cases f <;> first | exact ho.elim | exact hQ _ .brk F' s' σ' ho X' g hΦ
  | cont => cases f <;> first | exact ho.elim | exact hQ _ .cont F' s' σ' ho X' g hΦ
  | ret d => cases f <;> first | exact ho.elim | exact hQ _ (.ret d) F' s' σ' ho X' g hΦ
theorem WP.weak {ss : List Stmt} {σ' : St} (h : WP C σ' ss Φ) (hv : ∀ y d, σ'.vars.lookup y = some d → σ.vars.lookup y = some d) (hm : σ'.mu = σ.mu) : WP C σ ss Φ := fun K F s Q E X hQ =>
  h K F s Q E (X.weak hv hm) hQ
theorem WP.drop {ss : List Stmt} {mu' : Mu} (hs : mu'.Sublist σ.mu) (h : WP C (σ.setMu mu') ss Φ) : WP C σ ss Φ := fun K F s Q E X hQ =>
  h K F s Q E (X.sub (fun p hp => hs.subset hp) (X.am.nd.sublist (hs.map _))) hQ
theorem WP.perm {ss : List Stmt} {mu' : Mu} (hs : mu'.Perm σ.mu) (h : WP C (σ.setMu mu') ss Φ) : WP C σ ss Φ := fun K F s Q E X hQ =>
  h K F s Q E (X.perm hs) hQ

noncomputable def Stores (C : Cx) (x : Str) : Prop := C.env.kindOf x = some .local ∨ (C.env.kindOf x = some .cell ∧ ∃ c, C.env.cells.lookup x = some c ∧ c ∈ C.priv)
theorem sto {K F : Fz} {s : Shared} {x : Str} {v : Value} {d : D} {Q : Unit → Shared → Prop} {E : Value → Shared → Prop} (hx : Stores C x) (X : Mo C K σ F s) (r : Rep F v d) (hQ : ∀ s', Mo C K (σ.set x d) F s' → Q () s') : wpAny C.G.M C.A (storeName C.env x v) Q E s := by
  rcases hx with hx | ⟨hx, c, hc, hp⟩
  · obtain ⟨m, hn, hm⟩ := X.loc
    exact wpAny_storeName_local hx hn (fun h' hn' hs => hQ _ (X.storeL hm hx hs hn' r)) (by rw [X.ok.fn]; rfl)
  · obtain ⟨⟨v0, hv0⟩, _⟩ := X.live (x, c) (mem_of_lookup hc)
    exact wpAny_storeName_cell X.ok.fn hx hc hv0 fun h' hn hs => hQ _ (X.storeC (t := s.toks) hx hc hp hs hn r)

theorem WP.setX {x : Str} {p : Pos} {e : Expr} {R : D → Mu → Prop} {pos : Pos} {ss : List Stmt} (hx : Stores C x) (he : EvX C σ e R) (h : ∀ d mu, R d mu → WP C ((σ.setMu mu).set x d) ss Φ)
    (hs : swapsWith e (some (.Name x p)) pos.line C.env = pure false := by rfl) : WP C σ (.Assign [.Name x p] e pos :: ss) Φ :=
  WP.cons fun K F s Q E X hQ => wpAny_Assign_Name (he K F s _ E X fun F' v s' d mu r X' g r' => sto hx X' r' fun s2 X2 => hQ .next .next F' s2 _ trivial X2 g (h d mu r)) hs
theorem WP.set {x : Str} {p : Pos} {e : Expr} {d : D} {pos : Pos} {ss : List Stmt} (hx : Stores C x) (he : Ev C σ e d) (h : WP C (σ.set x d) ss Φ)
    (hs : swapsWith e (some (.Name x p)) pos.line C.env = pure false := by rfl) : WP C σ (.Assign [.Name x p] e pos :: ss) Φ :=
  WP.cons fun K F s Q E X hQ => wpAny_Assign_Name (he K F s _ E X fun F' v s' X' g r' => sto hx X' r' fun s2 X2 => hQ .next .next F' s2 _ trivial X2 g h) hs
theorem WP.setC {x : Str} {p : Pos} {elt : Expr} {gens : List Comprehension} {scope : Scope} {cpos : Pos} {R : D → Mu → Prop} {pos : Pos} {ss : List Stmt} (hx : C.env.kindOf x = some .local) (he : EvC C σ elt gens scope cpos R)
    (h : ∀ d mu, R d mu → WP C ((σ.setMu mu).set x d) ss Φ)
    (hs : swapsWith (.ListComp elt gens scope cpos) (some (.Name x p)) pos.line C.env = pure true := by rfl) : WP C σ (.Assign [.Name x p] (.ListComp elt gens scope cpos) pos :: ss) Φ :=
  WP.cons fun K F s Q E X hQ => by
    rw [exec_Assign_Name_used _ _ _ _ hs]
    refine wpAny_bind (wpAny_standAt (wpAny_bind ?_))
    show wpAny _ _ (do let _ ← comprehension (.ListComp elt gens scope cpos) scope C.env (firstIterPos gens cpos) (newList []) (firstAsync gens) (firstIter gens C.env) (some (assign (.Name x p) C.env))) _ _ s
    refine wpAny_bind (wpAny_mono (he (some (assign (.Name x p) C.env)) K F s (fun _ s' => Q .next s') E X fun F' a s' mu L hR X' g h1 h2 h3 h4 h5 => ?_) (fun _ s' hq => wpAny_pure (wpAny_pure hq)) fun _ _ e => e)
    obtain ⟨m, hm⟩ := h5
    show wpAny _ _ (assign (.Name x p) C.env (.ref a)) _ _ _
    obtain ⟨m0, hn0, hm0⟩ := X'.loc
    have hL : C.env.locals ≠ L := fun e => h4 (e ▸ X'.ok.loc)
    refine wpAny_assign_Name (wpAny_storeName_local hx hn0 (fun h2' hn2 hs2 => ?_) (by rw [X'.ok.fn]; rfl))
    have X2 := X'.storeL (t := s'.toks + 1) hm0 hx hs2 hn2 (Rep.ref a)
    refine ⟨m, hm.sameBut hs2 (Ne.symm hL), fun h3' hs3 => ?_⟩
    exact hQ .next .next F' _ _ trivial (X2.other (t := s'.toks + 1) hs3 h1 h2 h3 h4) g (h _ mu hR)

theorem WP.ifs {test : Expr} {b : Bool} {body orelse ss : List Stmt} {pos : Pos} (ht : EvT C σ test b)
    (h1 : b = true → WP C σ body fun o σ' => match o with | .next => WP C σ' ss Φ | o => Φ o σ') (h2 : b = false → WP C σ orelse fun o σ' => match o with | .next => WP C σ' ss Φ | o => Φ o σ') : WP C σ (.If test body orelse pos :: ss) Φ :=
  WP.cons fun K F s Q E X hQ => wpAny_If (ht K F s _ E X fun F' s' X' g => by
    have fin : ∀ f o F2 s2 σ2, OutIs F2 f o → Mo C K σ2 F2 s2 → Fle F' F2 → (match o with | .next => WP C σ2 ss Φ | o => Φ o σ2) → Q f s2 := fun f o F2 s2 σ2 ho X2 g2 r => hQ f o F2 s2 σ2 ho X2 (g.trans g2) r
    cases b with
    | true => exact h1 rfl K F' s' Q E X' fin
    | false => exact h2 rfl K F' s' Q E X' fin)

theorem WP.retX {e : Expr} {R : D → Mu → Prop} {pos : Pos} {ss : List Stmt} (he : EvX C σ e R) (h : ∀ d mu, R d mu → Φ (.ret d) (σ.setMu mu)) : WP C σ (.Return (some e) pos :: ss) Φ :=
  WP.cons fun K F s Q E X hQ => wpAny_Return_some (he K F s _ E X fun F' v s' d mu r X' g r' => hQ (.ret v) (.ret d) F' s' _ r' X' g (h d mu r))
theorem WP.ret {e : Expr} {d : D} {pos : Pos} {ss : List Stmt} (he : Ev C σ e d) (h : Φ (.ret d) σ) : WP C σ (.Return (some e) pos :: ss) Φ :=
  WP.cons fun K F s Q E X hQ => wpAny_Return_some (he K F s _ E X fun F' v s' X' g r' => hQ (.ret v) (.ret d) F' s' _ r' X' g h)
theorem WP.brk {pos : Pos} {ss : List Stmt} (h : Φ .brk σ) : WP C σ (.Break pos :: ss) Φ := WP.cons fun K F s Q E X hQ => wpAny_Break (hQ .brk .brk F s σ trivial X (Fle.refl _) h)
theorem WP.exprX {e : Expr} {R : D → Mu → Prop} {pos : Pos} {ss : List Stmt} (he : EvX C σ e R) (h : ∀ d mu, R d mu → WP C (σ.setMu mu) ss Φ)
    (hi : interactive C.env = false := by rfl) (hs : swapsWith e none pos.line C.env = pure false := by rfl) : WP C σ (.Expr e pos :: ss) Φ :=
  WP.cons fun K F s Q E X hQ => wpAny_Expr_any (he K F s _ E X fun F' v s' d mu r X' g r' => hQ .next .next F' s' _ trivial X' g (h d mu r)) hi hs

theorem WP.while {test : Expr} {body ss : List Stmt} {pos : Pos} (I : Nat → St → Prop) (n : Nat) (h0 : I n σ)
    (turn : ∀ n σ, I n σ → ∃ b, EvT C σ test b ∧ (b = true → WP C σ body fun o σ' => match o with | .next => ∃ m, m < n ∧ I m σ' | .cont => ∃ m, m < n ∧ I m σ' | .brk => WP C σ' ss Φ | .ret d => Φ (.ret d) σ') ∧ (b = false → WP C σ ss Φ)) :
    WP C σ (.While test body [] pos :: ss) Φ := WP.cons fun K F s Q E X hQ => by
  refine wpAny_While (codeAny_whileLoop (prog := C.G.prog) (w := C.G.w) (fun n s' => ∃ σ' F', I n σ' ∧ Mo C K σ' F' s' ∧ Fle F F') ?_ n ⟨σ, F, h0, X, Fle.refl _⟩)
  rintro n s1 ⟨σ1, F1, hI, X1, g1⟩
  obtain ⟨b, ht, hb, he⟩ := turn n σ1 hI
  refine ht K F1 s1 _ _ X1 fun F2 s2 X2 g2 => ?_
  cases b with
  | false =>
    simp only [Bool.false_eq_true, if_false]
    exact wpAny_execs_nil (hQ .next .next F2 s2 σ1 trivial X2 (g1.trans g2) (he rfl))
  | true =>
    simp only [if_true]
    refine hb rfl K F2 s2 _ _ X2 fun f o F3 s3 σ3 ho X3 g3 hΦ => ?_
    have g := (g1.trans g2).trans g3
    cases o with
    | next => cases f <;> first | exact ho.elim | (obtain ⟨m, hm, hI'⟩ := hΦ; exact ⟨m, hm, σ3, F3, hI', X3, g⟩)
    | cont => cases f <;> first | exact ho.elim | (obtain ⟨m, hm, hI'⟩ := hΦ; exact ⟨m, hm, σ3, F3, hI', X3, g⟩)
    | brk => cases f <;> first | exact ho.elim | exact hQ .next .next F3 s3 σ3 trivial X3 g hΦ
    | ret d => cases f <;> first | exact ho.elim | exact hQ _ (.ret d) F3 s3 σ3 ho X3 g hΦ

theorem WP.for {target iter : Expr} {body orelse ss : List Stmt} {pos : Pos} {d : D} {ds : List D} (I : Nat → St → Prop) (he : Ev C σ iter d) (hi : d = .list ds ∨ ∃ lo hi, d = .rng lo hi ∧ ds = rints lo hi ∧ (-1000000 ≤ lo ∧ lo ≤ 1000000 ∧ -1000000 ≤ hi ∧ hi ≤ 1000000))
    (h0 : I 0 σ) (τ : D → St → St) (hτ : ∀ d σ m, τ d (σ.setMu m) = (τ d σ).setMu m) (hτm : ∀ d σ, (τ d σ).mu = σ.mu) (hasg : ∀ d σ, Asg C σ target d (τ d σ))
    (turn : ∀ k d σ, ds[k]? = some d → I k σ → WP C (τ d σ) body fun o σ' => match o with | .next => I (k + 1) σ' | .cont => I (k + 1) σ' | .brk => WP C σ' ss Φ | .ret d => Φ (.ret d) σ')
    (done : ∀ σ, I ds.length σ → WP C σ orelse fun o σ' => match o with | .next => WP C σ' ss Φ | o => Φ o σ')
    (hs : ∀ x, foldedSetIterable iter C.env x = pure x := by intro _; rfl) (ht : ∀ it v, letOwnedTupleGo target it v = pure () := by intro _ _; rfl) : WP C σ (.For target iter body orelse pos :: ss) Φ := WP.cons fun K F s Q E X hQ => by
  refine wpAny_For (he K F s _ E X fun F1 v s1 X1 g1 r1 => ?_) hs
  have S : Src K F1 v ds := by
    rcases hi with rfl | ⟨lo, hi, rfl, rfl, hb⟩
    · obtain ⟨a, o, vs, rfl, h1, h2, h3⟩ := r1.list_inv
      exact .list (.inl h1) h2 h3
    · obtain ⟨a, o, rfl, h1, h2⟩ := r1.rng_inv
      exact .rng h1 h2 hb
  refine pyIter_src X.ok.rm.hh S X1.am.frz X1.am.keep fun o P hf hP ITA => ?_
  have IT := ITA C.A X.ok.rm.hh
  have X2 := X1.allocMu o (.obj (P 0)) s1.toks ⟨o, Heap.get?_push_size _ hf, hP⟩
  generalize hit : s1.heap.objs.size = it at X2 IT ⊢
  obtain ⟨c1, c2⟩ := X2.apartMu (p := (it, .obj (P 0))) (.head _)
  refine codeAny_forLoop (prog := C.G.prog) (w := C.G.w) (fun n s' => ∃ k σ' F', n + k = ds.length ∧ I k σ' ∧ Mo C K (σ'.setMu ((it, .obj (P k)) :: σ'.mu)) F' s' ∧ Fle F1 F') ?_ ds.length ⟨0, σ, F1, by simp, h0, X2, Fle.refl _⟩ (ht _)
  rintro n s3 ⟨k, σ3, F3, hn, hI, X3, g3⟩
  have hit3 : ∃ o, s3.heap.get? it = some o ∧ P k o := (X3.am.mus (it, .obj (P k)) (.head _)).1
  cases n with
  | zero =>
    have hk : k = ds.length := by lia
    subst hk
    refine IT.stop F3 s3 _ _ g3 X3.am.frz X3.am.keep hit3 fun h' t hs' => ?_
    have X4 := X3.dropExt (t := t) rfl hs'
    refine done σ3 hI K F3 _ _ _ X4 fun f o F5 s5 σ5 ho X5 g5 hΦ => ?_
    exact hQ f o F5 s5 σ5 ho X5 ((g1.trans g3).trans g5) hΦ
  | succ n =>
    have hk : k < ds.length := by lia
    refine IT.item k ds[k] F3 s3 _ _ g3 X3.am.frz X3.am.keep (List.getElem?_eq_getElem hk) hit3 fun h' v t hs' hit' hr => ?_
    have X4 := X3.turn (pre := []) (mo' := .obj (P (k + 1))) (t := t) rfl hs' hit'
    refine hasg ds[k] _ K F3 _ v _ _ X4 hr fun s5 X5 => ?_
    rw [hτ] at X5
    obtain ⟨oi, hoi, ⟨oi', hoi', hPi⟩, hKi, X6⟩ := X5.hide (a := it) (mo := .obj (P (k + 1))) (mu := σ3.mu) rfl
    rw [hoi] at hoi'; cases hoi'
    have e6 : ((τ ds[k] σ3).setMu ((it, MO.obj (P (k + 1))) :: σ3.mu)).setMu σ3.mu = τ ds[k] σ3 := by
      show (τ ds[k] σ3).setMu σ3.mu = _
      rw [← hτm ds[k] σ3]; rfl
    have e7 : ((τ ds[k] (σ3.setMu ((it, MO.obj (P k)) :: σ3.mu))).setMu ([] ++ (it, MO.obj (P (k + 1))) :: σ3.mu)).setMu σ3.mu = τ ds[k] σ3 := by
      rw [hτ]; exact e6
    rw [show ∀ m, ((τ ds[k] (σ3.setMu ((it, MO.obj (P k)) :: σ3.mu))).setMu m).setMu σ3.mu = τ ds[k] σ3 from fun m => by rw [hτ]; exact e6] at X6
    refine turn k ds[k] σ3 (List.getElem?_eq_getElem hk) hI (K.put it oi) F3 s5 _ _ X6 fun f o F7 s7 σ7 ho X7 g7 hΦ => ?_
    have hi7 : s7.heap.get? it = some oi := X7.am.keep _ _ (Fz.put_self _ _ _)
    have X8 := X7.show hKi (mo := .obj (P (k + 1))) ⟨oi, hi7, hPi⟩ c1 c2 (X.ok.mon _ _ _ _ X5.pre (Fle.refl _) g7)
    have X9 := X8.sub (mu' := σ7.mu) (fun p hp => .tail _ hp) X7.am.nd
    cases o with
    | next => cases f <;> first | exact ho.elim | exact ⟨n, Nat.lt_succ_self n, k + 1, σ7, F7, by lia, hΦ, X8, g3.trans g7⟩
    | cont => cases f <;> first | exact ho.elim | exact ⟨n, Nat.lt_succ_self n, k + 1, σ7, F7, by lia, hΦ, X8, g3.trans g7⟩
    | brk => cases f <;> first | exact ho.elim | exact hQ .next .next F7 s7 σ7 trivial X9 ((g1.trans g3).trans g7) hΦ
    | ret d => cases f <;> first | exact ho.elim | exact hQ _ (.ret d) F7 s7 σ7 ho X9 ((g1.trans g3).trans g7) hΦ
end
end Mine
end

section
set_option Elab.async false
set_option linter.unusedVariables false
set_option linter.unusedSimpArgs false
namespace Mine
open PySem PySem.W PyProof.Rows PySem.Calls

noncomputable def MuSet (mu : Mu) (a : Addr) (m m' : MO) (mu' : Mu) : Prop := ∃ pre post, mu = pre ++ (a, m) :: post ∧ mu' = pre ++ (a, m') :: post
theorem MuSet.head {mu : Mu} {a : Addr} {m m' : MO} : MuSet ((a, m) :: mu) a m m' ((a, m') :: mu) := ⟨[], mu, rfl, rfl⟩
theorem MuSet.tail {mu mu' : Mu} {a : Addr} {m m' : MO} {p : Addr × MO} (h : MuSet mu a m m' mu') : MuSet (p :: mu) a m m' (p :: mu') := by
  obtain ⟨pre, post, rfl, rfl⟩ := h
  exact ⟨p :: pre, post, rfl, rfl⟩
theorem MuSet.left {mu mu' nu : Mu} {a : Addr} {m m' : MO} (h : MuSet mu a m m' mu') : MuSet (mu ++ nu) a m m' (mu' ++ nu) := by
  obtain ⟨pre, post, rfl, rfl⟩ := h
  exact ⟨pre, post ++ nu, by simp, by simp⟩
theorem MuSet.right {mu mu' nu : Mu} {a : Addr} {m m' : MO} (h : MuSet mu a m m' mu') : MuSet (nu ++ mu) a m m' (nu ++ mu') := by
  obtain ⟨pre, post, rfl, rfl⟩ := h
  exact ⟨nu ++ pre, post, by simp, by simp⟩
theorem MuSet.mem {mu mu' : Mu} {a : Addr} {m m' : MO} (h : MuSet mu a m m' mu') : (a, m) ∈ mu := by
  obtain ⟨pre, post, rfl, rfl⟩ := h
  simp
section
variable {C : Cx} {σ : St} {Φ : Out → St → Prop}
theorem Mo.set {K F : Fz} {s : Shared} {h' : Heap} {a : Addr} {mo mo' : MO} {mu' : Mu} {t : Nat} (X : Mo C K σ F s) (hm : MuSet σ.mu a mo mo' mu') (hs : Heap.SameBut a s.heap h') (h : mo'.At F h' a) : Mo C K (σ.setMu mu') F { s with heap := h', toks := t } := by
  obtain ⟨pre, post, h1, rfl⟩ := hm
  exact X.turn h1 hs h

theorem Mo.upd {K F : Fz} {s : Shared} {a : Addr} {ds ds' : List D} {vs ws : List Value} {n : Nat} {mu' : Mu} {t : Nat} {f : Array Value → Array Value} (X : Mo C K σ F s) (hm : MuSet σ.mu a (.list ds) (.list ds') mu') (h1 : IsL s.heap a vs.toArray n)
    (hf : f vs.toArray = ws.toArray) (hw : ws.length ≤ 100000) (hr : RepL F ws ds') : Mo C K (σ.setMu mu') F { s with heap := s.heap.update a (Obj.mapSeq f), toks := t } := by
  have := IsL.update h1 f
  rw [hf] at this
  exact X.set hm (Heap.SameBut.update ..) ⟨_, ws, this, ⟨hw, _, rfl⟩, hr⟩

theorem EvX.append {o elt : Expr} {apos pos : Pos} {a : Addr} {ds : List D} {e : D} {mu' : Mu} (ho : Ev C σ o (.ref a)) (he : Ev C σ elt e) (hm : MuSet σ.mu a (.list ds) (.list (ds ++ [e])) mu') (hl : ds.length < 100000)
    (hbase : attributeBase o "append" C.env (eval o C.env) = eval o C.env := by rfl)
    (hfew : ((backTo pos (starEach [elt] C.env)).all (fun x => !x.1) && (backToKw pos (keywordEach [] C.env)).all (fun x => x.1.isSome) && decide (([elt] : List Expr).length + ([] : List Keyword).length + (if ([] : List Keyword).isEmpty then 0 else 1) < 30)) = true := by rfl)
    (hline : (apos.endLine == pos.line) = true := by rfl) (htrees : backTo pos (starEach [elt] C.env) = [(false, eval elt C.env)] := by rfl) :
    EvX C σ (.Call (.Attribute o "append" apos) [elt] [] pos) (fun d mu => d = .none ∧ mu = mu') := fun K F s Q E X hQ => by
  refine wpAny_Call_method (T := "list") (id := "list.append") hbase hfew hline PySem.F.plainAttrs_list PySem.F.slot_list_append PySem.F.type_list_append (ho K F s _ E X fun F1 v s1 X1 g1 r1 => ?_)
  cases r1.ref_inv
  obtain ⟨vs, n, h1, h2, h3⟩ := (X1.am.mus _ hm.mem).1.isL
  refine ⟨⟨_, h1, rfl⟩, fun b hb => by cases hb; exact ⟨_, h1, rfl⟩, ?_⟩
  rw [htrees]
  refine P.append_list (he K F1 s1 _ E X1 fun F2 w s2 X2 g2 r2 => ?_)
  obtain ⟨vs', n', k1, k2, k3⟩ := (X2.am.mus _ hm.mem).1.isL
  have hl2 := k2.length
  refine ⟨vs'.toArray, n', by rw [List.size_toArray]; exact fitsSz (by lia), k1, ?_⟩
  exact hQ F2 _ _ _ _ ⟨rfl, rfl⟩ (X2.upd (t := s2.toks) hm k1 (ws := vs' ++ [w]) (by simp) (by simp; lia) (k2.append (.cons r2 .nil))) (g1.trans g2) .none

theorem EvX.pop {o : Expr} {apos pos : Pos} {a : Addr} {ds : List D} {e : D} {mu' : Mu} (ho : Ev C σ o (.ref a)) (hm : MuSet σ.mu a (.list (ds ++ [e])) (.list ds) mu')
    (hbase : attributeBase o "pop" C.env (eval o C.env) = eval o C.env := by rfl) (hline : (apos.endLine == pos.line) = true := by rfl) :
    EvX C σ (.Call (.Attribute o "pop" apos) [] [] pos) (fun d mu => d = e ∧ mu = mu') := fun K F s Q E X hQ => by
  refine wpAny_Call_method (T := "list") (id := "list.pop") hbase rfl hline PySem.F.plainAttrs_list PySem.F.slot_list_pop PySem.F.type_list_pop (ho K F s _ E X fun F1 v s1 X1 g1 r1 => ?_)
  cases r1.ref_inv
  obtain ⟨vs, n, h1, h2, h3⟩ := (X1.am.mus _ hm.mem).1.isL
  refine ⟨⟨_, h1, rfl⟩, fun b hb => by cases hb; exact ⟨_, h1, rfl⟩, ?_⟩
  have hl2 := h2.length
  rw [List.length_append] at hl2
  simp only [List.length_cons, List.length_nil] at hl2
  obtain ⟨v, hv, hr⟩ := h2.get (i := ds.length) (d := e) (by simp)
  have hi : vs.length - 1 = ds.length := by lia
  refine P.pop_list h1 (y := v) (by rw [List.size_toArray, hi]; simpa using hv) ?_ (by rw [List.size_toArray]; exact fitsSz (by lia))
  have hrl := h2.eraseIdx ds.length
  rw [show (ds ++ [e]).eraseIdx ds.length = ds by rw [List.eraseIdx_append_of_length_le (Nat.le_refl _)]; simp] at hrl
  exact hQ F1 _ _ _ _ ⟨rfl, rfl⟩ (X1.upd (t := s1.toks) hm h1 (ws := vs.eraseIdx ds.length) (by
    rw [List.size_toArray, hi]
    have : ds.length < vs.toArray.size := by rw [List.size_toArray]; lia
    simp [Array.eraseIdxIfInBounds, show ds.length < vs.length by lia]) (by have := List.length_eraseIdx_le vs ds.length; lia) hrl) g1 hr

theorem WP.del0 {o i : Expr} {p pos : Pos} {a : Addr} {e : D} {ds : List D} {mu' : Mu} {ss : List Stmt} (ho : Ev C σ o (.ref a)) (hi : Ev C σ i (.int 0)) (hm : MuSet σ.mu a (.list (e :: ds)) (.list ds) mu') (h : WP C (σ.setMu mu') ss Φ) :
    WP C σ (.Delete [.Subscript o i p] pos :: ss) Φ := WP.cons fun K F s Q E X hQ => by
  refine wpAny_Delete (wpAny_deleteEach_cons (wpAny_delete_Subscript (ho K F s _ E X fun F1 v s1 X1 g1 r1 => hi K F1 s1 _ E X1 fun F2 w s2 X2 g2 r2 => ?_)))
  cases (r1.mono g2).ref_inv
  obtain ⟨t, rfl⟩ := r2.int_inv
  obtain ⟨vs, n, h1, h2, h3⟩ := (X2.am.mus _ hm.mem).1.isL
  have hl := h2.length
  simp only [List.length_cons] at hl
  refine P.delItem_list h1 (by decide) (k := 0) (seqIndex_of (k := 0) (by lia) (by rw [List.size_toArray]; lia)) ?_ (by rw [List.size_toArray]; exact fitsSz (by lia))
  refine wpAny_deleteEach_nil ?_
  have hrl := h2.eraseIdx 0
  exact hQ .next .next F2 _ _ trivial (X2.upd (t := s2.toks) hm h1 (ws := vs.eraseIdx 0) (by simp [Array.eraseIdxIfInBounds, show 0 < vs.length by lia]) (by have := List.length_eraseIdx_le vs 0; lia) hrl) (g1.trans g2) h

theorem WP.setItem {o i e : Expr} {p pos : Pos} {a : Addr} {k : Int} {d : D} {ds : List D} {mu' : Mu} {ss : List Stmt} (he : Ev C σ e d) (ho : Ev C σ o (.ref a)) (hi : Ev C σ i (.int k)) (h0 : 0 ≤ k) (hk : k.toNat < ds.length)
    (hm : MuSet σ.mu a (.list ds) (.list (ds.set k.toNat d)) mu') (h : WP C (σ.setMu mu') ss Φ) (hs : swapsWith e (some (.Subscript o i p)) pos.line C.env = pure false := by rfl) :
    WP C σ (.Assign [.Subscript o i p] e pos :: ss) Φ := WP.cons fun K F s Q E X hQ => by
  refine wpAny_Assign_Subscript (he K F s _ E X fun F0 u s0 X0 g0 r0 => ho K F0 s0 _ E X0 fun F1 v s1 X1 g1 r1 => hi K F1 s1 _ E X1 fun F2 w s2 X2 g2 r2 => ?_) hs
  cases (r1.mono g2).ref_inv
  obtain ⟨t, rfl⟩ := r2.int_inv
  obtain ⟨vs, n, h1, h2, h3⟩ := (X2.am.mus _ hm.mem).1.isL
  have hl := h2.length
  refine ki_setAt (n := n) h1 h0 (by lia) (by rw [List.size_toArray]; lia) ?_
  exact hQ .next .next F2 _ _ trivial (X2.upd (t := s2.toks) hm h1 (ws := vs.set k.toNat u) (by simp) (by rw [List.length_set]; exact h3) (h2.set _ ((r0.mono g1).mono g2))) ((g0.trans g1).trans g2) h

theorem WP.unpack {x y : Str} {px py tp pos : Pos} {k : Nat} {e : Expr} {d1 d2 : D} {ss : List Stmt} (hx : Stores C x) (hy : Stores C y) (he : Ev C σ e (.tup [d1, d2])) (h : WP C ((σ.set x d1).set y d2) ss Φ)
    (hs : swapsWithSole [.Tuple [.Name x px, .Name y py] k tp] e pos.line C.env = pure false := by rfl) (hw : swappedStores [.Tuple [.Name x px, .Name y py] k tp] e C.env = pure none := by rfl) :
    WP C σ (.Assign [.Tuple [.Name x px, .Name y py] k tp] e pos :: ss) Φ := WP.cons fun K F s Q E X hQ => by
  refine Assign_Tuple (he K F s _ E X fun F1 v s1 X1 g1 r1 => ?_) hs hw
  obtain ⟨a, vs, n, rfl, h1, h2, h3⟩ := tup_at X1 r1
  obtain ⟨va, vb, rfl, ra, rb⟩ : ∃ va vb, vs = [va, vb] ∧ Rep F1 va d1 ∧ Rep F1 vb d2 := by
    cases h2 with
    | cons ra t => cases t with
      | cons rb t => cases t with
        | nil => exact ⟨_, _, rfl, ra, rb⟩
  refine wpAny_assign_Tuple (items := #[va, vb]) X1.ok.rm.hh ⟨_, h1, rfl, n, rfl⟩ rfl rfl fun h' hs' => ?_
  have X2 : Mo C K σ F1 { s1 with heap := h' } := X1.grow (t := s1.toks) (fun b o e => hs' b o (fun q => by subst q; exact Nat.lt_irrefl _ (Heap.lt_size e)) e) (Fle.refl _) (fun _ _ e => .inl e) (fun b o e => hs' b o (fun q => by subst q; exact Nat.lt_irrefl _ (Heap.lt_size (X1.am.frz _ _ e))) (X1.am.frz _ _ e))
  refine wpAny_assignInOrder_more (wpAny_assign_Name (sto hx X2 ra fun s3 X3 => ?_))
  refine wpAny_assignInOrder_more (wpAny_assign_Name (sto hy X3 rb fun s4 X4 => ?_))
  exact wpAny_assignInOrder_none (hQ .next .next F1 _ _ trivial X4 g1 h)

/-! what turned stays from now on -/
noncomputable def DLe (F : Fz) (d e : D) : Prop := ∀ v, Rep F v d → Rep F v e
theorem WP.freeze {a : Addr} {ds : List D} {mu : Mu} {vars : List (Str × D)} {ss : List Stmt} (hσ : σ.mu = (a, .list ds) :: mu) (hv : ∀ y e, vars.lookup y = some e → σ.vars.lookup y = some e ∨ (σ.vars.lookup y = some (.ref a) ∧ e = .list ds))
    (h : WP C { vars := vars, mu := mu } ss Φ) : WP C σ ss Φ := fun K F s Q E X hQ => by
  obtain ⟨o, ho, ⟨o', vs, h1, h2, h3⟩, hF, X'⟩ := X.freeze hσ
  rw [ho] at h1; cases h1
  have g : Fle F (F.put a o) := Fle.put hF o
  refine h K (F.put a o) s Q E ?_ fun f oo F' s' σ' ho' X2 g2 r => hQ f oo F' s' σ' ho' X2 (g.trans g2) r
  obtain ⟨m, hn, hm⟩ := X'.loc
  refine ⟨X'.ok, X'.am, X'.priv, X'.live, ⟨m, hn, fun y e hy => ?_⟩, X'.pmu, X'.ro, X'.pre⟩
  rcases hv y e hy with h' | ⟨h', rfl⟩
  · exact hm y e h'
  · obtain ⟨v, q1, q2⟩ := hm y _ h'
    cases q2.ref_inv
    exact ⟨_, q1, .list (Fz.put_self _ _ _) h2 (h3.mono g)⟩
theorem WP.frz {a : Addr} {ds : List D} {mu : Mu} (new : List (Str × D)) {ss : List Stmt} (hσ : σ.mu = (a, .list ds) :: mu) (hv : ∀ p ∈ new, σ.vars.lookup p.1 = some p.2 ∨ (σ.vars.lookup p.1 = some (.ref a) ∧ p.2 = .list ds))
    (h : WP C { vars := new, mu := mu } ss Φ) : WP C σ ss Φ := WP.freeze hσ (fun y e hy => hv (y, e) (mem_of_lookup hy)) h
theorem WP.keep (new : List (Str × D)) {ss : List Stmt} (hv : ∀ p ∈ new, σ.vars.lookup p.1 = some p.2) (h : WP C { vars := new, mu := σ.mu } ss Φ) : WP C σ ss Φ := WP.weak h (fun y e hy => hv (y, e) (mem_of_lookup hy)) rfl
theorem Mo.freezeAll {K : Fz} {s : Shared} : ∀ {as : List Addr} {gs : List (List D)} {mu : Mu} {F : Fz} {σ : St}, as.length = gs.length → Mo C K σ F s → σ.mu = zipMu as gs ++ mu →
    ∃ F', Fle F F' ∧ Mo C K (σ.setMu mu) F' s ∧ RepL F' (as.map .ref) (gs.map .list)
  | [], [], mu, F, σ, _, X, hσ => by
    have : σ.mu = mu := hσ
    subst this
    exact ⟨F, Fle.refl _, X, .nil⟩
  | a :: as, g :: gs, mu, F, σ, hl, X, hσ => by
    obtain ⟨o, ho, ⟨o', vs, h1, h2, h3⟩, hF, X'⟩ := X.freeze (mu := zipMu as gs ++ mu) hσ
    rw [ho] at h1; cases h1
    have g1 : Fle F (F.put a o) := Fle.put hF o
    obtain ⟨F', g2, X2, r2⟩ := Mo.freezeAll (as := as) (gs := gs) (mu := mu) (by simpa using hl) X' rfl
    exact ⟨F', g1.trans g2, X2, .cons (.list (g2 _ _ (Fz.put_self _ _ _)) h2 (h3.mono (g1.trans g2))) r2⟩
  | [], _ :: _, _, _, _, h, _, _ => by simp at h
  | _ :: _, [], _, _, _, h, _, _ => by simp at h
theorem RepL.refs {F : Fz} : ∀ {as : List Addr} {vs : List Value}, RepL F vs (as.map .ref) → vs = as.map .ref
  | [], _, h => by cases h; rfl
  | a :: as, _, h => by
    cases h with
    | cons h t => rw [h.ref_inv, RepL.refs t]; rfl
theorem WP.freezeL {a : Addr} {as : List Addr} {gs : List (List D)} {mu : Mu} {vars : List (Str × D)} {ss : List Stmt} (hl : as.length = gs.length) (hσ : σ.mu = (a, .list (as.map .ref)) :: (zipMu as gs ++ mu))
    (hv : ∀ y e, vars.lookup y = some e → σ.vars.lookup y = some e ∨ (σ.vars.lookup y = some (.ref a) ∧ e = .list (gs.map .list))) (h : WP C { vars := vars, mu := mu } ss Φ) : WP C σ ss Φ := fun K F s Q E X hQ => by
  obtain ⟨F1, g1, X1, r1⟩ := Mo.freezeAll (mu := (a, .list (as.map .ref)) :: mu) hl (X.perm (mu' := zipMu as gs ++ (a, .list (as.map .ref)) :: mu) (by rw [hσ]; exact List.perm_middle)) rfl
  obtain ⟨o, ho, ⟨o', vs, h1, h2, h3⟩, hF, X'⟩ := X1.freeze rfl
  rw [ho] at h1; cases h1
  have g : Fle F1 (F1.put a o) := Fle.put hF o
  refine h K (F1.put a o) s Q E ?_ fun f oo F' s' σ' ho' X2 g2 r => hQ f oo F' s' σ' ho' X2 ((g1.trans g).trans g2) r
  obtain ⟨m, hn, hm⟩ := X'.loc
  refine ⟨X'.ok, X'.am, X'.priv, X'.live, ⟨m, hn, fun y e hy => ?_⟩, X'.pmu, X'.ro, X'.pre⟩
  rcases hv y e hy with h' | ⟨h', rfl⟩
  · exact hm y e h'
  · obtain ⟨v, q1, q2⟩ := hm y _ h'
    cases q2.ref_inv
    cases h3.refs
    exact ⟨_, q1, .list (Fz.put_self _ _ _) h2 (r1.mono g)⟩
theorem Ev.of_fresh {e : Expr} {gs : List (List D)} (h : EvX C σ e (FreshL σ gs)) : Ev C σ e (.list (gs.map .list)) := fun K F s Q E X hQ =>
  h K F s Q E X fun F' v s' d mu ⟨a, as, hl, e1, e2⟩ X' g r => by
    subst e1 e2
    obtain ⟨F1, g1, X1, r1⟩ := Mo.freezeAll (mu := (a, .list (as.map .ref)) :: σ.mu) hl (X'.perm (mu' := zipMu as gs ++ (a, .list (as.map .ref)) :: σ.mu) List.perm_middle) rfl
    obtain ⟨o, ho, ⟨o', vs, h1, h2, h3⟩, hF, X2⟩ := X1.freeze rfl
    rw [ho] at h1; cases h1
    have g2 : Fle F1 (F1.put a o) := Fle.put hF o
    cases r.ref_inv
    cases h3.refs
    exact hQ _ _ _ X2 ((g.trans g1).trans g2) (.list (Fz.put_self _ _ _) h2 (r1.mono g2))
end
end Mine
end

section
set_option Elab.async false
set_option linter.unusedVariables false
set_option linter.unusedSimpArgs false
namespace Mine
open PySem PySem.W PyProof.Rows PySem.Calls

noncomputable abbrev zs (ns : List Int) : List D := ns.map .int
theorem RepL.ints {F : Fz} : ∀ {vs : List Value} {ns : List Int}, RepL F vs (zs ns) → IntsAre vs ns
  | _, [], h => by cases h; exact .nil
  | _, n :: ns, h => by
    cases h with
    | cons h t =>
      obtain ⟨u, rfl⟩ := h.int_inv
      exact .cons _ _ (RepL.ints t)
theorem RepL.of_get {F : Fz} : ∀ {vs : List Value} {ds : List D}, vs.length = ds.length → (∀ (j : Nat) (v : Value) (d : D), vs[j]? = some v → ds[j]? = some d → Rep F v d) → RepL F vs ds
  | [], [], _, _ => .nil
  | v :: vs, d :: ds, hl, h => .cons (h 0 v d rfl rfl) (RepL.of_get (by simpa using hl) fun j v d h1 h2 => h (j + 1) v d (by simpa using h1) (by simpa using h2))
  | [], _ :: _, hl, _ => by simp at hl
  | _ :: _, [], hl, _ => by simp at hl

section
variable {C : Cx} {σ : St} {Φ : Out → St → Prop}

theorem Mo.kept {K F : Fz} {s : Shared} {h' : Heap} {t : Nat} (X : Mo C K σ F s) (hk : ∀ b o, s.heap.get? b = some o → h'.get? b = some o) : Mo C K σ F { s with heap := h', toks := t } :=
  X.grow hk (Fle.refl _) (fun _ _ e => .inl e) fun b o e => hk b o (X.am.frz _ _ e)
theorem Mo.addMu {K F : Fz} {s : Shared} {h' : Heap} {t : Nat} {a : Addr} {mo : MO} (X : Mo C K σ F s) (hk : ∀ b o, s.heap.get? b = some o → h'.get? b = some o) (ha : s.heap.get? a = none) (hm : mo.At F h' a) :
    Mo C K (σ.setMu ((a, mo) :: σ.mu)) F { s with heap := h', toks := t } := by
  have X' := X.kept (t := t) hk
  have hF : F a = none := by
    cases e : F a with
    | none => rfl
    | some o => rw [X.am.frz _ _ e] at ha; cases ha
  have hK : K a = none := by
    cases e : K a with
    | none => rfl
    | some o => rw [X.am.keep _ _ e] at ha; cases ha
  have hmu : ∀ p ∈ σ.mu, p.1 ≠ a := fun p hp e => by
    obtain ⟨o, ho⟩ := (X.am.mus p hp).1.some
    rw [e, ha] at ho; cases ho
  have A := X'.am
  refine X'.with ⟨A.ok, A.base, A.frz, A.dis, A.keep, fun p hp => ?_, ?_, A.gens, A.drawn, A.os⟩ (fun b hb => ⟨(X'.priv b hb).1, rfl⟩) (Fle.refl _) fun p hp => ?_
  · rcases List.mem_cons.mp hp with rfl | hp
    · exact ⟨hm, hF, hK⟩
    · exact A.mus p hp
  · rw [List.map_cons, List.nodup_cons]
    refine ⟨fun hq => ?_, A.nd⟩
    obtain ⟨p, hp, e⟩ := List.mem_map.mp hq
    exact hmu p hp e
  · rcases List.mem_cons.mp hp with rfl | hp
    · intro hb
      obtain ⟨o, ho⟩ := (X.priv _ hb).2.2
      rw [ha] at ho; cases ho
    · exact X.pmu p hp

structure BN (C : Cx) (x : Str) (v : Value) : Prop where
  kind : C.env.kindOf x = some .globalImplicit
  mg : C.G.mg x = none
  mb : C.G.mb x = some v
  nd : (x == ("__debug__" : Str)) = false

noncomputable def C1 (C : Cx) (σ : St) (f : Value) (d : D) (R : D → Mu → Prop) : Prop :=
  ∀ (K F : Fz) (s : Shared) (v : Value) (Q : Value → Shared → Prop) (E : Value → Shared → Prop), Mo C K σ F s → Rep F v d →
    (∀ F' v' s' d' mu, R d' mu → Mo C K (σ.setMu mu) F' s' → Fle F F' → Rep F' v' d' → Q v' s') → wpAny C.G.M C.A (call f [v]) Q E s
noncomputable def C2 (C : Cx) (σ : St) (f : Value) (d1 d2 : D) (R : D → Mu → Prop) : Prop :=
  ∀ (K F : Fz) (s : Shared) (v1 v2 : Value) (Q : Value → Shared → Prop) (E : Value → Shared → Prop), Mo C K σ F s → Rep F v1 d1 → Rep F v2 d2 →
    (∀ F' v' s' d' mu, R d' mu → Mo C K (σ.setMu mu) F' s' → Fle F F' → Rep F' v' d' → Q v' s') → wpAny C.G.M C.A (call f [v1, v2]) Q E s
noncomputable def IsBT (f : Value) : Prop := (∃ id, f = .builtin id) ∨ ∃ T, f = .type T

theorem callWith_bt {pos : Pos} {f : Value} {args : List (Bool × Sem Value)} {Q : Value → Shared → Prop} {E : Value → Shared → Prop} {M : Model} {A : Around} {s : Shared} (hf : IsBT f) (hplain : args.any (·.1) = false)
    (h : wpAny M A (evalArgs f true args []) (fun a s₁ => wpAny M A (call f ([] ++ a.pos) a.kw) Q E s₁) E s) : wpAny M A (callWith pos f [] args []) Q E s := by
  rcases hf with ⟨id, rfl⟩ | ⟨T, rfl⟩
  · exact callWith_builtin hplain h
  · exact PyProof.Rows.callWith_type hplain h
theorem EvX.call1 {x : Str} {p pos : Pos} {f : Value} {e : Expr} {d : D} {R : D → Mu → Prop} (hf : IsBT f) (hb : BN C x f) (he : Ev C σ e d) (h : C1 C σ f d R)
    (hs : starEach [e] C.env = [(false, eval e C.env)] := by rfl) : EvX C σ (.Call (.Name x p) [e] [] pos) R := fun K F s Q E X hQ => by
  refine Call_Name1 (bName X hb.kind hb.mg hb.mb ?_ hb.nd) hs
  refine callWith_bt hf rfl (Calls.evalArgs_plain (Calls.spliced_cons (he K F s _ E X fun F1 v s1 X1 g1 r1 => Calls.spliced_nil ?_)))
  exact h K F1 s1 v Q E X1 r1 fun F' v' s' d' mu hR X' g r => hQ F' v' s' d' mu hR X' (g1.trans g) r
noncomputable def Just (σ : St) (d : D) (d' : D) (mu : Mu) : Prop := d' = d ∧ mu = σ.mu
theorem Ev.of_just {e : Expr} {d : D} (h : EvX C σ e (Just σ d)) : Ev C σ e d := fun K F s Q E X hQ => h K F s Q E X fun F' v s' d' mu ⟨e1, e2⟩ X' g r => by
  subst e1 e2
  exact hQ F' v s' X' g r

theorem C1.len {d : D} {ds : List D} (hi : Items C σ d ds) : C1 C σ (.builtin "len") d (Just σ (.int ds.length)) := fun K F s v Q E X r hQ => by
  obtain ⟨a, vs, n, rfl, h1, h2, h3⟩ := hi.at X r
  refine Calls.call_len_list (IsL.isList h1) (by rw [List.size_toArray]; lia) ?_
  have := hQ F (.int ds.length (s.toks + 1)) { s with toks := s.toks + 1 + 1 } _ _ ⟨rfl, rfl⟩ (X.toks _) (Fle.refl _) (.int _ _)
  rw [List.size_toArray, h2.length]
  exact this
theorem intsAre_items {vs : List Value} {ns : List Int} (h : IntsAre vs ns) : ∃ xs : Array (Int × Tok), vs.toArray = intItems xs ∧ xs.toList.map (·.1) = ns := by
  obtain ⟨xs, hx⟩ := h.allInts.items
  refine ⟨xs, hx, ?_⟩
  have h1 := h.numsOf
  have h2 : vs = (intItems xs).toList := by rw [← hx]
  rw [h2, nums_intItems] at h1
  exact h1
theorem C1.sum {d : D} {ns : List Int} (hi : Items C σ d (zs ns)) : C1 C σ (.builtin "sum") d (Just σ (.int ns.sum)) := fun K F s v Q E X r hQ => by
  obtain ⟨a, vs, n, rfl, h1, h2, h3⟩ := hi.at X r
  obtain ⟨xs, e1, e2⟩ := intsAre_items h2.ints
  rw [e1] at h1
  refine sum_intListG X.ok.rm.hh (IsL.isList h1) fun h' tk t' hk => ?_
  rw [preSum_eq, List.take_of_length_le (by simp), e2]
  exact hQ F _ _ _ _ ⟨rfl, rfl⟩ (X.kept hk) (Fle.refl _) (.int _ _)
theorem C1.range {n : Int} : C1 C σ (.type "range") (.int n) (Just σ (.rng 0 n)) := fun K F s v Q E X r hQ => by
  obtain ⟨t, rfl⟩ := r.int_inv
  exact call_range_1 (hQ _ _ _ _ _ ⟨rfl, rfl⟩ (X.alloc _ rfl _) (Fle.put X.am.fresh _) (.rng (Fz.put_self _ _ _) ⟨_, _, _, rfl⟩))
theorem C1.listRange {a b : Int} (hb : -1000000 ≤ a ∧ a ≤ 1000000 ∧ -1000000 ≤ b ∧ b ≤ 1000000) (hl : b - a ≤ 100000) : C1 C σ (.type "list") (.rng a b) (NewL σ (rints a b)) := fun K F s v Q E X r hQ => by
  obtain ⟨x, o, rfl, h1, t, u, w, rfl⟩ := r.rng_inv
  have hsz : Builtin.Range.rangeSize a b 1 = ((b - a).toNat : Int) := by rw [rangeSize_one]; split <;> lia
  refine call_list_range X.ok.rm.hh (X.am.frz _ _ h1) (small_one (by lia) (by lia) (by lia) (by lia)) hsz (by lia) fun h' tk acc' c' hk hS hacc => ?_
  have hr : RepL F acc'.toList (rints a b) := by
    refine RepL.of_get (by rw [Array.length_toList, hacc.1]; simp [rints]) fun j v d h1 h2 => ?_
    obtain ⟨t, rfl⟩ := hacc.2 j v (by simpa using h1)
    have hj : j < (b - a).toNat := by
      have := (List.getElem?_eq_some_iff.mp h2).1
      simpa [rints] using this
    rw [rints, List.getElem?_map, List.getElem?_range hj] at h2
    simp only [Option.map_some, Option.some.injEq] at h2
    subst h2
    rw [show a + (j : Int) * 1 = a + j by lia]
    exact .int _ _
  have hn : s.heap.get? s.heap.objs.size = none := Heap.get?_none_of_le (Nat.le_refl _)
  refine hQ F _ _ _ _ ⟨_, rfl, rfl⟩ (X.addMu (t := tk) hk hn ⟨_, acc'.toList, hS, ⟨?_, c', by simp⟩, hr⟩) (Fle.refl _) (.ref _)
  rw [hr.length]; simp [rints]; lia

theorem items_eq {A : Around} {s : Shared} {vs : List Value} {ns : List Int} {x : Int} {t : Tok} (h : IntsAre vs ns) : ∀ y, y ∈ vs.toArray → SeqAt.EqAt A s y (.int x t) (match y with | .int a _ => a == x | _ => false) := by
  intro y hy
  have hy' : y ∈ vs := by simpa using hy
  have : ∃ a u, y = .int a u := by
    clear hy
    induction h with
    | nil => cases hy'
    | cons n t h ih =>
      rcases List.mem_cons.mp hy' with rfl | hy'
      · exact ⟨_, _, rfl⟩
      · exact ih hy'
  obtain ⟨a, u, rfl⟩ := this
  exact SeqAt.EqAt.int_int a u x t
theorem any_ints {vs : List Value} {ns : List Int} {x : Int} (h : IntsAre vs ns) : (vs.toArray.any fun y => match y with | .int a _ => a == x | _ => false) = decide (x ∈ ns) := by
  rw [List.any_toArray]
  induction h with
  | nil => rfl
  | cons n t h ih =>
    rw [List.any_cons, ih]
    by_cases e : n = x
    · subst e; simp
    · have : ¬ x = n := fun q => e q.symm
      simp [e, this]
theorem Cm.in {d : D} {ns : List Int} {x : Int} (hi : Items C σ d (zs ns)) : CmpSem C σ .In (.int x) d (decide (x ∈ ns)) := fun K F s v1 v2 Q E X r1 r2 hQ => by
  obtain ⟨t, rfl⟩ := r1.int_inv
  obtain ⟨a, vs, n, rfl, h1, h2, h3⟩ := hi.at X r2
  refine SeqAt.in_listAt _ (IsL.isList h1) (items_eq h2.ints) ?_
  rw [any_ints h2.ints]
  exact hQ F _ _ X (Fle.refl _) (.bool _)
end
end Mine
end

section
set_option Elab.async false
set_option linter.unusedVariables false
set_option linter.unusedSimpArgs false
namespace Mine
open PySem PySem.W PyProof.Rows PySem.Calls

/-! equality of nested data -/
mutual
inductive Vw (C : Cx) (σ : St) : D → PyData → Prop
  | bool (b : Bool) : Vw C σ (.bool b) (.bool b)
  | int (i : Int) : Vw C σ (.int i) (.int i)
  | list {ds : List D} {xs : List PyData} : VwL C σ ds xs → Vw C σ (.list ds) (.list xs)
  | tup {ds : List D} {xs : List PyData} : VwL C σ ds xs → Vw C σ (.tup ds) (.tuple xs)
  | mu {a : Addr} {ds : List D} {xs : List PyData} : ((a, MO.list ds) ∈ σ.mu ∨ (a, MO.list ds) ∈ C.ro) → VwL C σ ds xs → Vw C σ (.ref a) (.list xs)
inductive VwL (C : Cx) (σ : St) : List D → List PyData → Prop
  | nil : VwL C σ [] []
  | cons {d : D} {ds : List D} {x : PyData} {xs : List PyData} : Vw C σ d x → VwL C σ ds xs → VwL C σ (d :: ds) (x :: xs)
end

mutual
theorem Vw.reads {C : Cx} {σ : St} {K F : Fz} {s : Shared} (X : Mo C K σ F s) : ∀ {d : D} {x : PyData} {v : Value}, Vw C σ d x → Rep F v d → (∃ as, Reads s.heap v x as) ∧ x.canLay0 = true
  | _, _, _, .bool b, h => by cases h.bool_inv; exact ⟨⟨[], .bool b⟩, rfl⟩
  | _, _, _, .int i, h => by obtain ⟨t, rfl⟩ := h.int_inv; exact ⟨⟨[], .int i t⟩, rfl⟩
  | _, _, _, .list hv, h => by
    obtain ⟨a, o, vs, rfl, h1, ⟨h2, n, rfl⟩, h3⟩ := h.list_inv
    obtain ⟨⟨as, r⟩, hc⟩ := VwL.reads X hv h3
    exact ⟨⟨_, .list (X.am.frz _ _ h1) rfl rfl r⟩, by simpa [PyData.canLay0] using hc⟩
  | _, _, _, .tup hv, h => by
    obtain ⟨a, o, vs, rfl, h1, ⟨h2, n, rfl⟩, h3⟩ := h.tup_inv
    obtain ⟨⟨as, r⟩, hc⟩ := VwL.reads X hv h3
    exact ⟨⟨_, .tuple (X.am.frz _ _ h1) rfl rfl r⟩, by simpa [PyData.canLay0] using hc⟩
  | _, _, _, @Vw.mu _ _ a ds xs hm hv, h => by
    cases h.ref_inv
    have : ∃ vs n, IsL s.heap a vs.toArray n ∧ RepL F vs ds ∧ vs.length ≤ 100000 := by
      rcases hm with hm | hm
      · exact (X.am.mus _ hm).1.isL
      · exact (X.ro _ hm).1.isL
    obtain ⟨vs, n, h1, h2, h3⟩ := this
    obtain ⟨⟨as, r⟩, hc⟩ := VwL.reads X hv h2
    exact ⟨⟨_, .list h1 rfl rfl r⟩, by simpa [PyData.canLay0] using hc⟩
theorem VwL.reads {C : Cx} {σ : St} {K F : Fz} {s : Shared} (X : Mo C K σ F s) : ∀ {ds : List D} {xs : List PyData} {vs : List Value}, VwL C σ ds xs → RepL F vs ds → (∃ as, ReadsAll s.heap vs xs as) ∧ PyData.canLayAll0 xs = true
  | _, _, _, .nil, h => by cases h; exact ⟨⟨[], .nil⟩, rfl⟩
  | _, _, _, .cons hv hvs, h => by
    cases h with
    | cons h t =>
      obtain ⟨⟨as, r⟩, c1⟩ := Vw.reads X hv h
      obtain ⟨⟨bs, q⟩, c2⟩ := VwL.reads X hvs t
      exact ⟨⟨_, .cons r q⟩, by simp [PyData.canLayAll0, c1, c2]⟩
end

structure Enc (α : Type) where
  dec : DecidableEq α
  py : α → PyData
  d : α → D
  dep : Nat
  eqv : ∀ a b (h : Decidable (a = b)), PyData.eqv (py a) (py b) = @decide (a = b) h
  depth : ∀ a, (py a).depth ≤ dep
noncomputable def encInt : Enc Int := ⟨inferInstance, .int, .int, 1, fun a b h => by
  by_cases e : a = b
  · subst e; simp [PyData.eqv]
  · simp [PyData.eqv, e], fun a => by simp [PyData.depth]⟩
theorem Enc.all {α : Type} (e : Enc α) : ∀ (l m : List α) (h : Decidable (l = m)), PyData.eqvAll (l.map e.py) (m.map e.py) = @decide (l = m) h
  | [], [], _ => by simp [PyData.eqvAll]
  | [], _ :: _, _ => by simp [PyData.eqvAll]
  | _ :: _, [], _ => by simp [PyData.eqvAll]
  | a :: l, b :: m, _ => by
    rw [List.map_cons, List.map_cons, PyData.eqvAll, e.eqv _ _ (e.dec a b), Enc.all e l m (@instDecidableEqList α e.dec l m)]
    by_cases h1 : a = b <;> by_cases h2 : l = m <;> simp [h1, h2]
theorem Enc.depthAll {α : Type} (e : Enc α) : ∀ l : List α, PyData.depthAll (l.map e.py) ≤ e.dep
  | [] => by simp [PyData.depthAll]
  | a :: l => by
    rw [List.map_cons]
    simp only [PyData.depthAll]
    exact Nat.max_le.mpr ⟨e.depth a, Enc.depthAll e l⟩
noncomputable def encList {α : Type} (e : Enc α) : Enc (List α) := ⟨@instDecidableEqList α e.dec, fun l => .list (l.map e.py), fun l => .list (l.map e.d), e.dep + 1, fun a b h => by rw [PyData.eqv]; exact e.all a b h, fun a => by simp only [PyData.depth]; have := e.depthAll a; lia⟩
noncomputable def encPair {α β : Type} (e : Enc α) (f : Enc β) : Enc (α × β) := ⟨@instDecidableEqProd α β e.dec f.dec, fun p => .tuple [e.py p.1, f.py p.2], fun p => .tup [e.d p.1, f.d p.2], max e.dep f.dep + 1, fun a b h => by
    obtain ⟨a1, a2⟩ := a; obtain ⟨b1, b2⟩ := b
    simp only [PyData.eqv, PyData.eqvAll]
    rw [e.eqv _ _ (e.dec a1 b1), f.eqv _ _ (f.dec a2 b2)]
    by_cases h1 : a1 = b1 <;> by_cases h2 : a2 = b2 <;> simp [h1, h2], fun a => by
    simp only [PyData.depth, PyData.depthAll]
    have h1 := e.depth a.1
    have h2 := f.depth a.2
    lia⟩

section
variable {C : Cx} {σ : St} {Φ : Out → St → Prop}
noncomputable def Vs {α : Type} (e : Enc α) (C : Cx) (σ : St) (d : D) (a : α) : Prop := Vw C σ d (e.py a)
theorem Vs.int {i : Int} : Vs encInt C σ (.int i) i := Vw.int i
theorem VwL.map {α : Type} {e : Enc α} {f : α → D} (h : ∀ a, Vs e C σ (f a) a) : ∀ l : List α, VwL C σ (l.map f) (l.map e.py)
  | [] => .nil
  | a :: l => .cons (h a) (VwL.map h l)
theorem Vs.list {α : Type} {e : Enc α} {f : α → D} {l : List α} (h : ∀ a, Vs e C σ (f a) a) : Vs (encList e) C σ (.list (l.map f)) l := Vw.list (VwL.map h l)
theorem Vs.nums {l : List Int} : Vs (encList encInt) C σ (.list (zs l)) l := Vs.list fun _ => .int
theorem Vs.zss {l : List (List Int)} : Vs (encList (encList encInt)) C σ (.list (l.map fun r => .list (zs r))) l := Vs.list fun _ => .nums
theorem Vs.tup {α β : Type} {e : Enc α} {f : Enc β} {d1 d2 : D} {a : α} {b : β} (h1 : Vs e C σ d1 a) (h2 : Vs f C σ d2 b) : Vs (encPair e f) C σ (.tup [d1, d2]) (a, b) := Vw.tup (.cons h1 (.cons h2 .nil))
theorem Cm.eqD {α : Type} {e : Enc α} {d1 d2 : D} {a b : α} (h1 : Vs e C σ d1 a) (h2 : Vs e C σ d2 b) (hd : e.dep ≤ 20) : CmpSem C σ .Eq d1 d2 (@decide (a = b) (e.dec a b)) := fun K F s v1 v2 Q E X r1 r2 hQ => by
  obtain ⟨⟨as, q1⟩, c1⟩ := h1.reads X r1
  obtain ⟨⟨bs, q2⟩, c2⟩ := h2.reads X r2
  have e1 := e.depth a
  have hu := X.ok.rm.un
  refine SeqAt.compareEq_reads q1 q2 c1 c2 (by have := Nat.min_le_left (e.py a).depth (e.py b).depth; lia) ?_
  rw [e.eqv]
  exact hQ F _ _ X (Fle.refl _) (.bool _)
theorem Cm.neD {α : Type} {e : Enc α} {d1 d2 : D} {a b : α} (h1 : Vs e C σ d1 a) (h2 : Vs e C σ d2 b) (hd : e.dep ≤ 20) : CmpSem C σ .NotEq d1 d2 (!@decide (a = b) (e.dec a b)) := fun K F s v1 v2 Q E X r1 r2 hQ => by
  obtain ⟨⟨as, q1⟩, c1⟩ := h1.reads X r1
  obtain ⟨⟨bs, q2⟩, c2⟩ := h2.reads X r2
  have e1 := e.depth a
  have hu := X.ok.rm.un
  refine SeqAt.compareNe_reads q1 q2 c1 c2 (by have := Nat.min_le_left (e.py a).depth (e.py b).depth; lia) ?_
  rw [e.eqv]
  exact hQ F _ _ X (Fle.refl _) (.bool _)

end
end Mine
end

section
set_option Elab.async false
set_option linter.unusedVariables false
set_option linter.unusedSimpArgs false
namespace Mine
open PySem PySem.W PyProof.Rows PySem.Calls

theorem Room.mono {A : Around} {n m : Nat} (h : Room A m) (hn : n ≤ m) : Room A n := ⟨h.hh, by have := h.dp; lia, by have := h.un; lia⟩
theorem Room.deeper {A : Around} {n : Nat} {env : Env} (h : Room A (n + 1)) : Room (A.deeper env) n := ⟨h.hh, by have := h.dp; show A.depth + 1 + 3 * n + 20 < _; lia, by have := h.un; show A.units + 3 + 40 * n + 200 < _; lia⟩
theorem Room.in1 {A : Around} {n : Nat} (h : Room A (n + 1)) : Room A.in1 n := ⟨h.hh, by have := h.dp; show A.depth + 3 * n + 20 < _; lia, by have := h.un; show A.units + 1 + 40 * n + 200 < _; lia⟩

noncomputable def FnF (F : Fz) (f : Addr) (fd : FuncData) : Prop := (∃ o, F f = some o ∧ o.data = .func fd) ∧ ∃ c o vs t, fd.code = .ref c ∧ F c = some o ∧ o.data = .fields vs ∧ vs[1]? = some (.str fd.qualname t)
theorem FnF.mono {F F' : Fz} {f : Addr} {fd : FuncData} (h : FnF F f fd) (g : Fle F F') : FnF F' f fd := by
  obtain ⟨⟨o, h1, h2⟩, c, o', vs, t, h3, h4, h5, h6⟩ := h
  exact ⟨⟨o, g _ _ h1, h2⟩, c, o', vs, t, h3, g _ _ h4, h5, h6⟩

structure CallSem (G : Gx) (n : Nat) (P : Pred) (f : Addr) (pas : Mu) (ds : List D) (R : D → Mu → Prop) : Prop where
  fn : ∀ K F, Fle G.hb.get? F → P K F → ∃ fd o, F f = some o ∧ o.data = .func fd
  sem : ∀ A K F s vs Q E, Room A n → P K F → Am G K pas F s → RepL F vs ds →
    (∀ F' v s' d mu, R d mu → Am G K mu F' s' → Fle F F' → Rep F' v d → Q v s') → wpAny G.M A (call (.ref f) vs) Q E s
theorem lookup_zip {F : Fz} : ∀ {ns : List Str} {vs : List Value} {ds : List D} {x : Str} {d : D}, RepL F vs ds → (ns.zip ds).lookup x = some d → ∃ v, (x, v) ∈ ns.zip vs ∧ Rep F v d
  | [], _, _, _, _, _, h => by cases h
  | n :: ns, _, _, x, d, .nil, h => by cases h
  | n :: ns, _, _, x, d, .cons (v := v) h t, e => by
    rw [List.zip_cons_cons, List.lookup_cons] at e
    cases hb : x == n with
    | true =>
      rw [hb] at e
      simp only [Option.some.injEq] at e
      subst e
      rw [beq_iff_eq.mp hb]
      exact ⟨v, .head _, h⟩
    | false =>
      rw [hb] at e
      obtain ⟨w, h1, h2⟩ := lookup_zip t e
      exact ⟨w, .tail _ h1, h2⟩
theorem lookup_of_mem {α : Type} : ∀ {l : List (Str × α)} {x : Str} {v : α}, (l.map (·.1)).Nodup → (x, v) ∈ l → l.lookup x = some v
  | (k, w) :: l, x, v, nd, h => by
    rw [List.map_cons, List.nodup_cons] at nd
    rw [List.lookup_cons]
    rcases List.mem_cons.mp h with e | h
    · cases e; simp
    · have : (x == k) = false := beq_eq_false_iff_ne.mpr fun e => nd.1 (List.mem_map.mpr ⟨(x, v), h, e⟩)
      rw [this]
      exact lookup_of_mem nd.2 h
theorem zip_keys {α : Type} : ∀ (ns : List Str) (vs : List α), ((ns.zip vs).map (·.1)).Sublist ns
  | [], _ => by simp
  | _ :: _, [] => by simp
  | n :: ns, v :: vs => by
    rw [List.zip_cons_cons, List.map_cons]
    exact (zip_keys ns vs).cons_cons n
theorem lookup_rev {ns : List Str} {vs : List Value} {x : Str} {v : Value} (nd : ns.Nodup) (h : (x, v) ∈ ns.zip vs) : (ns.zip vs).reverse.lookup x = some v := by
  refine lookup_of_mem ?_ (List.mem_reverse.mpr h)
  rw [List.map_reverse]
  exact (List.reverse_perm _).nodup_iff.mpr (nd.sublist (zip_keys ns vs))

section
variable {G : Gx} {n : Nat} {P : Pred} {f : Addr} {fd : FuncData} {body : List Stmt} {ns : List Str} {ds : List D} {pas : Mu} {R : D → Mu → Prop}

noncomputable def fnCx (G : Gx) (A : Around) (fd : FuncData) (f L : Addr) (n : Nat) (P : Pred) : Cx := { G := G, A := A.deeper (callEnv fd L f), env := callEnv fd L f, priv := [L], rm := n, ro := [], pre := P }
noncomputable def fnCxC (G : Gx) (A : Around) (fd : FuncData) (f L : Addr) (n : Nat) (P : Pred) : Cx := { G := G, A := A.deeper (callEnvC fd L f), env := callEnvC fd L f, priv := L :: (cellsFrom (L + 1) fd.scope.names []).map (·.2), rm := n, ro := [], pre := P }

noncomputable def Fin (R : D → Mu → Prop) (o : Out) (σ : St) : Prop := match o with | .ret d => R d σ.mu | .next => R .none σ.mu | _ => False

structure FnOk (G : Gx) (fd : FuncData) (body : List Stmt) (ns : List Str) (k : Nat) : Prop where
  body : fd.body = .stmts body
  bind : ∀ (s : Shared) (vs : List Value), (∀ a o, G.hb.get? a = some o → s.heap.get? a = some o) → vs.length = k → BindsTo s fd ⟨vs, []⟩ (ns.zip vs)
  nd : ns.Nodup
  kind : fd.scope.kind = .function
  co : fd.scope.isCoroutine = false
  gen : fd.scope.isGenerator = false
  gl : fd.globals = mainGlobals
  bu : fd.builtins = builtinsNs

theorem call_fn (hmon : P.Mon) (ok : FnOk G fd body ns ds.length) (hf : ∀ K F, Fle G.hb.get? F → P K F → FnF F f fd) (hcell : ∀ x ∈ fd.scope.names, x.2 ≠ .cell) (hloc : ∀ x ∈ ns, fd.scope.names.lookup x = some .local) (cv : List (Str × D))
    (hcv : ∀ K F, P K F → (∀ x ∈ fd.closure, ∃ o v, K x.2 = some o ∧ o.data = .cell v) ∧ ∀ x d, cv.lookup x = some d → ∃ c o v, fd.scope.names.lookup x = some .free ∧ fd.closure.lookup x = some c ∧ K c = some o ∧ o.data = .cell (some v) ∧ Rep F v d)
    (hpw : fd.closure.Pairwise fun x y => x.2 ≠ y.2) (hdis : ∀ x ∈ ns, cv.lookup x = none)
    (hb : ∀ A L, Room A (n + 1) → WP (fnCx G A fd f L n P) { vars := ns.zip ds ++ cv, mu := pas } body (Fin R)) : CallSem G (n + 1) P f pas ds R := by
  refine ⟨fun K F hbs hp => ?_, fun A K F s vs Q E hr hp X r hQ => ?_⟩
  · obtain ⟨⟨o, h1, h2⟩, _⟩ := hf K F hbs hp
    exact ⟨fd, o, h1, h2⟩
  · obtain ⟨⟨o, h1, h2⟩, c, oc, cvs, t, h3, h4, h5, h6⟩ := hf K F X.base hp
    have hl := r.length
    refine wpAny_call (codeAny_call_def (prog := G.prog) (w := G.w) (body := body) (binds := ns.zip vs) (by have := hr.dp; lia) (X.frz _ _ h1) h2 X.nl ⟨c, oc, cvs, t, h3, X.frz _ _ h4, h5, h6⟩ ok.body (ok.bind s vs (fun a o e => X.frz _ _ (X.base _ _ e)) hl) hcell
      (fun x hx => hloc _ (by obtain ⟨a, b⟩ := x; exact (List.of_mem_zip hx).1)) (fun h₀ hns hk => ?_) ok.co ok.gen ok.kind)
    have ns0 := hns
    have freshL : ∀ o, s.heap.get? s.heap.objs.size ≠ some o := fun o e => Nat.lt_irrefl _ (Heap.lt_size e)
    obtain ⟨hc1, hc2⟩ := hcv K F hp
    refine hb A s.heap.objs.size hr K F _ (fun f s' => match (Except.ok (Flow.ret (match f with | .ret v => v | _ => .none)) : Result) with | .ok (.ret v) => Q v s' | .ok _ => False | .error e => E e s') _ ?_ fun fl o F' s' σ' ho X' g hΦ => ?_
    · refine ⟨⟨ok.kind, ok.gl, ok.bu, hr.deeper, .head _, hpw, fun x hx e => ?_, hmon⟩, (X.grow (t := s.toks + (ns.zip vs).length) hk (Fle.refl _) (fun _ _ e => .inl e) fun a o e => hk _ _ (X.frz _ _ e)), fun a ha => ?_, fun x hx => ?_, ⟨_, ns0, fun x d e => ?_⟩, fun p hp ha => ?_, (fun p hp => nomatch hp), hp⟩
      · obtain ⟨o', v', q1, q2⟩ := hc1 x hx
        have e' : x.2 = s.heap.objs.size := e
        exact freshL _ (e' ▸ X.keep _ _ q1)
      · obtain rfl : a = s.heap.objs.size := by simpa [fnCx] using ha
        obtain ⟨oL, es, ep, eL, _⟩ := ns0
        exact ⟨X.fresh, X.freshK, oL, eL⟩
      · obtain ⟨o', v', q1, q2⟩ := hc1 x hx
        exact ⟨⟨v', o', hk _ _ (X.keep _ _ q1), q2⟩, .inr ⟨o', q1⟩⟩
      · have : ∀ {l r : List (Str × D)}, (l ++ r).lookup x = some d → l.lookup x = some d ∨ (l.lookup x = none ∧ r.lookup x = some d) := fun {l r} h => by
          induction l with
          | nil => exact .inr ⟨rfl, h⟩
          | cons a l ih =>
            rw [List.cons_append, List.lookup_cons] at h
            rw [List.lookup_cons]
            cases hb : x == a.1 with
            | true => rw [hb] at h; exact .inl h
            | false => rw [hb] at h; exact ih h
        rcases this e with e | ⟨_, e⟩
        · obtain ⟨v, q1, q2⟩ := lookup_zip r e
          refine ⟨v, ?_, q2⟩
          unfold VarAt
          rw [show (fnCx G A fd f s.heap.objs.size n P).env.kindOf x = some .local from hloc x (List.of_mem_zip q1).1]
          exact lookup_rev ok.nd q1
        · obtain ⟨c', o', v, q1, q2, q3, q4, q5⟩ := hc2 x d e
          refine ⟨v, ?_, q5⟩
          unfold VarAt
          rw [show (fnCx G A fd f s.heap.objs.size n P).env.kindOf x = some .free from q1]
          exact ⟨c', q2, o', hk _ _ (X.keep _ _ q3), q4⟩
      · obtain ⟨o', ho'⟩ := (X.mus p hp).1.some
        have : p.1 = s.heap.objs.size := by simpa [fnCx] using ha
        rw [this] at ho'
        exact freshL _ ho'
    · cases o with
      | next => cases fl <;> first | exact ho.elim | exact hQ F' .none s' .none σ'.mu hΦ X'.am g .none
      | brk => exact hΦ.elim
      | cont => exact hΦ.elim
      | ret d =>
        cases fl <;> first | exact ho.elim | skip
        exact hQ F' _ s' d σ'.mu hΦ X'.am g ho

theorem bindL_at {k : Str → Option NameKind} : ∀ {binds : List (Str × Value)} {m : Str → Option Value} {x : Str} {v : Value}, (binds.map (·.1)).Nodup → (x, v) ∈ binds → k x = some .local → bindL k binds m x = some v
  | (n, w) :: r, m, x, v, nd, h, hk => by
    rw [List.map_cons, List.nodup_cons] at nd
    have keep : ∀ {r : List (Str × Value)} {m : Str → Option Value}, x ∉ r.map (·.1) → bindL k r m x = m x := fun {r} => by
      induction r with
      | nil => intro m _; rfl
      | cons a r ih =>
        obtain ⟨n', w'⟩ := a
        intro m hx
        rw [List.map_cons, List.mem_cons, not_or] at hx
        unfold bindL
        rw [ih hx.2]
        split
        · exact if_neg hx.1
        · rfl
    unfold bindL
    rcases List.mem_cons.mp h with e | h
    · cases e
      rw [keep nd.1, if_pos hk]
      simp
    · exact bindL_at nd.2 h hk
theorem bindC_at {k : Str → Option NameKind} : ∀ {binds : List (Str × Value)} {m : Str → Option Value} {x : Str} {v : Value}, (binds.map (·.1)).Nodup → (x, v) ∈ binds → k x ≠ some .local → bindC k binds m x = some v
  | (n, w) :: r, m, x, v, nd, h, hk => by
    rw [List.map_cons, List.nodup_cons] at nd
    have keep : ∀ {r : List (Str × Value)} {m : Str → Option Value}, x ∉ r.map (·.1) → bindC k r m x = m x := fun {r} => by
      induction r with
      | nil => intro m _; rfl
      | cons a r ih =>
        obtain ⟨n', w'⟩ := a
        intro m hx
        rw [List.map_cons, List.mem_cons, not_or] at hx
        unfold bindC
        rw [ih hx.2]
        split
        · rfl
        · exact if_neg hx.1
    unfold bindC
    rcases List.mem_cons.mp h with e | h
    · cases e
      rw [keep nd.1, if_neg hk]
      simp
    · exact bindC_at nd.2 h hk

theorem cellsFrom_keys : ∀ (names : List (Str × NameKind)) (n m : Nat) (acc acc' : List (Str × Addr)), acc.map (·.1) = acc'.map (·.1) → (cellsFrom n names acc).map (·.1) = (cellsFrom m names acc').map (·.1)
  | [], _, _, _, _, h => h
  | (name, kind) :: r, n, m, acc, acc', h => by
    unfold cellsFrom
    split
    · exact cellsFrom_keys r _ _ _ _ (by simp [h])
    · exact cellsFrom_keys r _ _ _ _ h
theorem call_fnC (hmon : P.Mon) (ok : FnOk G fd body ns ds.length) (bind : ∀ vs : List Value, vs.length = ds.length → bindArgs fd ⟨vs, []⟩ = pure (ns.zip vs)) (hf : ∀ K F, Fle G.hb.get? F → P K F → FnF F f fd) (hclo : fd.closure = []) (hnd : ((cellsFrom 0 fd.scope.names []).map (·.1)).Nodup) (hkd : ∀ x ∈ ns, fd.scope.names.lookup x = some .local ∨ fd.scope.names.lookup x = some .cell)
    (hb : ∀ A L, Room A (n + 1) → WP (fnCxC G A fd f L n P) { vars := ns.zip ds, mu := pas } body (Fin R)) : CallSem G (n + 1) P f pas ds R := by
  refine ⟨fun K F hbs hp => ?_, fun A K F s vs Q E hr hp X r hQ => ?_⟩
  · obtain ⟨⟨o, h1, h2⟩, _⟩ := hf K F hbs hp
    exact ⟨fd, o, h1, h2⟩
  · obtain ⟨⟨o, h1, h2⟩, c, oc, cvs, t, h3, h4, h5, h6⟩ := hf K F X.base hp
    have hl := r.length
    have hkind : ∀ n, ∀ x ∈ ns.zip vs, fd.scope.names.lookup x.1 = some .local ∨ (fd.scope.names.lookup x.1 = some .cell ∧ ((cellsFrom n fd.scope.names []).lookup x.1).isSome = true) := fun n x hx => by
      obtain ⟨a, b⟩ := x
      rcases hkd a (List.of_mem_zip hx).1 with h | h
      · exact .inl h
      · obtain ⟨c, q, _⟩ := cellsFrom_has fd.scope.names n [] a (mem_of_lookup h)
        exact .inr ⟨h, by rw [q]; rfl⟩
    have ndz : ((ns.zip vs).map (·.1)).Nodup := ok.nd.sublist (zip_keys ns vs)
    refine wpAny_call (codeAny_call_cells (prog := G.prog) (w := G.w) (body := body) (binds := ns.zip vs) (by have := hr.dp; lia) (X.frz _ _ h1) h2 X.nl ⟨c, oc, cvs, t, h3, X.frz _ _ h4, h5, h6⟩ ok.body (bind vs hl) hclo (hkind _)
      (fun s1 hin => ?_) ok.co ok.gen ok.kind)
    obtain ⟨h', tk, rfl, hk⟩ := hin.done
    have ns0 : h'.Ns s.heap.objs.size _ := hin.toInCall.ns
    have freshL : ∀ a o, s.heap.objs.size ≤ a → s.heap.get? a ≠ some o := fun a o ha e => Nat.lt_irrefl _ (Nat.lt_of_lt_of_le (Heap.lt_size e) ha)
    have cellAt : ∀ y ∈ cellsFrom (s.heap.objs.size + 1) fd.scope.names [], s.heap.objs.size < y.2 ∧ ∃ v, h'.IsCell y.2 v := fun y hy => by
      refine ⟨hin.above y.1 y.2 hy, ?_⟩
      have q := lookup_of_mem (by rw [cellsFrom_keys _ _ 0 [] []]; exact hnd; rfl) hy
      exact ⟨_, hin.cell y.1 y.2 q⟩
    refine hb A s.heap.objs.size hr K F _ (fun f s' => match (Except.ok (Flow.ret (match f with | .ret v => v | _ => .none)) : Result) with | .ok (.ret v) => Q v s' | .ok _ => False | .error e => E e s') _ ?_ fun fl o F' s' σ' ho X' g hΦ => ?_
    · refine ⟨⟨ok.kind, ok.gl, ok.bu, hr.deeper, .head _, hin.apart, fun x hx e => ?_, hmon⟩, (X.grow (t := tk) hk (Fle.refl _) (fun _ _ e => .inl e) fun a o e => hk _ _ (X.frz _ _ e)), fun a ha => ?_, fun x hx => ?_, ⟨_, ns0, fun x d e => ?_⟩, fun p hp ha => ?_, (fun p hp => nomatch hp), hp⟩
      · exact Nat.lt_irrefl _ (e ▸ (cellAt x hx).1)
      · have hfr : s.heap.objs.size ≤ a ∧ ∃ o, h'.get? a = some o := by
          rcases List.mem_cons.mp ha with rfl | ha
          · obtain ⟨oL, es, ep, eL, _⟩ := ns0
            exact ⟨Nat.le_refl _, oL, eL⟩
          · obtain ⟨y, hy, rfl⟩ := List.mem_map.mp ha
            obtain ⟨q1, v, o, q2, q3⟩ := cellAt y hy
            exact ⟨Nat.le_of_lt q1, o, q2⟩
        refine ⟨?_, ?_, hfr.2⟩
        · cases e : F a with
          | none => rfl
          | some o => exact absurd (X.frz _ _ e) (freshL _ _ hfr.1)
        · cases e : K a with
          | none => rfl
          | some o => exact absurd (X.keep _ _ e) (freshL _ _ hfr.1)
      · exact ⟨(cellAt x hx).2, .inl (.tail _ (List.mem_map_of_mem hx))⟩
      · obtain ⟨v, q1, q2⟩ := lookup_zip r e
        refine ⟨v, ?_, q2⟩
        unfold VarAt
        rcases hkd x (List.of_mem_zip q1).1 with h | h
        · rw [show (fnCxC G A fd f s.heap.objs.size n P).env.kindOf x = some .local from h]
          exact bindL_at ndz q1 h
        · rw [show (fnCxC G A fd f s.heap.objs.size n P).env.kindOf x = some .cell from h]
          obtain ⟨c, q, _⟩ := cellsFrom_has fd.scope.names (s.heap.objs.size + 1) [] x (mem_of_lookup h)
          refine ⟨c, q, ?_⟩
          have := hin.cell x c q
          rw [bindC_at ndz q1 (by rw [show (callEnvC fd s.heap.objs.size f).kindOf x = some .cell from h]; intro e; cases e)] at this
          exact this
      · obtain ⟨o', ho'⟩ := (X.mus p hp).1.some
        have : s.heap.objs.size ≤ p.1 := by
          rcases List.mem_cons.mp ha with e | ha
          · exact Nat.le_of_eq e.symm
          · obtain ⟨y, hy, e⟩ := List.mem_map.mp ha
            exact e ▸ Nat.le_of_lt (cellAt y hy).1
        exact freshL _ _ this ho'
    · cases o with
      | next => cases fl <;> first | exact ho.elim | exact hQ F' .none s' .none σ'.mu hΦ X'.am g .none
      | brk => exact hΦ.elim
      | cont => exact hΦ.elim
      | ret d =>
        cases fl <;> first | exact ho.elim | skip
        exact hQ F' _ s' d σ'.mu hΦ X'.am g ho
end
end Mine
end

section
set_option Elab.async false
set_option linter.unusedVariables false
set_option linter.unusedSimpArgs false
namespace Mine
open PySem PySem.W PyProof.Rows PySem.Calls

section
variable {C : Cx} {σ : St} {Φ : Out → St → Prop}
theorem EvX.callS {x : Str} {p pos : Pos} {e : Expr} {es : List Expr} {f : Addr} {ds : List D} {pas oth : Mu} {n : Nat} {P : Pred} {R : D → Mu → Prop} (hf : Ev C σ (.Name x p) (.ref f)) (he : EvL C σ (e :: es) ds) (hσ : σ.mu.Perm (pas ++ oth)) (hc : CallSem C.G n P f pas ds R) (hn : n ≤ C.rm)
    (hP : ∀ K F s, Mo C K (σ.setMu (pas ++ oth)) F s → P (full F s.heap (pas.map (·.1))) F) (hs : starEach (e :: es) C.env = (false, eval e C.env) :: starEach es C.env := by rfl) :
    EvX C σ (.Call (.Name x p) (e :: es) [] pos) (fun d mu => ∃ mu', R d mu' ∧ mu = mu' ++ oth) := fun K F s Q E X hQ => by
  refine wpAny_Call_NameR (hf K F s _ E X fun F1 v s1 X1 g1 r1 => ?_)
  cases r1.ref_inv
  have X1p := X1.perm hσ.symm
  obtain ⟨fd, o, ho, hd⟩ := hc.fn _ F1 X1.am.base (hP K F1 s1 X1p)
  have hev := he pos K F1 s1
  rw [hs] at hev ⊢
  refine callWith_function (o := o) (fd := fd) (Calls.evalArgs_plain (hev _ E X1 fun F2 vs s2 X2 g2 r2 => ?_))
  have X2p := X2.perm hσ.symm
  refine ⟨⟨X2.am.frz _ _ (g2 _ _ ho), hd⟩, ?_⟩
  refine hc.sem C.A _ F2 s2 _ Q E (X.ok.rm.mono hn) (hP K F2 s2 X2p) (X2p.am.leave rfl) r2 fun F' v' s' d mu hR A' g' r' => ?_
  have B := X2p.back (pas := pas) (oth := oth) rfl A' g'
  exact hQ F' v' s' d _ ⟨mu, hR, rfl⟩ B ((g1.trans g2).trans g') r'
theorem EvX.callP {x : Str} {p pos : Pos} {e : Expr} {es : List Expr} {f : Addr} {ds : List D} {n : Nat} {P : Pred} {R : D → Mu → Prop} (hf : Ev C σ (.Name x p) (.ref f)) (he : EvL C σ (e :: es) ds) (hc : CallSem C.G n P f [] ds R) (hn : n ≤ C.rm)
    (hP : ∀ K F s, Mo C K σ F s → P (full F s.heap []) F) (hs : starEach (e :: es) C.env = (false, eval e C.env) :: starEach es C.env := by rfl) :
    EvX C σ (.Call (.Name x p) (e :: es) [] pos) (fun d mu => ∃ mu', R d mu' ∧ mu = mu' ++ σ.mu) :=
  EvX.callS (pas := []) (oth := σ.mu) hf he (List.Perm.refl _) hc hn (fun K F s X => hP K F s X) hs
noncomputable def Pure (d : D) (d' : D) (mu : Mu) : Prop := d' = d ∧ mu = []
theorem Ev.call {x : Str} {p pos : Pos} {e : Expr} {es : List Expr} {f : Addr} {ds : List D} {n : Nat} {P : Pred} {d : D} (hf : Ev C σ (.Name x p) (.ref f)) (he : EvL C σ (e :: es) ds) (hc : CallSem C.G n P f [] ds (Pure d)) (hn : n ≤ C.rm)
    (hP : ∀ K F s, Mo C K σ F s → P (full F s.heap []) F) (hs : starEach (e :: es) C.env = (false, eval e C.env) :: starEach es C.env := by rfl) : Ev C σ (.Call (.Name x p) (e :: es) [] pos) d :=
  Ev.of_just (EvX.mono (EvX.callP hf he hc hn hP hs) fun d' mu ⟨mu', ⟨h1, h2⟩, h3⟩ => ⟨h1, by rw [h3, h2]; rfl⟩)

theorem WP.forIt {target : Expr} {y : Str} {yp : Pos} {body orelse ss : List Stmt} {pos : Pos} {ds : List D} {it : Addr} {PO : Nat → Obj → Prop} (I : Nat → St → Prop)
    (hit : ∀ σ k, I k σ → σ.vars.lookup y = some (.ref it)) (h0 : I 0 σ) (hmu : ∀ σ k, I k σ → σ.mu = []) (τ : D → St → St) (hτ : ∀ d σ m, τ d (σ.setMu m) = (τ d σ).setMu m) (hτm : ∀ d σ, (τ d σ).mu = σ.mu) (hasg : ∀ d σ, Asg C σ target d (τ d σ))
    (turn : ∀ k d σ, ds[k]? = some d → I k σ → WP C (τ d σ) body fun o σ' => match o with | .next => I (k + 1) σ' | _ => False)
    (done : ∀ σ, I ds.length σ → WP C σ orelse fun o σ' => match o with | .next => WP C σ' ss Φ | o => Φ o σ')
    (hs : ∀ x, foldedSetIterable (.Name y yp) C.env x = pure x := by intro _; rfl) (ht : ∀ it v, letOwnedTupleGo target it v = pure () := by intro _ _; rfl) (hd : (y == ("__debug__" : Str)) = false := by decide) (hd2 : (y == ("__classdict__" : Str)) = false := by decide)
    {K F : Fz} {s : Shared} {Q : Flow → Shared → Prop} {E : Value → Shared → Prop} (hX : Mo C K (σ.setMu [(it, .obj (PO 0))]) F s) (IT : ∀ F', Fle F F' → IterOk C.G C.A K F' it ds PO)
    (hQ : ∀ f o F' s' σ', OutIs F' f o → Mo C K σ' F' s' → Fle F F' → Φ o σ' → Q f s') : wpAny C.G.M C.A (execs (.For target (.Name y yp) body orelse pos :: ss) C.env) Q E s := by
  refine wpAny_execs_cons (wpAny_For ((Ev.name (p := yp) (σ := σ.setMu [(it, .obj (PO 0))]) (hit σ 0 h0) hd hd2) K F s _ _ hX fun F1 v s1 X1 g1 r1 => ?_) hs)
  cases r1.ref_inv
  have hit1 : ∃ o, s1.heap.get? it = some o ∧ PO 0 o := (X1.am.mus (it, .obj (PO 0)) (.head _)).1
  refine (IT F1 g1).self 0 s1 _ _ hit1 ?_
  obtain ⟨c1, c2⟩ := X1.apartMu (p := (it, .obj (PO 0))) (.head _)
  refine codeAny_forLoop (prog := C.G.prog) (w := C.G.w) (fun n s' => ∃ k σ' F', n + k = ds.length ∧ I k σ' ∧ Mo C K (σ'.setMu [(it, .obj (PO k))]) F' s' ∧ Fle F1 F') ?_ ds.length ⟨0, σ, F1, by simp, h0, X1, Fle.refl _⟩ (ht _)
  rintro n s3 ⟨k, σ3, F3, hn, hI, X3, g3⟩
  have hit3 : ∃ o, s3.heap.get? it = some o ∧ PO k o := (X3.am.mus (it, .obj (PO k)) (.head _)).1
  have IT1 := IT F1 g1
  have hm3 := hmu σ3 k hI
  cases n with
  | zero =>
    have hk : k = ds.length := by lia
    subst hk
    refine IT1.stop F3 s3 _ _ g3 X3.am.frz X3.am.keep hit3 fun h' t hs' => ?_
    have X4 := X3.dropExt (mu := []) (t := t) rfl hs'
    have X4' : Mo C K σ3 F3 { s3 with heap := h', toks := t } := by
      have e : (σ3.setMu [(it, MO.obj (PO ds.length))]).setMu [] = σ3 := by rw [← hm3]; rfl
      rw [e] at X4; exact X4
    refine done σ3 hI K F3 _ _ _ X4' fun f o F5 s5 σ5 ho X5 g5 hΦ => ?_
    cases o with
    | next =>
      cases f <;> first | exact ho.elim | skip
      exact hΦ K F5 s5 _ _ X5 fun f o F6 s6 σ6 ho6 X6 g6 h6 => hQ f o F6 s6 σ6 ho6 X6 (((g1.trans g3).trans g5).trans g6) h6
    | brk => cases f <;> first | exact ho.elim | exact hQ _ .brk F5 s5 σ5 ho X5 ((g1.trans g3).trans g5) hΦ
    | cont => cases f <;> first | exact ho.elim | exact hQ _ .cont F5 s5 σ5 ho X5 ((g1.trans g3).trans g5) hΦ
    | ret d => cases f <;> first | exact ho.elim | exact hQ _ (.ret d) F5 s5 σ5 ho X5 ((g1.trans g3).trans g5) hΦ
  | succ n =>
    have hk : k < ds.length := by lia
    refine IT1.item k ds[k] F3 s3 _ _ g3 X3.am.frz X3.am.keep (List.getElem?_eq_getElem hk) hit3 fun h' v t hs' hit' hr => ?_
    have X4 := X3.turn (pre := []) (post := []) (mo' := .obj (PO (k + 1))) (t := t) rfl hs' hit'
    refine hasg ds[k] _ K F3 _ v _ _ X4 hr fun s5 X5 => ?_
    rw [hτ] at X5
    obtain ⟨oi, hoi, ⟨oi', hoi', hPi⟩, hKi, X6⟩ := X5.hide (a := it) (mo := .obj (PO (k + 1))) (mu := []) rfl
    rw [hoi] at hoi'; cases hoi'
    rw [show ∀ m, ((τ ds[k] (σ3.setMu [(it, MO.obj (PO k))])).setMu m).setMu [] = τ ds[k] σ3 from fun m => by
      rw [hτ]; show (τ ds[k] σ3).setMu [] = _; rw [← hm3, ← hτm ds[k] σ3]; rfl] at X6
    refine turn k ds[k] σ3 (List.getElem?_eq_getElem hk) hI (K.put it oi) F3 s5 _ _ X6 fun f o F7 s7 σ7 ho X7 g7 hΦ => ?_
    have hi7 : s7.heap.get? it = some oi := X7.am.keep _ _ (Fz.put_self _ _ _)
    have X8 := X7.show hKi (mo := .obj (PO (k + 1))) ⟨oi, hi7, hPi⟩ c1 c2 (hX.ok.mon _ _ _ _ X5.pre (Fle.refl _) g7)
    cases o with
    | next =>
      cases f <;> first | exact ho.elim | skip
      have hm7 := hmu σ7 (k + 1) hΦ
      rw [hm7] at X8
      exact ⟨n, Nat.lt_succ_self n, k + 1, σ7, F7, by lia, hΦ, X8, g3.trans g7⟩
    | brk => exact hΦ.elim
    | cont => exact hΦ.elim
    | ret d => exact hΦ.elim

theorem call_iter {K F : Fz} {s : Shared} {v : Value} {ds : List D} {Q : Value → Shared → Prop} {E : Value → Shared → Prop} {G : Gx} {A : Around} (hh : A.handled = none) (S : Src K F v ds)
    (hF : ∀ a o, F a = some o → s.heap.get? a = some o) (hK : ∀ a o, K a = some o → s.heap.get? a = some o)
    (h : ∀ o P, o.isFreed = false → P 0 o → (∀ F', Fle F F' → IterOk G A K F' s.heap.objs.size ds P) → Q (.ref s.heap.objs.size) { s with heap := s.heap.push o }) : wpAny (model G.prog G.w) A (call (.builtin "iter") [v]) Q E s := by
  refine call_function_entry (by decide +kernel) (by decide +kernel) kdk_entry_iter (kdk_args_iter _) ?_
  unfold Builtin.«iter»
  refine wpAny_bind (m := someArgs "iter" 1 2 _) (wpAny_of_eq (a := [v]) (by first | rfl | kernel_rfl!) ?_)
  show wpAny _ _ (pyIter v >>= _) _ _ _
  refine wpAny_bind (pyIter_src (G := G) hh S hF hK fun o P h1 h2 h3 => ?_)
  refine wpAny_pure ⟨_, rfl, h o P h1 h2 fun F' hF' => ?_⟩
  exact (h3 A hh).mono (Fle.refl _) hF'
end
end Mine
end

section
open PySem PySem.W PySem.W.X PyProof.Rows PySem.Spec PySem.Calls
set_option Elab.async false
set_option maxRecDepth 100000
theorem Mine.st1 : isSubtype (.type "tuple") (.type "tuple") = pure true := by rw [isSubtype_type]; kernel_rfl
theorem Mine.st2 : isSubtype (.type "dict") (.type "dict") = pure true := by rw [isSubtype_type]; kernel_rfl
theorem Mine.st3 : isSubtype (.type "type") (.type "type") = pure true := by rw [isSubtype_type]; kernel_rfl
theorem Mine.it1 : isType (.type "object") = pure true := by rfl
theorem Mine.to1 : typeOf (.type "object") = pure (.type "type") := by kernel_rfl
theorem Mine.no1 : Builtin.notOverATurnedClass [Value.type "object"] = pure () := by kernel_rfl
theorem Mine.eb1 : Builtin.extendedBase [Value.type "object"] = pure (Value.type "object") := by kernel_rfl
theorem Mine.forIn_one {α β : Type} {M : Model} {A : Around} {E : Value → Shared → Prop} {s : Shared} {x : α} {b : β} {f : α → β → Sem (ForInStep β)} {Q : β → Shared → Prop}
    (h : wpAny M A (f x b) (fun r s' => match r with | .yield c => Q c s' | .done c => Q c s') E s) : wpAny M A (forIn [x] b f) Q E s := by
  rw [List.forIn_cons]
  refine wpAny_bind (wpAny_mono h (fun r s' h' => ?_) fun _ _ e => e)
  cases r with
  | done c => exact wpAny_pure h'
  | yield c =>
    dsimp only
    rw [List.forIn_nil]
    exact wpAny_pure h'
theorem Mine.forIn_next {α β : Type} {M : Model} {A : Around} {E : Value → Shared → Prop} {s : Shared} {x : α} {l : List α} {b : β} {f : α → β → Sem (ForInStep β)} {Q : β → Shared → Prop}
    (h : wpAny M A (f x b) (fun r s' => match r with | .yield c => wpAny M A (forIn l c f) Q E s' | .done c => Q c s') E s) : wpAny M A (forIn (x :: l) b f) Q E s := by
  rw [List.forIn_cons]
  refine wpAny_bind (wpAny_mono h (fun r s' h' => ?_) fun _ _ e => e)
  cases r with
  | done c => exact wpAny_pure h'
  | yield c => exact h'
theorem Mine.forIn_none {α β : Type} {M : Model} {A : Around} {E : Value → Shared → Prop} {s : Shared} {b : β} {f : α → β → Sem (ForInStep β)} {Q : β → Shared → Prop} (h : Q b s) : wpAny M A (forIn [] b f) Q E s := by
  rw [List.forIn_nil]
  exact wpAny_pure h
theorem Mine.lk1 : typeLookup (.type "dict") "__iter__" = pure (some (.builtin "dict.__iter__")) := by rw [typeLookup_type, builtinLookup_eq_fast]; kernel_rfl
section
variable {M : Model} {A : Around} {E : Value → Shared → Prop} {s : Shared}
theorem Mine.newObj_abs {T : String} {data : Data} {Q : Value → Shared → Prop} (hd : sizeOk data) (hf : Obj.isFreed { cls := .type T, dict := none, data } = false)
    (h : ∀ N H, H.get? N = some { cls := .type T, dict := none, data } → (∀ b o, s.heap.get? b = some o → H.get? b = some o) → s.heap.get? N = none → Q (.ref N) { s with heap := H }) : wpAny M A (newObj (.type T) data) Q E s :=
  wpAny_newObj_type (h _ _ (Heap.get?_push_size _ hf) (fun b o e => Heap.get?_push_of_some _ e) (Heap.get?_none_of_le (Nat.le_refl _))) hd
theorem Mine.alloc_abs {o : Obj} {Q : Addr → Shared → Prop} (hf : o.isFreed = false)
    (h : ∀ N H, H.get? N = some o → (∀ b o, s.heap.get? b = some o → H.get? b = some o) → s.heap.get? N = none → Q N { s with heap := H }) : wpAny M A (alloc o) Q E s :=
  wpAny_alloc (h _ _ (Heap.get?_push_size _ hf) (fun b o e => Heap.get?_push_of_some _ e) (Heap.get?_none_of_le (Nat.le_refl _)))
end
section
variable {M : Model} {A : Around} {E : Value → Shared → Prop} {s : Shared}
theorem Mine.setSlot_abs {a : Addr} {i : Nat} {v : Option Value} {o o' : Obj} {Q : Unit → Shared → Prop} (ho : s.heap.get? a = some o) (hi : i < 100) (ho' : { o with slots := (o.slots ++ Array.replicate (i + 1 - o.slots.size) none).setIfInBounds i v } = o') (hf : o'.isFreed = false)
    (h : ∀ H, H.get? a = some o' → Heap.SameBut a s.heap H → Q () { s with heap := H }) : wpAny M A (setSlotAt a i v) Q E s := by
  subst ho'
  unfold setSlotAt
  refine wpAny_ite_false (by rw [decide_eq_false_iff_not, sizeLine_eq]; lia) ?_
  exact wpAny_updatePart ho (h _ (Heap.get?_update_self _ ho hf) (Heap.SameBut.update ..))
theorem Mine.updateCls_abs {a : Addr} {f : ClassData → ClassData} {o o' : Obj} {c : ClassData} {Q : Unit → Shared → Prop} (ho : s.heap.get? a = some o) (hd : o.data = .cls c) (ho' : Obj.mapCls f o = o') (hf : o'.isFreed = false) (hp : o'.data.pastItsLine = none)
    (h : ∀ H, H.get? a = some o' → Heap.SameBut a s.heap H → Q () { s with heap := H }) : wpAny M A (updateCls a f) Q E s := by
  subst ho'
  unfold updateCls
  refine wpAny_bind (wpAny_load ho ?_)
  rw [hd]
  have hg := Heap.get?_update_self (Obj.mapCls f) ho hf
  exact wpAny_bind (wpAny_update ho (wpAny_lookBehind hg hp (h _ hg (Heap.SameBut.update ..))))
end
noncomputable def Mine.A0 : Around := { handled := none, depth := 800, frames := none, guards := none, units := 5000 }
theorem Mine.wp_room {α : Type} {M : Model} {A : Around} {E : Value → Shared → Prop} {s : Shared} {t : Sem α} {Q : α → Shared → Prop} (hh : A.handled = none) (hd : A.depth ≤ 800) (hu : A.units ≤ 5000) (h : wpAny M Mine.A0 t Q E s) : wpAny M A t Q E s :=
  fun Γ p hΓ => h Γ p ⟨hΓ.1.trans hh, Nat.le_trans hΓ.2.1 hd, (fun l e => by cases e), (fun l e => by cases e), Nat.le_trans hΓ.2.2.2.2 hu⟩
end

section
open PySem PySem.W PySem.W.X PyProof.Rows PySem.Spec PySem.Calls
set_option Elab.async false
set_option maxRecDepth 100000
theorem Mine.sr1 : Builtin.Slots.bestBase [Value.type "object"] = pure (Value.type "object") := by kernel_rfl
theorem Mine.sr2 : Builtin.Slots.slotNamesOf (Value.type "object") = pure [] := by kernel_rfl
theorem Mine.sr3 : Builtin.Slots.givesDict (Value.type "object") = pure false := by kernel_rfl
theorem Mine.sr4 : Builtin.Slots.givesWeak (Value.type "object") = pure false := by kernel_rfl
theorem Mine.sr5 : Builtin.Slots.varSize (Value.type "object") = pure false := by kernel_rfl
theorem Mine.mg1 : Builtin.Slots.mangle (Str.ofString "K") (Str.ofString "obj") = Str.ofString "obj" := by kernel_rfl
theorem Mine.slots_read (prog : Program) (w : World) (A : Around) (s : Shared) (lA : Addr) (es : Array DictEntry) (e : DictEntry) (ot : Tok) (E : Value → Shared → Prop) (Q : Builtin.Slots.Plan → Shared → Prop)
   (ln : Nat) (h3 : s.heap.get? lA = some (seqObj "list" [Value.str "obj" ot].toArray ln)) (he : es.find? (·.key.isStr "__slots__") = some e) (hv : e.val = .ref lA) (hno : es.any (·.key.isStr "obj") = false) 
   (hQ : ∀ X, (∀ b o, s.heap.get? b = some o → X.get? b = some o) → Q { names := ["obj"], dict := false, weak := false, inherited := [] } { s with heap := X }) : wpAny (model prog w) A (Builtin.Slots.read "K" [Value.type "object"] es) Q E s := by
  unfold Builtin.Slots.read
  refine wpAny_bind (wpAny_of_eq Mine.sr1 (wpAny_bind (wpAny_of_eq Mine.sr2 (wpAny_bind (wpAny_of_eq Mine.sr3 (wpAny_bind (wpAny_of_eq Mine.sr4 (wpAny_bind (wpAny_of_eq Mine.sr5 ?_)))))))))
  dsimp only
  rw [he]
  dsimp only
  refine wpAny_bind (wpAny_rule ?_)
  rw [hv]
  refine wpAny_bind (m := asStr? _) (wpAny_bind (wpAny_load h3 (wpAny_pure ?_)))
  refine wpAny_ite_false rfl ?_
  refine wpAny_bind (collect_list ⟨_, h3, rfl, _, rfl⟩ ?_ (by size_fits))
  refine wpAny_ite_true rfl ?_
  refine wpAny_bind (wpAny_of_eq Mine.sr5 ?_)
  refine wpAny_ite_false rfl ?_
  refine wpAny_bind (m := forIn _ _ _) (Mine.forIn_one (x := Value.str "obj" ot) ?_)
  refine wpAny_bind (m := asStr? _) (wpAny_pure ?_)
  refine wpAny_of_eq (a := ForInStep.yield (false, false, #[Str.ofString "obj"], [])) (by kernel_rfl) ?_
  dsimp only
  rw [← Array.forIn_toList]
  refine wpAny_bind (m := forIn _ _ _) (Mine.forIn_one (x := Str.ofString "obj") ?_)
  dsimp only
  rw [Mine.mg1, hno]
  refine wpAny_ite_false (by kernel_rfl) (wpAny_ite_false rfl (wpAny_ite_false (by kernel_rfl) (wpAny_pure ?_)))
  dsimp only
  refine wpAny_bind (m := forIn _ _ _) (Mine.forIn_one (x := Value.type "object") (wpAny_ite_false (by kernel_rfl) (wpAny_pure ?_)))
  exact wpAny_pure (hQ _ fun b o e => (Heap.get?_update_other _ _ (fun h => Nat.lt_irrefl _ (h ▸ Heap.lt_size e))).trans (Heap.get?_push_of_some _ e))
noncomputable def Mine.kcls (N : Addr) (qn : Str) (mro : List Value) (slots : Array (Option Value)) (hasDict : Bool) (sn : List Str) : Obj :=
  { cls := .type "type", dict := none, data := .cls { name := "K", bases := [.type "object"], mro, ns := N, qualname := qn, hasDict, slotNames := sn }, slots }
theorem Mine.mh1 : Builtin.mroHook? (.type "type") = pure none := by kernel_rfl
theorem Mine.ln1 : Builtin.linearize [Value.type "object"] mroOf = pure [Value.type "object"] := by kernel_rfl
theorem Mine.hfl (a : Addr) : List.filter (fun x => x != Value.ref a) [Value.ref a, Value.type "object"] = [Value.type "object"] := by
  rw [List.filter_cons, if_neg (by simp), List.filter_cons, if_pos (by rfl)]; rfl
theorem Mine.mb1 : Bind.madeBy (.type "object") = pure (some "object.__new__") := by kernel_rfl
end

section
open PySem PySem.W PySem.W.X PyProof.Rows PySem.Spec PySem.Calls
set_option Elab.async false
set_option maxRecDepth 100000
theorem Mine.k_mro {M : Model} {A : Around} {E : Value → Shared → Prop} {s : Shared} {a N : Addr} {qn : Str} {mro : List Value} {sl : Array (Option Value)} {hd : Bool} {sn : List Str} {Q : List Value → Shared → Prop}
    (ha : s.heap.get? a = some (Mine.kcls N qn mro sl hd sn)) (h : Q mro s) : wpAny M A (mroOf (.ref a)) Q E s := by
  show wpAny M A (do return (← classData a).mro) Q E s
  exact wpAny_bind (m := classData a) (wpAny_bind (wpAny_load ha (wpAny_pure (wpAny_pure h))))
theorem Mine.k_lookup {M : Model} {A : Around} {E : Value → Shared → Prop} {s : Shared} {a N : Addr} {qn name : Str} {m : Str → Option Value} {sl : Array (Option Value)} {hd : Bool} {sn : List Str} {Q : Option Value → Shared → Prop}
    (ha : s.heap.get? a = some (Mine.kcls N qn [.ref a, .type "object"] sl hd sn)) (hn : s.heap.Ns N m) (h : Q (match m name with | some v => some v | none => builtinOwn "object" name) s) : wpAny M A (typeLookup (.ref a) name) Q E s := by
  unfold typeLookup
  refine wpAny_bind (Mine.k_mro ha ?_)
  refine wpAny_bind (m := forIn _ _ _) (Mine.forIn_next ?_)
  refine wpAny_bind (m := classOwn _ _) (wpAny_bind (m := classData a) (wpAny_bind (wpAny_load ha (wpAny_pure ?_))))
  refine wpAny_nsGet hn ?_
  cases e : m name with
  | some v =>
    rw [e] at h
    exact wpAny_pure (wpAny_pure h)
  | none =>
    rw [e] at h
    refine wpAny_pure (Mine.forIn_one ?_)
    refine wpAny_bind (m := classOwn _ _) (wpAny_pure ?_)
    dsimp only at h
    cases e2 : builtinOwn "object" name with
    | some v =>
      rw [e2] at h
      exact wpAny_pure (wpAny_pure h)
    | none =>
      rw [e2] at h
      exact wpAny_pure (wpAny_pure h)
theorem Mine.bo1 : builtinOwn "object" "__new__" = some (.builtin "object.__new__") := by kernel_rfl
theorem Mine.slotAt_abs {M : Model} {A : Around} {E : Value → Shared → Prop} {s : Shared} {a : Addr} {i : Nat} {o : Obj} {Q : Option Value → Shared → Prop} (ho : s.heap.get? a = some o) (h : Q (o.slots[i]?).join s) : wpAny M A (slotAt a i) Q E s := by
  unfold slotAt
  exact wpAny_bind (wpAny_loadPart ho (wpAny_pure h))
theorem Mine.drop_size (name : Str) (m : Str → Option Value) (o : Obj) (es : Array DictEntry) (ep : Nat) (hd : o.data = .dict es ep) (hk : StrKeys es) (hm : ∀ x, nsFind es x = m x) :
    ∃ es' ep' v, (Obj.dropName name o).data = .dict es' ep' ∧ (Obj.dropName name o).isFreed = false ∧ es'.size ≤ es.size ∧ (∀ e ∈ es', e ∈ es) ∧ StrKeys es' ∧ ∀ x, nsFind es' x = if x = name then v else m x := by
  obtain ⟨c, d, dt, sl⟩ := o
  subst hd
  cases hi : es.findIdx? (·.key.isStr name) with
  | some i =>
    refine ⟨es.eraseIdxIfInBounds i, ep + 1, nsFind (es.eraseIdxIfInBounds i) name, by simp only [Obj.dropName_eq, Obj.dropNameByArray, hi], by simp only [Obj.dropName_eq, Obj.dropNameByArray, hi] <;> rfl, ?_, fun e he => ?_, hk.erase i, fun x => ?_⟩
    · unfold Array.eraseIdxIfInBounds
      split
      · rw [Array.size_eraseIdx]; lia
      · exact Nat.le_refl _
    · unfold Array.eraseIdxIfInBounds at he
      split at he
      · exact Array.mem_of_mem_eraseIdx he
      · exact he
    · by_cases hx : x = name
      · rw [if_pos hx, hx]
      · rw [if_neg hx, nsFind_erase_other hi hx, hm]
  | none => exact ⟨es, ep, m name, by simp only [Obj.dropName_eq, Obj.dropNameByArray, hi], by simp only [Obj.dropName_eq, Obj.dropNameByArray, hi] <;> rfl, Nat.le_refl _, fun _ he => he, hk, fun x => by by_cases hx : x = name <;> simp [hx, hm]⟩
theorem Mine.nsDel_le {M : Model} {A : Around} {E : Value → Shared → Prop} {s : Shared} {a : Addr} {m : Str → Option Value} {k : Nat} {name : Str} {P : Value → Prop} {Q : Bool → Shared → Prop} (hn : s.heap.Ns a m) (hz : s.heap.DictLe a k) (hP : s.heap.ValsAll a P)
    (hQ : ∀ b h' v, h'.Ns a (fun x => if x = name then v else m x) → Heap.SameBut a s.heap h' → h'.DictLe a k → h'.ValsAll a P → Q b { s with heap := h' }) : wpAny M A (nsDel a name) Q E s := by
  obtain ⟨o, es, ep, ho, hd, hk, hm⟩ := id hn
  have hle := hz o es ep ho hd
  have hb : ∃ b, nsHas name o = pure b := by
    rw [nsHas_eq]; unfold nsHasByArray; rw [hd]
    have hany : es.any (·.refKey) = false := by
      rw [Array.any_eq_false']
      intro e he
      obtain ⟨n, t, h⟩ := hk e he
      simp [DictEntry.refKey, h]
    cases hx : es.any fun x => x.key.isStr name with
    | true => exact ⟨true, by simp only [hx, if_true]⟩
    | false => exact ⟨false, by simp only [hx, hany, Bool.false_eq_true, if_false]⟩
  obtain ⟨b, hb⟩ := hb
  unfold nsDel
  refine wpAny_bind (wpAny_loadPart ho ?_)
  rw [hb]
  refine wpAny_bind (wpAny_pure ?_)
  cases b with
  | false => exact wpAny_pure (hQ false s.heap (m name) ⟨o, es, ep, ho, hd, hk, fun x => by by_cases hx : x = name <;> simp [hx, hm]⟩ (.refl ..) hz hP)
  | true =>
    refine wpAny_bind (wpAny_updatePart ho (wpAny_pure ?_))
    obtain ⟨es', ep', v, h3, hf, h4, h45, h5, h6⟩ := Mine.drop_size name m o es ep hd hk hm
    have hg := Heap.get?_update_self (Obj.dropName name) ho hf
    refine hQ true _ v ⟨_, es', ep', hg, h3, h5, h6⟩ (Heap.SameBut.update ..) (fun o2 es2 ep2 q1 q2 => ?_) fun o2 es2 ep2 q1 q2 e he => ?_
    · rw [hg] at q1
      cases q1
      rw [h3] at q2
      cases q2
      lia
    · rw [hg] at q1
      cases q1
      rw [h3] at q2
      cases q2
      exact hP o es ep ho hd e (h45 e he)
theorem Mine.nsSetByValue_abs {M : Model} {A : Around} {E : Value → Shared → Prop} {s : Shared} {a : Addr} {m : Str → Option Value} {k : Nat} {name : Str} {v : Value} {P : Value → Prop} {Q : Unit → Shared → Prop} (hn : s.heap.Ns a m) (hz : s.heap.DictLe a k) (hk : k ≤ 1000) (hV : s.heap.ValsAll a P) (hv : P v)
    (h : ∀ h', h'.Ns a (fun x => if x = name then some v else m x) → Heap.SameBut a s.heap h' → h'.ValsAll a P → Q () { s with heap := h', toks := s.toks + 1 }) : wpAny M A (nsSetByValue a name v) Q E s := by
  obtain ⟨o, es, ep, ho, hd, _, _⟩ := id hn
  have hle := hz o es ep ho hd
  unfold nsSetByValue
  refine wpAny_bind (wpAny_loadPart ho ?_)
  rw [hd]
  refine wpAny_ite_false ?_ (wpAny_nsSetV hn hV hv h)
  rw [decide_eq_false_iff_not, Bool.and_eq_true, decide_eq_true_eq, sizeLine_eq]
  rintro ⟨h1, _⟩
  lia
theorem Mine.ns1 (a : Addr) : Builtin.noteSubclassOfBuiltin "object" a = pure () := by kernel_rfl
theorem Mine.forIn_all {α β : Type} {M : Model} {A : Around} {E : Value → Shared → Prop} {s : Shared} {b : β} {f : α → β → Sem (ForInStep β)} {Q : β → Shared → Prop} : ∀ {l : List α}, (∀ x ∈ l, wpAny M A (f x b) (fun r s' => r = .yield b ∧ s' = s) E s) → Q b s → wpAny M A (forIn l b f) Q E s
  | [], _, h => Mine.forIn_none h
  | x :: l, hf, h => Mine.forIn_next (wpAny_mono (hf x (.head _)) (fun r s' hr => by
      obtain ⟨rfl, rfl⟩ := hr
      exact Mine.forIn_all (fun y hy => hf y (.tail _ hy)) h) fun _ _ e => e)
theorem Mine.forIn_arr {α β : Type} {M : Model} {A : Around} {E : Value → Shared → Prop} {s : Shared} {b : β} {f : α → β → Sem (ForInStep β)} {Q : β → Shared → Prop} {l : Array α} (hf : ∀ x ∈ l, wpAny M A (f x b) (fun r s' => r = .yield b ∧ s' = s) E s) (h : Q b s) : wpAny M A (forIn l b f) Q E s := by
  rw [← Array.forIn_toList]
  exact Mine.forIn_all (fun x hx => hf x (by simpa using hx)) h
noncomputable def Mine.vok (h : Heap) (v : Value) : Prop := (∃ x t, v = .str x t) ∨ (∃ i t, v = .int i t) ∨ v = .none ∨ ∃ b o T, v = .ref b ∧ h.get? b = some o ∧ o.cls = .type T ∧ typeLookup (.type T) "__set_name__" = pure none
theorem Mine.vok.mono {h h' : Heap} {v : Value} (x : Mine.vok h v) (hk : ∀ b o, h.get? b = some o → h'.get? b = some o) : Mine.vok h' v := by
  rcases x with x | x | x | ⟨b, o, T, e1, e2, e3, e4⟩
  · exact .inl x
  · exact .inr (.inl x)
  · exact .inr (.inr (.inl x))
  · exact .inr (.inr (.inr ⟨b, o, T, e1, hk _ _ e2, e3, e4⟩))
theorem Mine.sn1 : typeLookup (.type "str") "__set_name__" = pure none := by rw [typeLookup_type, builtinLookup_eq_fast]; kernel_rfl
theorem Mine.sn2 : typeLookup (.type "int") "__set_name__" = pure none := by rw [typeLookup_type, builtinLookup_eq_fast]; kernel_rfl
theorem Mine.sn3 : typeLookup (.type "NoneType") "__set_name__" = pure none := by rw [typeLookup_type, builtinLookup_eq_fast]; kernel_rfl
theorem Mine.sn4 : typeLookup (.type "member_descriptor") "__set_name__" = pure none := by rw [typeLookup_type, builtinLookup_eq_fast]; kernel_rfl
theorem Mine.vok_special {M : Model} {A : Around} {E : Value → Shared → Prop} {s : Shared} {v : Value} {Q : Option Value → Shared → Prop} (hv : Mine.vok s.heap v) (h : Q none s) : wpAny M A (specialOf v "__set_name__") Q E s := by
  rcases hv with ⟨x, t, rfl⟩ | ⟨x, t, rfl⟩ | rfl | ⟨b, o, T, rfl, e2, e3, e4⟩
  · exact wpAny_bind (m := typeOf _) (wpAny_pure (wpAny_of_eq Mine.sn1 h))
  · exact wpAny_bind (m := typeOf _) (wpAny_pure (wpAny_of_eq Mine.sn2 h))
  · exact wpAny_bind (m := typeOf _) (wpAny_pure (wpAny_of_eq Mine.sn3 h))
  · exact wpAny_specialOf (T := T) ⟨o, e2, e3⟩ e4 h
theorem Mine.vok_held {h : Heap} {v : Value} (hv : Mine.vok h v) (k : Value) : Builtin.laidUnderItsOwnName k v = false := by
  rcases hv with ⟨x, t, rfl⟩ | ⟨x, t, rfl⟩ | rfl | ⟨b, o, T, rfl, e2, e3, e4⟩ <;> cases k <;> rfl
theorem Mine.vals_same {h h' : Heap} {a : Addr} {P : Value → Prop} (V : h.ValsAll a P) (e : h'.get? a = h.get? a) : h'.ValsAll a P := fun o es ep q => V o es ep (e ▸ q)
theorem Mine.vals_mono {h : Heap} {a : Addr} {P P' : Value → Prop} (V : h.ValsAll a P) (hp : ∀ v, P v → P' v) : h.ValsAll a P' := fun o es ep q r e he => hp _ (V o es ep q r e he)
end

section
open PySem PySem.W PySem.W.X PyProof.Rows PySem.Spec PySem.Calls
set_option Elab.async false
set_option maxRecDepth 100000
theorem Mine.mem_all {h0 h : Heap} {news : List (Addr × Obj)} (D : Mem h0 h [] news) : ∀ b o, h0.get? b = some o → h.get? b = some o := fun b o e => D.keep b o e (by simp [away])
theorem Mine.mem_head {h0 h : Heap} {chg r : List (Addr × Obj)} {a : Addr} {o : Obj} (D : Mem h0 h chg ((a, o) :: r)) : h.get? a = some o := (D.nw (a, o) (.head _)).1
theorem Mine.mem_new {h0 h : Heap} {chg r : List (Addr × Obj)} {a : Addr} {o : Obj} (D : Mem h0 h chg ((a, o) :: r)) : h0.get? a = none := (D.nw (a, o) (.head _)).2
set_option hygiene false in
local macro_rules | `(tactic| x_close) => `(tactic| first | exact hQ _ _ _ (Mine.mem_all (by assumption)) (Mine.mem_head (by assumption)) (Mine.mem_new (by assumption)) | exact hQ _ _ (Mine.mem_all (by assumption)) | exact hQ _ _ (fun _ _ e => e))
section
variable (prog : Program) (w : World) (s : Shared) (hg : s.gens = #[]) (k n : Addr) (q : Str) (sl : Array (Option Value)) (E Q : Value → Shared → Prop)
set_option maxHeartbeats 8000000 in
include hg in
theorem Mine.cmg
   (h2 : s.heap.get? k = some ⟨.type "type", none, .cls { name := "K", bases := [.type "object"], mro := [.ref k, .type "object"], ns := n, qualname := q, hasDict := false, slotNames := ["obj"] }, sl⟩)
   (hQ : ∀ mo h' tk, (∀ b o, s.heap.get? b = some o → h'.get? b = some o) → h'.get? mo = some { cls := .type "builtin_function_or_method", data := .fields #[.builtin "object.__init_subclass__", .ref k] } → s.heap.get? mo = none → Q (.ref mo) ⟨h', #[], s.drawn, tk, s.os⟩) :
   wpAny (model prog w) Mine.A0 (call (.builtin "classmethod_descriptor.__get__") [.builtin "object.__init_subclass__", .none, .ref k]) Q E s := by
  x_run
set_option maxHeartbeats 8000000 in
include hg in
theorem Mine.sup1
   (h2 : s.heap.get? k = some ⟨.type "type", none, .cls { name := "K", bases := [.type "object"], mro := [.ref k, .type "object"], ns := n, qualname := q, hasDict := false, slotNames := ["obj"] }, sl⟩)
   (hQ : ∀ mo h' tk, (∀ b o, s.heap.get? b = some o → h'.get? b = some o) → h'.get? mo = some { cls := .type "super", data := .fields #[.ref k, .ref k, .ref k] } → s.heap.get? mo = none → Q (.ref mo) ⟨h', #[], s.drawn, tk, s.os⟩) :
   wpAny (model prog w) Mine.A0 (call (.type "super") [.ref k, .ref k]) Q E s := by
  x_run
set_option maxHeartbeats 8000000 in
include hg in
theorem Mine.isc (mo bA : Addr) (kt qt : Tok)
   (h2 : s.heap.get? k = some ⟨.type "type", none, .cls { name := "K", bases := [.type "object"], mro := [.ref k, .type "object"], ns := n, qualname := "cmp_to_key.<locals>.K", hasDict := false, slotNames := ["obj"] }, #[some (.ref bA), none, some (.str "K" kt), some (.str "cmp_to_key.<locals>.K" qt), some (.builtin "object.__new__"), some (.bool false)]⟩)
   (h3 : s.heap.get? mo = some ⟨.type "builtin_function_or_method", none, .fields #[.builtin "object.__init_subclass__", .ref k], #[]⟩)
   (hQ : ∀ h' tk, (∀ b o, s.heap.get? b = some o → h'.get? b = some o) → Q .none ⟨h', #[], s.drawn, tk, s.os⟩) :
   wpAny (model prog w) Mine.A0 (call (.ref mo) []) Q E s := by
  x_run
end
end

section
open PySem PySem.W PySem.W.X PyProof.Rows PySem.Spec PySem.Calls
set_option Elab.async false
set_option maxRecDepth 100000
theorem Mine.dw1 (a : Addr) : List.drop 1 (List.dropWhile (fun x => x != Value.ref a) [Value.ref a, Value.type "object"]) = [Value.type "object"] := by
  rw [List.dropWhile_cons, if_neg (by simp)]; rfl
theorem Mine.is1 : builtinOwn "object" "__init_subclass__" = some (.builtin "object.__init_subclass__") := by kernel_rfl
theorem Mine.is0 : classOwn (.type "object") "__init_subclass__" = pure (some (.builtin "object.__init_subclass__")) := congrArg pure Mine.is1
theorem Mine.is2 : typeOf (.builtin "object.__init_subclass__") = pure (.type "classmethod_descriptor") := by show builtinType _ = _; rw [builtinType_eq_fast]; kernel_rfl
theorem Mine.is3 : typeLookup (.type "classmethod_descriptor") "__get__" = pure (some (.builtin "classmethod_descriptor.__get__")) := by rw [typeLookup_type, builtinLookup_eq_fast]; kernel_rfl
theorem Mine.super_ga {prog : Program} {w : World} {A : Around} {s : Shared} {a N sp : Addr} {qn : Str} {sl : Array (Option Value)} {t : Tok} {E Q : Value → Shared → Prop} {ms : Str → Option Value}
    (hsp : s.heap.get? sp = some { cls := .type "super", dict := none, data := .fields #[.ref a, .ref a, .ref a], slots := #[] }) (ha : s.heap.get? a = some (Mine.kcls N qn [.ref a, .type "object"] sl false ["obj"]))
    (hA : A.handled = none) (hA2 : A.depth ≤ 800) (hA3 : A.units + 1 ≤ 5000) (hg : s.gens = #[])
    (hQ : ∀ mo h' tk, (∀ b o, s.heap.get? b = some o → h'.get? b = some o) → h'.get? mo = some { cls := .type "builtin_function_or_method", data := .fields #[.builtin "object.__init_subclass__", .ref a] } → Q (.ref mo) ⟨h', #[], s.drawn, tk, s.os⟩)
    (hst : s.heap.Ns cStatics ms) (htp : ms "thirdparty.any" = none) : wpAny (model prog w) A (call (.builtin "super.__getattribute__") [.ref sp, .str "__init_subclass__" t]) Q E s := by
  refine wpAny_call_entry PySem.F.ks_slot_super_ga ⟨_, hsp, rfl⟩ PySem.F.ks_entry_super_ga ?_ (PySem.F.ks_gaArgs_super _ _)
  unfold Builtin.«super.__getattribute__»
  refine wpAny_bind (m := asStr? _) (wpAny_pure ?_)
  refine wpAny_ite_false rfl ?_
  refine wpAny_bind (m := asStr? _) (wpAny_pure ?_)
  refine wpAny_bind (wpAny_field hsp rfl (x := .ref a) rfl ?_)
  refine wpAny_bind (wpAny_field hsp rfl (x := .ref a) rfl ?_)
  refine wpAny_bind (wpAny_field hsp rfl (x := .ref a) rfl ?_)
  refine wpAny_ite_false (by kernel_rfl) ?_
  refine wpAny_bind (m := notOfAnOpaqueClass _ _ _) ?_
  unfold notOfAnOpaqueClass
  refine wpAny_bind (m := opaqueClassAbove _) ?_
  unfold opaqueClassAbove
  refine wpAny_bind (m := anyOpaqueLoaded) (wpAny_bind (wpAny_nsGet hst (wpAny_pure ?_)))
  refine wpAny_ite_true (by rw [htp]; rfl) (wpAny_pure (wpAny_pure ?_))
  refine wpAny_ite_false (by kernel_rfl) ?_
  refine wpAny_bind (Mine.k_mro ha ?_)
  rw [Mine.dw1]
  refine wpAny_bind (m := forIn _ _ _) (Mine.forIn_one ?_)
  refine wpAny_bind (wpAny_of_eq Mine.is0 ?_)
  refine wpAny_bind (wpAny_of_eq Mine.is2 (wpAny_bind (wpAny_of_eq Mine.is3 ?_)))
  refine wpAny_bind (wpAny_holding ?_)
  rw [if_pos (by simp)]
  refine Mine.wp_room hA hA2 hA3 (Mine.cmg prog w s hg a N qn sl E _ ha fun mo h' tk k1 k2 _ => ?_)
  refine wpAny_bind (m := ret _) (wpAny_pure (wpAny_pure ?_))
  exact wpAny_pure ⟨_, rfl, hQ mo h' tk k1 k2⟩
theorem Mine.sga1 : typeLookup (.type "super") "__getattribute__" = pure (some (.builtin "super.__getattribute__")) := by rw [typeLookup_type, builtinLookup_eq_fast]; kernel_rfl
theorem Mine.super_attr {prog : Program} {w : World} {A : Around} {s : Shared} {a N sp : Addr} {qn : Str} {sl : Array (Option Value)} {E Q : Value → Shared → Prop} {ms : Str → Option Value}
    (hsp : s.heap.get? sp = some { cls := .type "super", dict := none, data := .fields #[.ref a, .ref a, .ref a], slots := #[] }) (ha : s.heap.get? a = some (Mine.kcls N qn [.ref a, .type "object"] sl false ["obj"]))
    (hA : A.handled = none) (hA2 : A.depth ≤ 800) (hA3 : A.units + 1 ≤ 5000) (hg : s.gens = #[])
    (hQ : ∀ mo h' tk, (∀ b o, s.heap.get? b = some o → h'.get? b = some o) → h'.get? mo = some { cls := .type "builtin_function_or_method", data := .fields #[.builtin "object.__init_subclass__", .ref a] } → Q (.ref mo) ⟨h', #[], s.drawn, tk, s.os⟩)
    (hst : s.heap.Ns cStatics ms) (htp : ms "thirdparty.any" = none) : wpAny (model prog w) A (getAttr (.ref sp) "__init_subclass__") Q E s := by
  unfold getAttr getAttrBy
  refine wpAny_bind (wpAny_mkText (wpAny_holding (wpAny_bind (wpAny_typeOf (T := "super") ⟨_, hsp, rfl⟩ (wpAny_bind (wpAny_of_eq Mine.sga1 ?_))))))
  refine wpAny_ite_false rfl ?_
  unfold getAttrByItsOwn hookBefore callGetattribute boundAndCalled
  refine wpAny_bind (wpAny_ite_false rfl (wpAny_pure ?_))
  refine wpAny_bind (wpAny_attempt (wpAny_holding ?_))
  refine wpAny_ite_false rfl ?_
  refine wpAny_bind (wpAny_of_eq (PySem.F.ks_slot_super_ga.bind _) ?_)
  refine Mine.super_ga hsp ha hA hA2 hA3 hg (fun mo h' tk k1 k2 => ?_) hst htp
  exact wpAny_pure (hQ mo h' tk k1 k2)
end

section
open PySem PySem.W PySem.W.X PyProof.Rows PySem.Spec PySem.Calls
set_option Elab.async false
set_option maxRecDepth 100000
theorem Mine.dec0 {b : Bool} (h : b = false) : decide (b = true) = false := by rw [h]; rfl
theorem Mine.nsGetE {M : Model} {A : Around} {E : Value → Shared → Prop} {s : Shared} {a : Addr} {m : Str → Option Value} {name : Str} {r : Option Value} {Q : Option Value → Shared → Prop} (hn : s.heap.Ns a m) (e : m name = r) (h : Q r s) : wpAny M A (nsGet a name) Q E s := wpAny_nsGet hn (e ▸ h)
theorem Mine.k_lookupN {M : Model} {A : Around} {E : Value → Shared → Prop} {s : Shared} {a N : Addr} {qn name : Str} {m : Str → Option Value} {sl : Array (Option Value)} {hd : Bool} {sn : List Str} {r : Option Value} {Q : Option Value → Shared → Prop}
    (ha : s.heap.get? a = some (Mine.kcls N qn [.ref a, .type "object"] sl hd sn)) (hn : s.heap.Ns N m) (e : m name = none) (er : builtinOwn "object" name = r) (h : Q r s) : wpAny M A (typeLookup (.ref a) name) Q E s :=
  Mine.k_lookup ha hn (by rw [e, er]; exact h)
theorem Mine.notAt {h : Heap} {m : Str → Option Value} {N d : Addr} (hn : h.Ns N m) (nd : h.get? d = none) : d ≠ N := fun q => by
  obtain ⟨o2, es2, ep2, q3, q4⟩ := hn
  rw [q] at nd; rw [nd] at q3; cases q3
theorem Mine.dictLe_keep {h h' : Heap} {m : Str → Option Value} {N : Addr} {k : Nat} (hn : h.Ns N m) (z : h.DictLe N k) (kH : ∀ b o, h.get? b = some o → h'.get? b = some o) : h'.DictLe N k := fun o' es' ep' q1 q2 => by
  obtain ⟨o2, es2, ep2, q3, q4⟩ := hn
  rw [kH _ _ q3] at q1; cases q1
  exact z _ _ _ q3 q2
theorem Mine.vals_keep {h h' : Heap} {m : Str → Option Value} {N : Addr} {P P' : Value → Prop} (hn : h.Ns N m) (z : h.ValsAll N P) (kH : ∀ b o, h.get? b = some o → h'.get? b = some o) (hp : ∀ v, P v → P' v) : h'.ValsAll N P' := by
  have hNs : ∃ o, h.get? N = some o := by obtain ⟨o2, es2, ep2, q3, q4⟩ := hn; exact ⟨o2, q3⟩
  obtain ⟨o2, q3⟩ := hNs
  exact Mine.vals_mono (Mine.vals_same z (by rw [kH _ _ q3, ← q3])) hp
section
variable {α β : Type} {M : Model} {A : Around} {E : Value → Shared → Prop} {s : Shared} {m : Sem α} {f : α → Sem β} {Q : β → Shared → Prop}
theorem Mine.bE {a : α} (e : m = pure a) (h : wpAny M A (f a) Q E s) : wpAny M A (m >>= f) Q E s := wpAny_bind (wpAny_of_eq e h)
theorem Mine.bP {a : α} (h : wpAny M A (f a) Q E s) : wpAny M A (pure a >>= f) Q E s := wpAny_bind (wpAny_pure h)
theorem Mine.bN {a : Addr} {g : Option Value → Sem β} {m : Str → Option Value} {name : Str} {r : Option Value} (hn : s.heap.Ns a m) (e : m name = r) (h : wpAny M A (g r) Q E s) : wpAny M A (nsGet a name >>= g) Q E s := wpAny_bind (Mine.nsGetE hn e h)
theorem Mine.bS {a : Addr} {g : Unit → Sem β} {i : Nat} {v : Option Value} {o o' : Obj} (ho : s.heap.get? a = some o) (hi : i < 100) (ho' : { o with slots := (o.slots ++ Array.replicate (i + 1 - o.slots.size) none).setIfInBounds i v } = o') (hf : o'.isFreed = false)
    (h : ∀ H, H.get? a = some o' → Heap.SameBut a s.heap H → wpAny M A (g ()) Q E { s with heap := H }) : wpAny M A (setSlotAt a i v >>= g) Q E s := wpAny_bind (Mine.setSlot_abs ho hi ho' hf h)
end
set_option maxHeartbeats 800000 in
theorem Mine.tn (prog : Program) (w : World) (A : Around) (s : Shared) (bA nA lA : Addr) (t ot qt : Tok) (veq vhash : Value) (es : Array DictEntry) (e : DictEntry) (ep n ln : Nat) (E : Value → Shared → Prop) (Q : PySem.Fin → Shared → Prop) (ms : Str → Option Value)
   (h1 : s.heap.get? bA = some ⟨.type "tuple", none, .seq #[.type "object"] n, #[]⟩)
   (h2 : s.heap.get? nA = some ⟨.type "dict", none, .dict es ep, #[]⟩) (hsm : (nA == sysModules) = false)
   (h3 : s.heap.get? lA = some (seqObj "list" [Value.str "obj" ot].toArray ln)) (he : es.find? (·.key.isStr "__slots__") = some e) (hv : e.val = .ref lA) (hno : es.any (·.key.isStr "obj") = false)
   (m0 : Str → Option Value) (hk0 : StrKeys es) (hm0 : ∀ name, nsFind es name = m0 name) (hq0 : m0 "__qualname__" = some (.str "cmp_to_key.<locals>.K" qt)) (hd0 : m0 "__doc__" = none) (hd1 : m0 "__new__" = none) (hd2 : m0 "__init_subclass__" = none) (hd3 : m0 "__class_getitem__" = none) (hd4 : m0 "__classcell__" = none) (hd5 : m0 "__classdictcell__" = none) (hdel : es.any (·.key.isStr "__del__") = false) (hob : m0 "obj" = none) (heq : m0 "__eq__" = some veq) (hhash : m0 "__hash__" = some vhash) (hvs : ∀ e ∈ es, Mine.vok s.heap e.val) (hes : es.size ≤ 100) (hmod : es.any (·.key.isStr "__module__") = true)
   (hA : A.handled = none) (hA2 : A.depth + 3 ≤ 800) (hA3 : A.units + 4 ≤ 5000) (hg : s.gens = #[]) (hst : s.heap.Ns cStatics ms) (htp : ms "thirdparty.any" = none)
   (hQ : ∀ a N d dt mf h' tk, h'.Ns N mf → mf "obj" = some (.ref d) → (∀ nm, nm ≠ Str.ofString "obj" → nm ≠ Str.ofString "__doc__" → nm ≠ Str.ofString "__qualname__" → mf nm = m0 nm) → h'.get? d = some { cls := .type "member_descriptor", data := .fields #[.str "obj" dt, .ref a, .builtin "proto.slot", .builtin "proto.slot#set", rawInt 0] } → s.heap.get? a = none → s.heap.get? N = none → (∀ b o, s.heap.get? b = some o → h'.get? b = some o) → h'.get? a = some (Mine.kcls N "cmp_to_key.<locals>.K" [.ref a, .type "object"] #[some (.ref bA), none, some (.str "K" t), some (.str "cmp_to_key.<locals>.K" qt), some (.builtin "object.__new__"), some (.bool false)] false ["obj"]) → Q (PySem.Fin.done (.ret (.ref a))) ⟨h', #[], s.drawn, tk, s.os⟩) : wpAny (model prog w) A (Builtin.«type.__new__» ⟨[.type "type", .str "K" t, .ref bA, .ref nA], []⟩) Q E s := by
  unfold Builtin.«type.__new__»
  refine Mine.bE (m := asStr? _) rfl ?_
  refine wpAny_bind (wpAny_isInstance (T := "tuple") ⟨_, h1, rfl⟩ Mine.st1 ?_)
  refine wpAny_bind (wpAny_isInstance (T := "dict") ⟨_, h2, rfl⟩ Mine.st2 ?_)
  refine wpAny_bind (m := seqItems? _) (wpAny_bind (wpAny_load h1 (wpAny_pure ?_)))
  refine wpAny_bind (m := forIn _ _ _) (Mine.forIn_one (x := Value.type "object") (wpAny_bind (wpAny_of_eq Mine.it1 (wpAny_pure ?_))))
  refine wpAny_bind (m := forIn _ _ _) (Mine.forIn_one (x := Value.type "object") (wpAny_bind (wpAny_of_eq Mine.to1 (wpAny_bind (wpAny_of_eq Mine.st3 (wpAny_pure ?_))))))
  refine wpAny_ite_false rfl ?_
  refine Mine.bE (show Builtin.notOverATurnedClass _ = pure () from Mine.no1) ?_
  refine Mine.bE (show Builtin.extendedBase _ = pure (Value.type "object") from Mine.eb1) ?_
  refine wpAny_ite_false (Mine.dec0 hsm) ?_
  refine wpAny_bind (wpAny_dictEntries h2 rfl ?_)
  refine wpAny_bind (wpAny_specialOf (T := "dict") ⟨_, h2, rfl⟩ Mine.lk1 ?_)
  refine wpAny_ite_true (by simp) (Mine.bP ?_)
  refine wpAny_bind (wpAny_holding (Mine.slots_read prog w A s lA es e ot E _ ln h3 he hv hno fun X kX => ?_))
  refine wpAny_bind (Mine.newObj_abs (show sizeOk (Data.dict es) by size_fits) rfl fun N H1 hN kH1 nN => ?_)
  have hN0 : H1.Ns N m0 := ⟨_, es, 0, hN, rfl, hk0, hm0⟩
  have k1 : ∀ b o, s.heap.get? b = some o → H1.get? b = some o := fun b o e => kH1 b o (kX b o e)
  refine wpAny_ite_false (Mine.dec0 (show (!es.any _) = false by rw [hmod]; rfl)) ?_
  refine wpAny_bind (wpAny_ite_false (by kernel_rfl) (wpAny_pure ?_))
  refine wpAny_ite_false (by kernel_rfl) ?_
  refine Mine.bN hN0 hq0 ?_
  refine Mine.bN hN0 hq0 ?_
  refine Mine.bE (m := asStr? _) rfl ?_
  refine Mine.bP ?_
  refine Mine.bN hN0 hd0 ?_
  refine wpAny_bind (Mine.alloc_abs rfl fun a H2 ha kH2 na => ?_)
  refine wpAny_ite_true rfl ?_
  have sub : ∀ {h h' : Heap} {a b : Addr} {o : Obj}, Heap.SameBut a h h' → b ≠ a → h.get? b = some o → h'.get? b = some o := fun hs hb e => (hs.2 _ hb).trans e
  have haN : N ≠ a := fun q => by rw [q] at hN; rw [hN] at na; cases na
  have ke : ∀ b o, s.heap.get? b = some o → b ≠ a := fun b o e q => by have := k1 b o e; rw [q, na] at this; cases this
  have k2 : ∀ b o, s.heap.get? b = some o → H2.get? b = some o := fun b o e => kH2 b o (k1 b o e)
  have hN2 : H2.Ns N m0 := hN0.keeps fun b o e => kH2 b o e
  replace ha : H2.get? a = some (Mine.kcls N "cmp_to_key.<locals>.K" [] #[] true []) := ha
  refine Mine.bS (o' := Mine.kcls N "cmp_to_key.<locals>.K" [] #[some (.ref bA)] true []) ha (by decide) rfl rfl fun H3 ha3 s3 => ?_
  refine Mine.bS (o' := Mine.kcls N "cmp_to_key.<locals>.K" [] #[some (.ref bA), none, some (.str "K" t)] true []) ha3 (by decide) rfl rfl fun H4 ha4 s4 => ?_
  refine Mine.bS (o' := Mine.kcls N "cmp_to_key.<locals>.K" [] #[some (.ref bA), none, some (.str "K" t), some (.str "cmp_to_key.<locals>.K" qt)] true []) ha4 (by decide) rfl rfl fun H5 ha5 s5 => ?_
  have k5 : ∀ b o, s.heap.get? b = some o → H5.get? b = some o := fun b o e => sub s5 (ke b o e) (sub s4 (ke b o e) (sub s3 (ke b o e) (k2 b o e)))
  have hN5 : H5.Ns N m0 := ((hN2.sameBut s3 haN).sameBut s4 haN).sameBut s5 haN
  have nN' : ∀ b o, s.heap.get? b = some o → b ≠ N := fun b o e q => by have := kX b o e; rw [q, nN] at this; cases this
  have z5 : H5.DictLe N 100 := fun o' es' ep' q1 q2 => by
    rw [sub s5 haN (sub s4 haN (sub s3 haN (kH2 _ _ hN)))] at q1
    cases q1; cases q2; exact hes
  have V5 : H5.ValsAll N (Mine.vok s.heap) := fun o' es' ep' q1 q2 => by
    rw [sub s5 haN (sub s4 haN (sub s3 haN (kH2 _ _ hN)))] at q1
    cases q1; cases q2; exact hvs
  refine wpAny_bind (Mine.nsDel_le hN5 z5 V5 fun bq H6 vq hN6 s6 z6 V6 => ?_)
  have k6 : ∀ b o, s.heap.get? b = some o → H6.get? b = some o := fun b o e => sub s6 (nN' b o e) (k5 b o e)
  have ha6 := sub s6 (Ne.symm haN) ha5
  refine Mine.bN hN6 ((if_neg (by decide)).trans hd1) ?_
  refine wpAny_bind (m := forIn _ _ _) (Mine.forIn_next ?_)
  refine Mine.bN hN6 ((if_neg (by decide)).trans hd2) ?_
  refine wpAny_pure (Mine.forIn_one ?_)
  refine Mine.bN hN6 ((if_neg (by decide)).trans hd3) ?_
  refine wpAny_pure ?_
  refine Mine.bN hN6 ((if_neg (by decide)).trans hd4) ?_
  refine Mine.bN hN6 ((if_neg (by decide)).trans hd5) ?_
  refine Mine.bE Mine.mh1 ?_
  refine Mine.bE (show Builtin.linearize _ mroOf = _ from Mine.ln1) ?_
  refine Mine.bP ?_
  refine Mine.bE (a := false) (by rw [Mine.hfl]; kernel_rfl) ?_
  refine wpAny_bind (Mine.updateCls_abs (o' := Mine.kcls N "cmp_to_key.<locals>.K" [.ref a, .type "object"] #[some (.ref bA), none, some (.str "K" t), some (.str "cmp_to_key.<locals>.K" qt)] true []) ha6 rfl (by
    show Obj.mk _ _ _ _ = _
    dsimp only
    rw [hdel]
    rfl) rfl rfl fun H7 ha7 s7 => ?_)
  refine Mine.bE Mine.mb1 ?_
  refine Mine.bS (o' := Mine.kcls N "cmp_to_key.<locals>.K" [.ref a, .type "object"] #[some (.ref bA), none, some (.str "K" t), some (.str "cmp_to_key.<locals>.K" qt), some (.builtin "object.__new__")] true []) ha7 (by decide) rfl rfl fun H8 ha8 s8 => ?_
  have k8 : ∀ b o, s.heap.get? b = some o → H8.get? b = some o := fun b o e => sub s8 (ke b o e) (sub s7 (ke b o e) (k6 b o e))
  have hN8 := (hN6.sameBut s7 haN).sameBut s8 haN
  refine wpAny_bind (m := Bind.refreshMaker a) ?_
  unfold Bind.refreshMaker
  refine wpAny_bind (Mine.slotAt_abs ha8 ?_)
  refine wpAny_ite_false rfl ?_
  refine wpAny_bind (Mine.k_lookupN ha8 hN8 ((if_neg (by decide)).trans hd1) Mine.bo1 ?_)
  refine wpAny_ite_false (by kernel_rfl) (wpAny_pure ?_)
  refine wpAny_bind (m := Builtin.Slots.install _ _ _ _) ?_
  unfold Builtin.Slots.install
  dsimp only
  have z8 : H8.DictLe N 100 := (z6.sameBut s7 haN).sameBut s8 haN
  refine wpAny_bind (m := forIn _ _ _) (Mine.forIn_one (x := Str.ofString "obj") ?_)
  refine Mine.bN hN8 ((if_neg (by decide)).trans hob) ?_
  refine wpAny_ite_true rfl ?_
  refine wpAny_bind (wpAny_mkStr ?_)
  refine wpAny_bind (m := newFields _ _) (Mine.newObj_abs (by size_fits) rfl fun d H9 hd9 kH9 nd => ?_)
  have hN9 := hN8.keeps kH9
  have z9 : H9.DictLe N 100 := Mine.dictLe_keep hN8 z8 kH9
  have V9 : H9.ValsAll N (fun v => Mine.vok s.heap v ∨ v = .ref d) := Mine.vals_keep hN8 (Mine.vals_same V6 ((s8.2 _ haN).trans (s7.2 _ haN))) kH9 fun v h => .inl h
  refine wpAny_bind (Mine.nsSetByValue_abs hN9 z9 (by decide) V9 (.inr rfl) fun H10 hN10 s10 V10 => ?_)
  refine wpAny_pure ?_
  refine wpAny_bind (m := forIn _ _ _) (Mine.forIn_one (x := Value.type "object") (wpAny_bind (wpAny_of_eq Mine.sr3 (wpAny_pure ?_))))
  refine wpAny_ite_false (by kernel_rfl) ?_
  have ha10 := sub s10 (Ne.symm haN) (kH9 _ _ ha8)
  refine Mine.updateCls_abs (o' := Mine.kcls N "cmp_to_key.<locals>.K" [.ref a, .type "object"] #[some (.ref bA), none, some (.str "K" t), some (.str "cmp_to_key.<locals>.K" qt), some (.builtin "object.__new__")] false ["obj"]) ha10 rfl rfl rfl rfl fun H11 ha11 s11 => ?_
  refine Mine.bE Mine.sr4 ?_
  refine Mine.bS (o' := Mine.kcls N "cmp_to_key.<locals>.K" [.ref a, .type "object"] #[some (.ref bA), none, some (.str "K" t), some (.str "cmp_to_key.<locals>.K" qt), some (.builtin "object.__new__"), some (.bool false)] false ["obj"]) ha11 (by decide) rfl rfl fun H12 ha12 s12 => ?_
  have hN12 := (hN10.sameBut s11 haN).sameBut s12 haN
  have k12 : ∀ b o, s.heap.get? b = some o → H12.get? b = some o := fun b o e => sub s12 (ke b o e) (sub s11 (ke b o e) (sub s10 (nN' b o e) (kH9 b o (k8 b o e))))
  refine Mine.bN hN12 ((if_neg (by decide)).trans ((if_neg (by decide)).trans hd0)) ?_
  refine wpAny_ite_true rfl ?_
  have V12 : H12.ValsAll N (fun v => Mine.vok s.heap v ∨ v = .ref d) := Mine.vals_same V10 (by rw [s12.2 _ haN, s11.2 _ haN])
  refine wpAny_bind (wpAny_nsSetV hN12 V12 (.inl (.inr (.inr (.inl rfl)))) fun H13 hN13 s13 V13 => ?_)
  have k13 : ∀ b o, s.heap.get? b = some o → H13.get? b = some o := fun b o e => sub s13 (nN' b o e) (k12 b o e)
  have ha13 := sub s13 (Ne.symm haN) ha12
  refine Mine.bN hN13 ((if_neg (by decide)).trans ((if_neg (by decide)).trans ((if_neg (by decide)).trans heq))) ?_
  refine wpAny_ite_true rfl ?_
  refine Mine.bN hN13 ((if_neg (by decide)).trans ((if_neg (by decide)).trans ((if_neg (by decide)).trans hhash))) ?_
  refine wpAny_ite_false rfl ?_
  refine wpAny_bind (m := forIn _ _ _) (Mine.forIn_one (x := Value.type "object") ?_)
  refine wpAny_bind (wpAny_of_eq (Mine.ns1 a) (wpAny_pure ?_))
  have hdN : d ≠ N := Mine.notAt hN8 nd
  have hda : d ≠ a := fun q => by rw [q] at nd; rw [nd] at ha8; cases ha8
  have hd13 : H13.get? d = _ := sub s13 hdN (sub s12 hda (sub s11 hda (sub s10 hdN hd9)))
  have W13 : H13.ValsAll N (Mine.vok H13) := Mine.vals_mono V13 fun v h => by
    rcases h with h | rfl
    · exact h.mono k13
    · exact .inr (.inr (.inr ⟨d, _, "member_descriptor", rfl, hd13, rfl, Mine.sn4⟩))
  refine wpAny_bind (wpAny_tryCatch ?_)
  refine wpAny_holding ?_
  refine Classical.byContradiction fun hG => ?_
  obtain ⟨oN, eN, pN, q1, q2, q3, q4⟩ := id hN13
  refine hG ?_
  clear hG
  have q5 := W13 oN eN pN q1 q2
  refine wpAny_bind (wpAny_dictEntries q1 q2 ?_)
  refine wpAny_bind (m := forIn _ _ _) (Mine.forIn_arr (fun x hx => ?_) ?_)
  · obtain ⟨kn, kt, hkk⟩ := q3 x hx
    rw [hkk]
    exact wpAny_bind (m := asStr? _) (wpAny_pure (wpAny_ite_false rfl (wpAny_pure ⟨rfl, rfl⟩)))
  refine wpAny_ite_false rfl ?_
  refine wpAny_bind (wpAny_dictEntries q1 q2 ?_)
  refine wpAny_bind (m := forIn _ _ _) (Mine.forIn_arr (fun x hx => ?_) ?_)
  · refine wpAny_ite_false (Mine.dec0 (Mine.vok_held (q5 x hx) _)) ?_
    exact wpAny_bind (Mine.vok_special (q5 x hx) (wpAny_pure ⟨rfl, rfl⟩))
  refine wpAny_bind (Mine.wp_room hA (by lia) (by lia) (Mine.sup1 prog w ⟨H13, _, _, _, _⟩ (by exact hg) a N _ _ _ _ (by exact ha13) fun sp h' tk j1 j2 j3 => ?_))
  refine wpAny_bind (wpAny_holding (Mine.super_attr j2 (j1 _ _ ha13) hA (by lia) (by lia) rfl (fun mo h2 tk2 u1 u2 => ?_) (hst.keeps fun b o e => j1 b o (k13 b o e)) htp))
  refine wpAny_bind (Mine.wp_room hA (by lia) (by lia) (Mine.isc prog w ⟨h2, _, _, _, _⟩ rfl a N _ _ mo bA t qt (by exact u1 _ _ (j1 _ _ ha13)) (by exact u2) fun h3 tk3 v1 => ?_))
  refine wpAny_pure ?_
  exact wpAny_pure (hQ a N d _ _ h3 tk3 (hN13.keeps fun b o e => v1 _ _ (u1 _ _ (j1 _ _ e))) (by rw [if_neg (by decide), if_pos rfl]) (fun nm e1 e2 e3 => by rw [if_neg e2, if_neg e1, if_neg e3]) (by exact v1 _ _ (u1 _ _ (j1 _ _ hd13))) (Option.eq_none_iff_forall_ne_some.2 fun o e => ke _ _ e rfl) (Option.eq_none_iff_forall_ne_some.2 fun o e => nN' _ _ e rfl) (fun b o e => v1 _ _ (u1 _ _ (j1 _ _ (k13 _ _ e)))) (v1 _ _ (u1 _ _ (j1 _ _ ha13))))
end

section
open PySem PySem.W PySem.W.X PyProof.Rows PySem.Spec PySem.Calls
set_option Elab.async false
set_option maxRecDepth 100000
set_option hygiene false in
local macro_rules | `(tactic| x_close) => `(tactic| first | exact hQ _ _ (Mine.mem_all (by assumption)) | exact hQ _ _ (fun _ _ e => e))
set_option maxHeartbeats 8000000 in
theorem Mine.tinit (prog : Program) (w : World) (s : Shared) (hg : s.gens = #[]) (k n bA nA : Addr) (sl : Array (Option Value)) (t : Tok) (E Q : Value → Shared → Prop)
   (h2 : s.heap.get? k = some ⟨.type "type", none, .cls { name := "K", bases := [.type "object"], mro := [.ref k, .type "object"], ns := n, qualname := "cmp_to_key.<locals>.K", hasDict := false, slotNames := ["obj"] }, sl⟩)
   (hQ : ∀ h' tk, (∀ b o, s.heap.get? b = some o → h'.get? b = some o) → Q .none ⟨h', #[], s.drawn, tk, s.os⟩) :
   wpAny (model prog w) Mine.A0 (call (.builtin "type.__init__") [.ref k, .str "K" t, .ref bA, .ref nA]) Q E s := by
  x_run
theorem Mine.mb0 : Bind.madeBy (.type "type") = pure (some "type.__new__") := by kernel_rfl
theorem Mine.mr0 : mroOf (.type "type") = pure [.type "type", .type "object"] := by kernel_rfl
theorem Mine.te : entryFor table "type.__new__" = some Builtin.«type.__new__» := entryFor_of_tree (by kernel_rfl)
theorem Mine.cb0 (t : Tok) (bA nA : Addr) : checkBuiltinCall "type.__new__" ⟨[.type "type", .str "K" t, .ref bA, .ref nA], []⟩ = pure () := by kernel_rfl
theorem Mine.tcall (prog : Program) (w : World) (A : Around) (s : Shared) (bA nA : Addr) (t : Tok) (E Q : Value → Shared → Prop)
   (hn : wpAny (model prog w) A.in1.in1 (Builtin.«type.__new__» ⟨[.type "type", .str "K" t, .ref bA, .ref nA], []⟩) (fun f s' => ∃ v, f = .done (.ret v) ∧ s'.TypeIs v "type" ∧ wpAny (model prog w) A.in1 (call (.builtin "type.__init__") [v, .str "K" t, .ref bA, .ref nA]) (fun r s2 => r = .none ∧ Q v s2) E s') E s) :
   wpAny (model prog w) A (call (.type "type") [.str "K" t, .ref bA, .ref nA]) Q E s := by
  refine wpAny_call (codeAny_of_tree ?_)
  show wpAny _ _ (callAny (.type "type") _) _ _ _
  refine wpAny_pure ⟨Code.quiet_builtin _ (by decide +kernel), codeAny_builtin F.entry_type_call ?_⟩
  rw [Around.under_plain (weight_type_call_type _ _ []) (units_type_call_type _ _ [])]
  unfold Builtin.«type.__call__»
  refine wpAny_ite_true rfl ?_
  refine wpAny_ite_false rfl ?_
  refine wpAny_ite_false rfl ?_
  refine wpAny_ite_false (by decide +kernel) ?_
  refine wpAny_bind (wpAny_of_eq (a := ()) (by kernel_rfl) ?_)
  refine wpAny_bind (wpAny_of_eq Mine.mr0 ?_)
  refine wpAny_ite_false rfl ?_
  refine wpAny_bind (wpAny_of_eq Mine.mb0 (wpAny_bind (wpAny_pure ?_)))
  refine wpAny_bind (wpAny_holding (wpAny_call (codeAny_call_builtin (by decide +kernel) Mine.te (wpAny_of_eq (Mine.cb0 t bA nA) ?_))))
  refine wpAny_mono hn (fun f s1 hf => ?_) fun _ _ z => ?_
  · obtain ⟨v, rfl, hT, hi⟩ := hf
    refine wpAny_bind (wpAny_isInstance (b := true) hT (by rw [isSubtype_type]; kernel_rfl) (wpAny_ite_false rfl ?_))
    refine wpAny_bind (wpAny_holding (wpAny_callSpecial?_slot (id := "type.__init__") hT (.of (owner := "type") (n := "__init__") (by rw [typeLookup_type, builtinLookup_eq_fast]; kernel_rfl) (by decide +kernel) (by decide +kernel) (by decide +kernel) (by first | exact .inl (by decide +kernel) | exact .inr (by decide +kernel)) (by rw [isSubtype_type]; kernel_rfl)) ?_))
    refine wpAny_mono hi (fun r s2 hr => ?_) fun _ _ z => z
    obtain ⟨rfl, hq⟩ := hr
    exact wpAny_ite_false rfl (wpAny_pure hq)
  · exact z
end

section
open PySem PySem.W PySem.W.X PyProof.Rows PySem.Spec PySem.Calls
set_option Elab.async false
set_option maxRecDepth 100000
theorem Mine.mkK (prog : Program) (w : World) (A : Around) (s : Shared) (bA nA lA : Addr) (t ot qt : Tok) (veq vhash : Value) (es : Array DictEntry) (e : DictEntry) (ep n ln : Nat) (E : Value → Shared → Prop) (Q : Value → Shared → Prop) (ms : Str → Option Value)
   (h1 : s.heap.get? bA = some ⟨.type "tuple", none, .seq #[.type "object"] n, #[]⟩)
   (h2 : s.heap.get? nA = some ⟨.type "dict", none, .dict es ep, #[]⟩) (hsm : (nA == sysModules) = false)
   (h3 : s.heap.get? lA = some (seqObj "list" [Value.str "obj" ot].toArray ln)) (he : es.find? (·.key.isStr "__slots__") = some e) (hv : e.val = .ref lA) (hno : es.any (·.key.isStr "obj") = false)
   (m0 : Str → Option Value) (hk0 : StrKeys es) (hm0 : ∀ name, nsFind es name = m0 name) (hq0 : m0 "__qualname__" = some (.str "cmp_to_key.<locals>.K" qt)) (hd0 : m0 "__doc__" = none) (hd1 : m0 "__new__" = none) (hd2 : m0 "__init_subclass__" = none) (hd3 : m0 "__class_getitem__" = none) (hd4 : m0 "__classcell__" = none) (hd5 : m0 "__classdictcell__" = none) (hdel : es.any (·.key.isStr "__del__") = false) (hob : m0 "obj" = none) (heq : m0 "__eq__" = some veq) (hhash : m0 "__hash__" = some vhash) (hvs : ∀ e ∈ es, Mine.vok s.heap e.val) (hes : es.size ≤ 100) (hmod : es.any (·.key.isStr "__module__") = true)
   (hA : A.handled = none) (hA2 : A.depth + 6 ≤ 800) (hA3 : A.units + 8 ≤ 5000) (hg : s.gens = #[]) (hst : s.heap.Ns cStatics ms) (htp : ms "thirdparty.any" = none)
   (hQ : ∀ a N d dt mf h' tk, (h'.Ns N mf) → mf "obj" = some (.ref d) → (∀ nm, nm ≠ Str.ofString "obj" → nm ≠ Str.ofString "__doc__" → nm ≠ Str.ofString "__qualname__" → mf nm = m0 nm) → h'.get? d = some { cls := .type "member_descriptor", data := .fields #[.str "obj" dt, .ref a, .builtin "proto.slot", .builtin "proto.slot#set", rawInt 0] } → s.heap.get? a = none → s.heap.get? N = none → (∀ b o, s.heap.get? b = some o → h'.get? b = some o) → h'.get? a = some (Mine.kcls N "cmp_to_key.<locals>.K" [.ref a, .type "object"] #[some (.ref bA), none, some (.str "K" t), some (.str "cmp_to_key.<locals>.K" qt), some (.builtin "object.__new__"), some (.bool false)] false ["obj"]) → Q (.ref a) ⟨h', #[], s.drawn, tk, s.os⟩) : wpAny (model prog w) A (call (.type "type") [.str "K" t, .ref bA, .ref nA]) Q E s :=
  Mine.tcall prog w A s bA nA t E Q (Mine.tn prog w A.in1.in1 s bA nA lA t ot qt veq vhash es e ep n ln E _ ms h1 h2 hsm h3 he hv hno m0 hk0 hm0 hq0 hd0 hd1 hd2 hd3 hd4 hd5 hdel hob heq hhash hvs hes hmod
    hA (by simp only [Around.in1]; lia) (by simp only [Around.in1]; lia) hg hst htp
    fun a N d dt mf h' tk x1 x2 x3 x4 x5 x5' x6 x7 => ⟨_, rfl, ⟨_, x7, rfl⟩,
      Mine.wp_room (A := A.in1) hA (by simp only [Around.in1]; lia) (by simp only [Around.in1]; lia) (Mine.tinit prog w _ rfl a N bA nA _ t E _ x7 fun h2 tk2 k => ⟨rfl, hQ a N d dt mf h2 tk2 (x1.keeps k) x2 x3 (k _ _ x4) x5 x5' (fun b o e => k _ _ (x6 b o e)) (k _ _ x7)⟩)⟩)
end

section
open PySem PySem.W PySem.W.X PyProof.Rows PySem.Spec PySem.Calls
set_option Elab.async false
set_option maxRecDepth 100000
set_option hygiene false in
local macro_rules | `(tactic| x_close) => `(tactic| first | exact hQ _ _ _ (Mine.mem_all (by assumption)) (Mine.mem_head (by assumption)))
set_option hygiene false in
local macro_rules | `(tactic| x_close) => `(tactic| first | exact hR _ _ _ (Mine.mem_all (by assumption)) (Mine.mem_head (by assumption)) (Mine.mem_new (by assumption)))
set_option maxHeartbeats 8000000 in
theorem Mine.prepC (prog : Program) (w : World) (s : Shared) (hg : s.gens = #[]) (mo bA : Addr) (kt : Tok) (n : Nat) (E Q : Value → Shared → Prop)
   (h1 : s.heap.get? bA = some ⟨.type "tuple", none, .seq #[.type "object"] n, #[]⟩)
   (h3 : s.heap.get? mo = some ⟨.type "builtin_function_or_method", none, .fields #[.builtin "type.__prepare__", .type "type"], #[]⟩)
   (hR : ∀ d h' tk, (∀ b o, s.heap.get? b = some o → h'.get? b = some o) → h'.get? d = some ⟨.type "dict", none, .dict #[] 0, #[]⟩ → s.heap.get? d = none → Q (.ref d) ⟨h', #[], s.drawn, tk, s.os⟩) :
   wpAny (model prog w) Mine.A0 (call (.ref mo) [.str "K" kt, .ref bA]) Q E s := by
  x_run
set_option hygiene false in
local macro_rules | `(tactic| x_close) => `(tactic| first | exact hS _ _ _ (Mine.mem_all (by assumption)) (Mine.mem_head (by assumption)))
set_option maxHeartbeats 8000000 in
theorem Mine.prepG (prog : Program) (w : World) (s : Shared) (hg : s.gens = #[]) (t : Tok) (E Q : Value → Shared → Prop)
   (hS : ∀ mo h' tk, (∀ b o, s.heap.get? b = some o → h'.get? b = some o) → h'.get? mo = some { cls := .type "builtin_function_or_method", data := .fields #[.builtin "type.__prepare__", .type "type"] } → Q (.ref mo) ⟨h', #[], s.drawn, tk, s.os⟩) :
   wpAny (model prog w) Mine.A0 (call (.builtin "type.__getattribute__") [.type "type", .str "__prepare__" t]) Q E s := by
  x_run
end

section
open PySem PySem.W PySem.W.X PyProof.Rows PySem.Spec PySem.Calls
set_option Elab.async false
set_option maxRecDepth 100000
theorem Mine.pa1 : typeOf (.type "type") = pure (.type "type") := by kernel_rfl
theorem Mine.pa2 : typeLookup (.type "type") "__getattribute__" = pure (some (.builtin "type.__getattribute__")) := by rw [typeLookup_type, builtinLookup_eq_fast]; kernel_rfl
theorem Mine.pa4 : typeOf (.builtin "type.__getattribute__") = pure (.type "wrapper_descriptor") := by show builtinType _ = _; rw [builtinType_eq_fast]; kernel_rfl
theorem Mine.pa3 : bindSpecial (.builtin "type.__getattribute__") (.type "type") = pure (.builtin "type.__getattribute__", [.type "type"]) := by
  unfold bindSpecial; rw [Mine.pa4]; rfl
theorem Mine.prep_attr {prog : Program} {w : World} {A : Around} {s : Shared} {E : Value → Shared → Prop} {Q : Option Value → Shared → Prop}
    (hA : A.handled = none) (hA2 : A.depth ≤ 800) (hA3 : A.units + 1 ≤ 5000) (hg : s.gens = #[])
    (hQ : ∀ mo h' tk, (∀ b o, s.heap.get? b = some o → h'.get? b = some o) → h'.get? mo = some { cls := .type "builtin_function_or_method", data := .fields #[.builtin "type.__prepare__", .type "type"] } → Q (some (.ref mo)) ⟨h', #[], s.drawn, tk, s.os⟩)
    : wpAny (model prog w) A (getAttr? (.type "type") "__prepare__") Q E s := by
  unfold getAttr? getAttrBy? getAttrBy
  refine wpAny_bind (wpAny_mkText (wpAny_bind (wpAny_attempt (wpAny_holding (wpAny_bind (wpAny_of_eq Mine.pa1 (wpAny_bind (wpAny_of_eq Mine.pa2 ?_))))))))
  refine wpAny_ite_false rfl ?_
  unfold getAttrByItsOwn hookBefore callGetattribute boundAndCalled
  refine wpAny_bind (wpAny_ite_false rfl (wpAny_pure ?_))
  refine wpAny_bind (wpAny_attempt (wpAny_holding ?_))
  refine wpAny_ite_false rfl ?_
  refine wpAny_bind (wpAny_of_eq Mine.pa3 ?_)
  refine Mine.wp_room hA hA2 (by lia) (Mine.prepG prog w ⟨s.heap, s.gens, s.drawn, s.toks + 1, s.os⟩ hg _ _ _ fun mo h' tk k1 k2 => ?_)
  exact wpAny_pure (wpAny_pure (hQ mo h' tk k1 k2))
end

section
open PySem PySem.W PySem.W.X PyProof.Rows PySem.Spec PySem.Calls
set_option Elab.async false
set_option maxRecDepth 100000
noncomputable def Mine.Bd (h : Heap) (a : Addr) (m : Str → Option Value) (k : Nat) : Prop :=
  ∃ es ep, h.get? a = some ⟨.type "dict", none, .dict es ep, #[]⟩ ∧ StrKeys es ∧ (∀ x, nsFind es x = m x) ∧ es.size ≤ k ∧ ∀ e ∈ es, Mine.vok h e.val
theorem Mine.Bd.ns {h : Heap} {a : Addr} {m : Str → Option Value} {k : Nat} (x : Mine.Bd h a m k) : h.Ns a m := by
  obtain ⟨es, ep, h1, h2, h3, _⟩ := x
  exact ⟨_, es, ep, h1, rfl, h2, h3⟩
theorem Mine.Bd.keeps {h h' : Heap} {a : Addr} {m : Str → Option Value} {k : Nat} (x : Mine.Bd h a m k) (hk : ∀ b o, h.get? b = some o → h'.get? b = some o) : Mine.Bd h' a m k := by
  obtain ⟨es, ep, h1, h2, h3, h4, h5⟩ := x
  exact ⟨es, ep, hk _ _ h1, h2, h3, h4, fun e he => (h5 e he).mono hk⟩
noncomputable def Mine.up (m : Str → Option Value) (n : Str) (v : Value) : Str → Option Value := fun x => if x = n then some v else m x
theorem Mine.vok.but {h h' : Heap} {v : Value} {P : Addr} (x : Mine.vok h v) (hk : ∀ b o, b ≠ P → h.get? b = some o → h'.get? b = some o) (hP : ∀ o T, h.get? P = some o → o.cls ≠ .type T) : Mine.vok h' v := by
  rcases x with x | x | x | ⟨b, o, T, e1, e2, e3, e4⟩
  · exact .inl x
  · exact .inr (.inl x)
  · exact .inr (.inr (.inl x))
  · exact .inr (.inr (.inr ⟨b, o, T, e1, hk _ _ (fun q => hP o T (q ▸ e2) e3) e2, e3, e4⟩))
theorem Mine.Bd.but {h h' : Heap} {a : Addr} {m : Str → Option Value} {k : Nat} {P : Addr} (x : Mine.Bd h a m k) (hk : ∀ b o, b ≠ P → h.get? b = some o → h'.get? b = some o) (hP : ∀ o T, h.get? P = some o → o.cls ≠ .type T) : Mine.Bd h' a m k := by
  obtain ⟨es, ep, h1, h2, h3, h4, h5⟩ := x
  exact ⟨es, ep, hk _ _ (fun q => hP _ "dict" (q ▸ h1) rfl) h1, h2, h3, h4, fun e he => (h5 e he).but hk hP⟩
theorem Mine.vok.same {h h' : Heap} {v : Value} {a : Addr} (x : Mine.vok h v) (hs : Heap.SameBut a h h') (hl : ∃ o o', h.get? a = some o ∧ h'.get? a = some o' ∧ o'.cls = o.cls) : Mine.vok h' v := by
  rcases x with x | x | x | ⟨b, o, T, e1, e2, e3, e4⟩
  · exact .inl x
  · exact .inr (.inl x)
  · exact .inr (.inr (.inl x))
  · by_cases hb : b = a
    · subst hb
      obtain ⟨o1, o2, q1, q2, q3⟩ := hl
      rw [q1] at e2; cases e2
      exact .inr (.inr (.inr ⟨_, o2, T, e1, q2, q3.trans e3, e4⟩))
    · exact .inr (.inr (.inr ⟨b, o, T, e1, (hs.2 b hb).trans e2, e3, e4⟩))
section
open Sem (wp)
theorem Mine.wp_bd (M : Model) (Γ : PySem.Ctx) (E : Value → Pos → Shared → Prop) (p : Pos) (s : Shared) {a : Addr} {m : Str → Option Value} {k : Nat} {name : Str} {v : Value} {Q : Unit → Pos → Shared → Prop} (hb : Mine.Bd s.heap a m k) (hv : Mine.vok s.heap v)
    (h : ∀ h', Mine.Bd h' a (Mine.up m name v) (k + 1) → Heap.SameBut a s.heap h' → Q () p { s with heap := h', toks := s.toks + 1 }) : wp M Γ (nsSet a name v) Q E p s := by
  obtain ⟨es, ep, ho, hk, hm, hz, hV⟩ := hb
  simp only [nsSet, strHash, Sem.wp_bind', Sem.wp_cmd_ask, Sem.wp_pure', Sem.wp_cmd_mkText]
  rw [Sem.wp_loadPart_of M Γ E p { s with toks := s.toks + 1 } (o := _) _ ho]
  have hany : es.any (·.refKey) = false := by
    rw [Array.any_eq_false']; intro e he; obtain ⟨n, t, h⟩ := hk e he; simp [DictEntry.refKey, h]
  simp only [aRefKeyMayBeTheName_eq, aRefKeyMayBeTheNameByArray, hany, Bool.and_false, Bool.false_eq_true, if_false, Sem.wp_cmd_updatePart]
  refine ⟨by rw [ho]; rfl, h _ ?_ (Heap.SameBut.update ..)⟩
  cases hi : es.findIdx? (·.key.isStr name) with
  | some i =>
    have hg : ∀ (hh : Int) (key : Value), (s.heap.update a (Obj.putName name hh key v)).get? a = some ⟨.type "dict", none, .dict (es.modify i fun e => { e with val := v }) ep, #[]⟩ := fun hh key => (Heap.get?_update_self (h := s.heap) (Obj.putName name hh key v) ho (by simp only [Obj.putName_eq, Obj.putNameByArray, hi]; rfl)).trans (by simp only [Obj.putName_eq, Obj.putNameByArray, hi])
    have hs := fun (hh : Int) (key : Value) => Heap.SameBut.update s.heap a (Obj.putName name hh key v)
    refine ⟨_, ep, hg _ _, hk.modify _ _, fun x => ?_, by simp; lia, fun e he => ?_⟩
    · show _ = if x = name then some v else m x
      rw [← hm]; exact findBy_modify (fun n v => v.isStr n) Value.isStr_inj es name x v i hi
    · refine Mine.vok.same ?_ (hs _ _) ⟨_, _, ho, hg _ _, rfl⟩
      obtain ⟨j, hj, rfl⟩ := Array.mem_iff_getElem.mp he
      rw [Array.getElem_modify]
      split
      · exact hv
      · exact hV _ (Array.getElem_mem _)
  | none =>
    have hg : ∀ (hh : Int) (key : Value), (s.heap.update a (Obj.putName name hh key v)).get? a = some ⟨.type "dict", none, .dict (es.push ⟨hh, key, v⟩) (ep + 1), #[]⟩ := fun hh key => (Heap.get?_update_self (h := s.heap) (Obj.putName name hh key v) ho (by simp only [Obj.putName_eq, Obj.putNameByArray, hi]; rfl)).trans (by simp only [Obj.putName_eq, Obj.putNameByArray, hi])
    have hs := fun (hh : Int) (key : Value) => Heap.SameBut.update s.heap a (Obj.putName name hh key v)
    refine ⟨_, ep + 1, hg _ _, hk.push _ _ _ _, fun x => ?_, by simp; lia, fun e he => ?_⟩
    · show _ = if x = name then some v else m x
      rw [← hm]
      exact findBy_push (fun n v => v.isStr n) es name x _ _ v (fun y => by
        show (name == y) = decide (y = name)
        by_cases h : y = name
        · subst h; simp
        · have : ¬ name = y := fun e => h e.symm
          simp [h, this]) hi
    · refine Mine.vok.same ?_ (hs _ _) ⟨_, _, ho, hg _ _, rfl⟩
      rcases Array.mem_push.mp he with he | rfl
      · exact hV e he
      · exact hv
theorem Mine.bd_set {M : Model} {A : Around} {E : Value → Shared → Prop} {s : Shared} {a : Addr} {m : Str → Option Value} {k : Nat} {name : Str} {v : Value} {Q : Unit → Shared → Prop} (hb : Mine.Bd s.heap a m k) (hv : Mine.vok s.heap v)
    (h : ∀ h', Mine.Bd h' a (Mine.up m name v) (k + 1) → Heap.SameBut a s.heap h' → Q () { s with heap := h', toks := s.toks + 1 }) : wpAny M A (nsSet a name v) Q E s :=
  fun Γ p _ => Mine.wp_bd M Γ _ p s hb hv h
end
end

section
open PySem PySem.W PySem.W.X PyProof.Rows PySem.Spec PySem.Calls
set_option Elab.async false
set_option maxRecDepth 100000
theorem Mine.sn5 : typeLookup (.type "function") "__set_name__" = pure none := by rw [typeLookup_type, builtinLookup_eq_fast]; kernel_rfl
theorem Mine.sn6 : typeLookup (.type "list") "__set_name__" = pure none := by rw [typeLookup_type, builtinLookup_eq_fast]; kernel_rfl
theorem Mine.sn7 : typeLookup (.type "tuple") "__set_name__" = pure none := by rw [typeLookup_type, builtinLookup_eq_fast]; kernel_rfl
structure Mine.CB0 (mg : Str → Option Value) (h0 : Heap) (nA P c : Addr) : Prop where
  g : h0.Ns mainGlobals mg
  bm : ∃ bm o, mg "__builtins__" = some (.ref bm) ∧ bm ≠ builtinsNs ∧ bm ≠ mainGlobals ∧ h0.get? bm = some o ∧ o.cls = .type "module" ∧ o.dict = some builtinsNs ∧ o.data = .plain
  hd : CodeHd h0 c P
  n1 : mainGlobals ≠ nA
  n2 : mainGlobals ≠ P
  n3 : c ≠ nA
  n4 : nA ≠ P
  dA : ∃ o, h0.get? nA = some o ∧ o.cls = .type "dict"
  dP : ∃ o, h0.get? P = some o ∧ o.cls = .none
structure Mine.CodeK (h : Heap) (nA P : Addr) (v : Value) (q : Str) : Prop where
  ex : ∃ c, v = .ref c ∧ c ≠ nA ∧ c ≠ P
  rc : h.CodeRec v q
noncomputable def Mine.NewC (h0 : Heap) (P : Addr) (v : Value) : Prop := ∀ c, v = .ref c → h0.get? c = none ∨ ∃ ps0 pos0, h0.get? P = some (tabObj ps0) ∧ codeAmong pos0 ps0.toList = some v
structure Mine.CB (h0 : Heap) (nA P : Addr) (qf : Nat → Str) (m : Str → Option Value) (k : Nat) (h : Heap) : Prop where
  keep : ∀ b o, b ≠ nA → b ≠ P → h0.get? b = some o → h.get? b = some o
  bd : Mine.Bd h nA m k
  tab : ∃ ps, h.get? P = some (tabObj ps) ∧ TriplesOk ps.toList ∧ ∀ pos v, codeAmong pos ps.toList = some v → Mine.CodeK h nA P v (qf pos.line) ∧ Mine.NewC h0 P v
noncomputable def Mine.Kp (nA P : Addr) (h h' : Heap) : Prop := ∀ b o, b ≠ nA → b ≠ P → h.get? b = some o → h'.get? b = some o
theorem Mine.CodeK.kp {h h' : Heap} {nA P : Addr} {v : Value} {q : Str} (x : Mine.CodeK h nA P v q) (hk : Mine.Kp nA P h h') : Mine.CodeK h' nA P v q := by
  obtain ⟨⟨c, e1, e2, e3⟩, c', o, vs, t, e4, e5, e6⟩ := x
  rw [e1] at e4; cases e4
  exact ⟨⟨c, e1, e2, e3⟩, c, o, vs, t, e1, hk _ _ e2 e3 e5, e6⟩
noncomputable def Mine.FnAt (h : Heap) (nA P f : Addr) (name qual : Str) (params : Arguments) (body : List Stmt) (scope : Scope) (clos : List (Str × Addr)) : Prop :=
  f ≠ nA ∧ f ≠ P ∧ ∃ doc pm cv ctv, Mine.CodeK h nA P cv qual ∧ h.get? f = some { cls := .type "function", data := .func (kdv_fn name qual params (.stmts body) scope clos .none doc pm cv ctv) }
theorem Mine.FnAt.kp {h h' : Heap} {nA P f : Addr} {name qual : Str} {params : Arguments} {body : List Stmt} {scope : Scope} {clos : List (Str × Addr)} (x : Mine.FnAt h nA P f name qual params body scope clos) (hk : Mine.Kp nA P h h') : Mine.FnAt h' nA P f name qual params body scope clos := by
  obtain ⟨n1, n2, doc, pm, cv, ctv, e1, e2⟩ := x
  exact ⟨n1, n2, doc, pm, cv, ctv, e1.kp hk, hk _ _ n1 n2 e2⟩
theorem Mine.FnAt.vok {h : Heap} {nA P f : Addr} {name qual : Str} {params : Arguments} {body : List Stmt} {scope : Scope} {clos : List (Str × Addr)} (x : Mine.FnAt h nA P f name qual params body scope clos) : Mine.vok h (.ref f) := by
  obtain ⟨n1, n2, doc, pm, cv, ctv, e1, e2⟩ := x
  exact .inr (.inr (.inr ⟨f, _, "function", rfl, e2, rfl, Mine.sn5⟩))

theorem Mine.codeAmong_snoc' {p p' : Pos} {c v : Value} (l : List Value) (h : TriplesOk l) (hf : codeAmong p' (l ++ [rawInt p.line, rawInt p.col, c]) = some v) : codeAmong p' l = some v ∨ (v = c ∧ p'.line = p.line) := by
  fun_induction TriplesOk l with
  | case1 =>
    simp only [List.nil_append, codeAmong, rawInt] at hf
    split at hf
    · cases hf
      rename_i hc
      refine .inr ⟨rfl, ?_⟩
      simp at hc
      lia
    · cases hf
  | case2 a t b u x rest ih =>
    simp only [List.cons_append, codeAmong] at hf ⊢
    split at hf
    · rename_i hc; rw [if_pos hc]; exact .inl hf
    · rename_i hc; rw [if_neg hc]; exact ih h hf
  | case3 l h1 h2 => exact h.elim

section
variable {M : Model} {A : Around} {E : Value → Shared → Prop} {s : Shared} {env : Env} {mg : Str → Option Value} {h0 : Heap} {nA P c : Addr} {qf : Nat → Str} {m : Str → Option Value} {k : Nat} {name : Str}
theorem Mine.cs_store {v : Value} {Q : Unit → Shared → Prop} (hk : env.scope.kind = .class) (hl : env.locals = nA) (hn : env.kindOf name = some .local ∨ (env.kindOf name = none ∧ compilersOwnNames.contains name = true)) (C : Mine.CB h0 nA P qf m k s.heap) (C0 : Mine.CB0 mg h0 nA P c)
    (hv : Mine.vok s.heap v) (h : ∀ h', Mine.CB h0 nA P qf (Mine.up m name v) (k + 1) h' → Mine.Kp nA P s.heap h' → Q () ⟨h', s.gens, s.drawn, s.toks + 1, s.os⟩) : wpAny M A (storeName env name v) Q E s := by
  have main : wpAny M A (localSet env name v) Q E s := by
    unfold localSet
    obtain ⟨es, ep, ho, _⟩ := id C.bd
    rw [hl]
    refine wpAny_bind (wpAny_load ho (wpAny_ite_true rfl (Mine.bd_set C.bd hv fun h' b' hs => h h' ⟨?_, b', ?_⟩ ?_)))
    · exact fun b o n1 n2 e => (hs.2 b n1).trans (C.keep b o n1 n2 e)
    · obtain ⟨ps, e1, e2, e3⟩ := C.tab
      exact ⟨ps, (hs.2 P C0.n4.symm).trans e1, e2, fun pos v e => ⟨(e3 pos v e).1.kp fun b o n1 n2 e => (hs.2 b n1).trans e, (e3 pos v e).2⟩⟩
    · exact fun b o n1 n2 e => (hs.2 b n1).trans e
  unfold storeName
  rcases hn with hn | ⟨hn, hn2⟩
  · rw [hn]
    rw [if_neg (by rw [show (some NameKind.local == some NameKind.globalImplicit) = false from rfl]; simp)]
    show wpAny M A (if _ then _ else _) _ _ _
    exact wpAny_ite_true (by rw [hk]; rfl) main
  · rw [hn]
    rw [if_neg (by rw [show ((none : Option NameKind) == some NameKind.globalImplicit) = false from rfl]; simp)]
    have e1 : env.blockKind = .class := by unfold Env.blockKind; rw [hk]; rfl
    refine wpAny_ite_false (by rw [e1, hk, hn2]; rfl) ?_
    exact wpAny_ite_true (by rw [hk]; rfl) main
theorem Mine.cb_make {params : Arguments} {body : List Stmt} {scope : Scope} {pos : Pos} {clos : List (Str × Addr)} {Q : Value → Shared → Prop} {qual : Str} {ln : Nat} (hk0 : env.globals = mainGlobals) (hcode : env.code = .ref c) (hcl : closureFor scope env = pure clos) (C0 : Mine.CB0 mg h0 nA P c) (C : Mine.CB h0 nA P qf m k s.heap) (hq : qf pos.line = qual)
    (h : ∀ f h' tk, Mine.FnAt h' nA P f name qual params body scope clos → Mine.CB h0 nA P qf m k h' → Mine.Kp nA P s.heap h' → Q (.ref f) ⟨h', s.gens, s.drawn, tk, s.os⟩) :
    wpAny M A (makeFunction name qual params (.stmts body) scope env [] [] [] pos ln) Q E s := by
  rw [makeFunction_eq]
  simp only [List.zip_nil_right, List.filterMap_nil, List.isEmpty_nil, if_true, pure_bind]
  obtain ⟨oA, hA1, hA2⟩ := C0.dA
  obtain ⟨oP, hP1, hP2⟩ := C0.dP
  have hns : s.heap.Ns mainGlobals mg := by
    obtain ⟨o, es, ep, e, r⟩ := C0.g
    exact ⟨o, es, ep, C.keep _ _ C0.n1 C0.n2 e, r⟩
  have hhd : CodeHd s.heap c P := by
    obtain ⟨o, vs, file, tf, flags, tg, inF, text, tt, e, r⟩ := C0.hd
    refine ⟨o, vs, file, tf, flags, tg, inF, text, tt, C.keep _ _ C0.n3 ?_ e, r⟩
    exact r.2.2.2.2.2.2.2.2
  have hbm : s.heap.BuiltinsAt mg P := by
    obtain ⟨bm, o, b1, b2, b3, b4, b5, b6⟩ := C0.bm
    have n1 : bm ≠ P := fun q => by rw [q, hP1] at b4; cases b4; rw [hP2] at b5; cases b5
    have n2 : bm ≠ nA := fun q => by rw [q, hA1] at b4; cases b4; rw [hA2] at b5; simp at b5
    exact ⟨bm, o, b1, b2, b3, n1, C.keep _ _ n2 n1 b4, b5, b6⟩
  obtain ⟨ps, p1, p2, p3⟩ := C.tab
  obtain ⟨es, ep, ho, hbr⟩ := id C.bd
  cases hf : codeAmong pos ps.toList with
  | some cv =>
    refine kdv_makeTailHit hcl hk0 hns hcode hhd p1 p2 hf hbm fun ctv doc h' tk hk1 hsz => ?_
    have hk2 : ∀ b o, s.heap.get? b = some o → (h'.push { cls := .type "function", data := .func (kdv_fn name qual params (.stmts body) scope clos .none doc ((mg "__name__").getD .none) cv ctv) }).get? b = some o := fun b o e => Heap.get?_push_of_some _ (hk1 b o e)
    refine h h'.objs.size _ tk ⟨?_, ?_, doc, _, cv, ctv, ((hq ▸ (p3 pos cv hf).1).kp fun b o _ _ e => hk2 b o e), Heap.get?_push_size _ rfl⟩ ⟨fun b o n1 n2 e => hk2 _ _ (C.keep b o n1 n2 e), C.bd.keeps hk2, ps, hk2 _ _ p1, p2, fun pos v e => ⟨(p3 pos v e).1.kp fun b o _ _ e => hk2 b o e, (p3 pos v e).2⟩⟩ fun b o _ _ e => hk2 b o e
    · exact fun q => Nat.lt_irrefl _ (q ▸ Heap.lt_size (hk1 _ _ ho))
    · exact fun q => Nat.lt_irrefl _ (q ▸ Heap.lt_size (hk1 _ _ p1))
  | none =>
    refine kdv_makeTail hcl hk0 hns hcode hhd p1 p2 hf C0.n2 hbm fun c' ctv doc h' tk hx hge hlt hrec htb => ?_
    have hk2 : ∀ b o, b ≠ P → s.heap.get? b = some o → (h'.push (kdv_obj name qual params (.stmts body) scope clos .none doc ((mg "__name__").getD .none) c' ctv)).get? b = some o := fun b o n e => Heap.get?_push_of_some _ (hx b o n e)
    have nc1 : c' ≠ nA := fun q => Nat.lt_irrefl c' (Nat.lt_of_lt_of_le (q ▸ Heap.lt_size ho) hge)
    have nc2 : c' ≠ P := fun q => Nat.lt_irrefl c' (Nat.lt_of_lt_of_le (q ▸ Heap.lt_size p1) hge)
    have hbd : Mine.Bd (h'.push (kdv_obj name qual params (.stmts body) scope clos .none doc ((mg "__name__").getD .none) c' ctv)) nA m k := C.bd.but hk2 fun o T e q => by rw [p1] at e; cases e; cases q
    have hnc : Mine.CodeK (h'.push (kdv_obj name qual params (.stmts body) scope clos .none doc ((mg "__name__").getD .none) c' ctv)) nA P (.ref c') qual := ⟨⟨c', rfl, nc1, nc2⟩, hrec.push _⟩
    have lt1 : nA < h'.objs.size := Heap.lt_size (hx _ _ C0.n4 ho)
    have lt2 : P < h'.objs.size := Heap.lt_size htb
    refine h h'.objs.size _ tk ⟨Nat.ne_of_gt lt1, Nat.ne_of_gt lt2, doc, _, _, ctv, hnc, Heap.get?_push_size _ rfl⟩ ⟨fun b o n1 n2 e => hk2 _ _ n2 (C.keep b o n1 n2 e), hbd, _, Heap.get?_push_of_some _ htb, ?_, ?_⟩ fun b o _ n e => hk2 b o n e
    · rw [Array.toList_append]; exact TriplesOk_snoc _ _ _ _ p2
    · intro pos' v e
      rw [Array.toList_append] at e
      rcases Mine.codeAmong_snoc' _ p2 e with q | ⟨q1, q2⟩
      · exact ⟨(p3 pos' v q).1.kp fun b o _ n e => hk2 b o n e, (p3 pos' v q).2⟩
      · refine ⟨by rw [q1, q2, hq]; exact hnc, fun c2 e2 => .inl ?_⟩
        rw [q1] at e2; cases e2
        cases q0 : h0.get? c' with
        | none => rfl
        | some o => exact absurd (Heap.lt_size (C.keep _ _ nc1 nc2 q0)) (Nat.not_lt.mpr hge)
theorem Mine.cb_def {params : Arguments} {body : List Stmt} {scope : Scope} {pos : Pos} {clos : List (Str × Addr)} {Q : Flow → Shared → Prop} (hk : env.scope.kind = .class) (hl : env.locals = nA) (hn : env.kindOf name = some .local) (hk0 : env.globals = mainGlobals) (hcode : env.code = .ref c) (hcl : closureFor scope env = pure clos)
    (hd : params.defaults = []) (hd2 : params.kw_defaults = []) (ha : annTrees params none env = []) (C0 : Mine.CB0 mg h0 nA P c) (C : Mine.CB h0 nA P qf m k s.heap) (hq : qf pos.line = qualnameIn env name name)
    (h : ∀ f h' tk, Mine.FnAt h' nA P f name (qualnameIn env name name) params body scope clos → Mine.CB h0 nA P qf (Mine.up m name (.ref f)) (k + 1) h' → Mine.Kp nA P s.heap h' → Q .next ⟨h', s.gens, s.drawn, tk, s.os⟩) :
    wpAny M A (exec (.FunctionDef name params body [] none [] scope none name pos) env) Q E s := by
  rw [exec_def]
  refine wpAny_bind (wpAny_standAt (wpAny_bind (wpAny_holding ?_)))
  rw [defaultsOf_eq, hd, hd2, ha]
  refine wpAny_bind (evalAll_nil (wpAny_bind (wpAny_holding (wpAny_pure ?_))))
  refine wpAny_holding (wpAny_bind (wpAny_pure ?_))
  refine Mine.cb_make hk0 hcode hcl C0 C hq fun f h1 tk hf C1 k1 => ?_
  refine wpAny_bind (wpAny_standAt (wpAny_bind (wpAny_bindName ?_)))
  exact Mine.cs_store (s := ⟨h1, s.gens, s.drawn, tk, s.os⟩) hk hl (.inl hn) C1 C0 hf.vok fun h2 C2 k2 => wpAny_pure (h f h2 _ (hf.kp k2) C2 fun b o n1 n2 e => k2 b o n1 n2 (k1 b o n1 n2 e))
theorem Mine.cb_new {Q : Value → Shared → Prop} {T : String} {data : Data} (hz : sizeOk data) (ho : Obj.isFreed { cls := .type T, dict := none, data } = false) (C : Mine.CB h0 nA P qf m k s.heap)
    (h : ∀ b h', h'.get? b = some { cls := .type T, dict := none, data } → b ≠ nA → b ≠ P → Mine.CB h0 nA P qf m k h' → Mine.Kp nA P s.heap h' → Q (.ref b) ⟨h', s.gens, s.drawn, s.toks, s.os⟩) : wpAny M A (newObj (.type T) data) Q E s := by
  refine Mine.newObj_abs hz ho fun b H1 hb kH1 nb => ?_
  obtain ⟨es, ep, hA, _⟩ := id C.bd
  obtain ⟨ps, hP, p2, p3⟩ := C.tab
  refine h b H1 hb (fun q => by rw [q, hA] at nb; cases nb) (fun q => by rw [q, hP] at nb; cases nb) ⟨fun b o n1 n2 e => kH1 b o (C.keep b o n1 n2 e), C.bd.keeps kH1, ps, kH1 _ _ hP, p2, fun pos v e => ⟨(p3 pos v e).1.kp fun b o _ _ e => kH1 b o e, (p3 pos v e).2⟩⟩ fun b o _ _ e => kH1 b o e
end
end

section
open PySem PySem.W PySem.W.X PyProof.Rows PySem.Spec PySem.Calls
set_option Elab.async false
set_option maxRecDepth 100000
noncomputable def Mine.BTab (h0 h : Heap) (P : Addr) (qf : Nat → Str) : Prop :=
  ∃ ps, h.get? P = some (tabObj ps) ∧ TriplesOk ps.toList ∧ ∀ pos v, codeAmong pos ps.toList = some v → (∃ c, v = .ref c ∧ c ≠ P) ∧ h.CodeRec v (qf pos.line) ∧ Mine.NewC h0 P v
noncomputable def Mine.OPre (h : Heap) (P1 : Addr) (ps : Array Value) (pos : Pos) (qf : Nat → Str) : Option (Addr × Addr) → Prop
  | none => codeAmong pos ps.toList = none
  | some q => codeAmong pos ps.toList = some (.ref q.1) ∧ CodeHd h q.1 q.2 ∧ q.2 ≠ P1 ∧ Mine.BTab h h q.2 qf
section
variable {M : Model} {A : Around} {E : Value → Shared → Prop} {s : Shared} {env : Env} {c P : Addr} {ps : Array Value} {pos : Pos} {ln : Nat} {name qual : Str} {scope : Scope} {Q : Value → Shared → Prop}
theorem Mine.cc_new (hc : env.code = .ref c) (C : CodeHd s.heap c P) (hP : s.heap.get? P = some (tabObj ps)) (ht : TriplesOk ps.toList) (hnf : codeAmong pos ps.toList = none)
    (h : ∀ c' P' h' tk, Heap.ExtBut P s.heap h' → s.heap.objs.size ≤ c' → s.heap.objs.size ≤ P' → CodeHd h' c' P' → h'.get? P' = some (tabObj #[]) → h'.CodeRec (.ref c') qual →
      h'.get? P = some (tabObj (ps ++ #[rawInt pos.line, rawInt pos.col, .ref c'])) → Q (.ref c') { s with heap := h', toks := tk }) :
    wpAny M A (classCode env pos ln name qual scope) Q E s := by
  obtain ⟨o, vs, file, tf, flags, tg, inF, text, tt, op, ho, hd, h11, h2, h7, h9, h10, hop, hpd, htr, hne⟩ := C.code hP ht
  have e1 : op = tabObj ps := Option.some.inj (hop.symm.trans hP)
  subst e1
  unfold classCode codeAt
  rw [hc, if_neg (show ¬ ((Value.ref c == Value.none) = true) from Bool.false_ne_true)]
  refine wpAny_bind (wpAny_fieldsOf ho hd ?_)
  rw [h11]
  refine wpAny_bind (wpAny_fieldsOf hop rfl ?_)
  rw [hnf, h2, h7, h9, h10]
  refine wpAny_bind (wpAny_newCodeX fun c' P' h' tk hk hc' hP' hcode' htab' hrec' => ?_)
  have hop' := hk _ _ hop
  refine wpAny_bind (wpAny_updateFieldsOfTheText hop' rfl ?_)
  have hnew : Obj.mapFields (fun vs => if (codeAmong pos vs.toList).isSome = true then vs else vs ++ #[rawInt pos.line, rawInt pos.col, .ref c']) (tabObj ps) = tabObj (ps ++ #[rawInt pos.line, rawInt pos.col, .ref c']) := by
    simp only [tabObj, Obj.mapFields, hnf]; rfl
  have hget := Heap.get?_update_self (h := h') (fun o => Obj.mapFields (fun vs => if (codeAmong pos vs.toList).isSome = true then vs else
    vs ++ #[rawInt pos.line, rawInt pos.col, .ref c']) o) hop' (by rw [hnew]; rfl)
  rw [hnew] at hget
  refine wpAny_bind (wpAny_fieldsOf hget rfl ?_)
  rw [Array.toList_append, codeAmong_snoc _ htr hnf]
  have hs : Heap.SameBut P h' _ := Heap.SameBut.update h' P fun o => Obj.mapFields (fun vs => if (codeAmong pos vs.toList).isSome = true then vs else vs ++ #[rawInt pos.line, rawInt pos.col, .ref c']) o
  have hcP : c' ≠ P := Nat.ne_of_gt (Nat.lt_of_lt_of_le (Heap.lt_size hop) hc')
  have hPP : P' ≠ P := Nat.ne_of_gt (Nat.lt_of_lt_of_le (Heap.lt_size hop) hP')
  refine wpAny_pure (h c' P' _ _ (fun b o' hb e => hs.extBut b o' hb (hk b o' e)) hc' hP' ?_ ((hs.2 _ hPP).trans htab'.2) ?_ hget)
  · obtain ⟨o1, vs1, file1, tf1, flags1, tg1, inF1, text1, tt1, q1, q2⟩ := CodeHd.of hcode' htab'
    exact ⟨o1, vs1, file1, tf1, flags1, tg1, inF1, text1, tt1, (hs.2 _ hcP).trans q1, q2⟩
  · obtain ⟨c₂, o₂, vs₂, t₂, e₂, g₂, r₂⟩ := hrec'
    cases e₂
    exact ⟨_, o₂, vs₂, t₂, rfl, (hs.2 _ hcP).trans g₂, r₂⟩
theorem Mine.cc_hit {v : Value} (hc : env.code = .ref c) (C : CodeHd s.heap c P) (hP : s.heap.get? P = some (tabObj ps)) (ht : TriplesOk ps.toList) (hf : codeAmong pos ps.toList = some v) (h : Q v s) :
    wpAny M A (classCode env pos ln name qual scope) Q E s := wpAny_codeAt_hit hc (C.code hP ht) hf h
theorem Mine.cc_any {oP : Option (Addr × Addr)} {qf : Nat → Str} (hc : env.code = .ref c) (C : CodeHd s.heap c P) (hP : s.heap.get? P = some (tabObj ps)) (ht : TriplesOk ps.toList) (hO : Mine.OPre s.heap P ps pos qf oP)
    (h : ∀ c' P' h' tk ps', (∀ b o, b ≠ P → s.heap.get? b = some o → h'.get? b = some o) → CodeHd h' c' P' → Mine.BTab s.heap h' P' qf → (s.heap.get? P' = none ∨ oP = some (c', P')) → (s.heap.get? c' = none ∨ oP = some (c', P')) →
      h'.get? P = some (tabObj ps') → TriplesOk ps'.toList → codeAmong pos ps'.toList = some (.ref c') → P' ≠ P → Q (.ref c') { s with heap := h', toks := tk }) :
    wpAny M A (classCode env pos ln name qual scope) Q E s := by
  cases oP with
  | none =>
    refine Mine.cc_new hc C hP ht hO fun c' P' h' tk x gc gP hd hP' hr hP1 => ?_
    refine h c' P' h' tk _ x hd ⟨#[], hP', trivial, fun pos v e => (by cases e)⟩ (.inl (Heap.get?_none_of_le gP)) (.inl (Heap.get?_none_of_le gc)) hP1 (by rw [Array.toList_append]; exact TriplesOk_snoc _ _ _ _ ht) (by rw [Array.toList_append]; exact codeAmong_snoc _ ht hO) ?_
    rintro rfl
    exact absurd (Heap.lt_size hP) (Nat.not_lt.mpr gP)
  | some q =>
    obtain ⟨c', P'⟩ := q
    obtain ⟨h1, h2, h3, h4⟩ := hO
    exact Mine.cc_hit hc C hP ht h1 (h c' P' s.heap s.toks ps (fun _ _ _ e => e) h2 h4 (.inr rfl) (.inr rfl) hP ht h1 h3)
end
end

section
set_option Elab.async false
set_option linter.unusedVariables false
set_option linter.unusedSimpArgs false
set_option maxRecDepth 100000
namespace Mine
open PySem PySem.W PyProof.Rows PySem.Calls

noncomputable def nthSt (n : Nat) : Stmt := (PySem.Challenge.pw_sn0003_03.main.body[n]?).getD (.Pass ⟨0, 0, 0, 0⟩)
noncomputable def pa (n : Nat) : Arguments := match nthSt n with | .FunctionDef _ a _ _ _ _ _ _ _ _ => a | _ => { posonlyargs := [], args := [], vararg := none, kwonlyargs := [], kw_defaults := [], kwarg := none, defaults := [] }
noncomputable def bo (n : Nat) : List Stmt := match nthSt n with | .FunctionDef _ _ b _ _ _ _ _ _ _ => b | _ => []
noncomputable def sc (n : Nat) : Scope := match nthSt n with | .FunctionDef _ _ _ _ _ _ s _ _ _ => s | _ => { kind := .function, names := [], isGenerator := false, isCoroutine := false }
noncomputable abbrev fdN (n : Nat) (name qual : Str) (dV kV doc pm : Value) (an : Option Addr) (cdv ct : Value) : FuncData := fnX name qual (pa n) (bo n) (sc n) [] dV kV doc pm an cdv ct

section
variable {G : Gx} {f : Addr} {name qual : Str} {dV kV doc pm cdv ct : Value} {an : Option Addr}

theorem reduce_ok {T : Addr} {o : Obj} {m : Value} {n : Nat} (ho : G.hb.get? T = some o) (hs : o.data = .seq #[m] n) : FnOk G (fdN 3 name qual (.ref T) .none doc pm an cdv ct) (bo 3) ["function", "sequence", "initial"] 3 :=
  ⟨rfl, fun s vs hb h => by
    match vs, h with
    | [a, b, c], _ => exact BindsTo.of_defaults (T := T) (o := o) rfl (hb _ _ ho) hs rfl rfl, by decide, rfl, rfl, rfl, rfl, rfl⟩

theorem Ev.use {C : Cx} {σ : St} {e : Expr} {d : D} (h : Ev C σ e d) {K F : Fz} {s : Shared} {Q : Value → Shared → Prop} {E : Value → Shared → Prop} (X : Mo C K σ F s) (hQ : ∀ F' v s', Mo C K σ F' s' → Fle F F' → Rep F' v d → Q v s') : wpAny C.G.M C.A (eval e C.env) Q E s := h K F s Q E X hQ
theorem EvT.use {C : Cx} {σ : St} {e : Expr} {d : Bool} (h : EvT C σ e d) {K F : Fz} {s : Shared} {Q : Bool → Shared → Prop} {E : Value → Shared → Prop} (X : Mo C K σ F s) (hQ : ∀ F' s', Mo C K σ F' s' → Fle F F' → Q d s') : wpAny C.G.M C.A (isTrue e C.env (eval e C.env)) Q E s := h K F s Q E X hQ
theorem WP.use {C : Cx} {σ : St} {ss : List Stmt} {Φ : Out → St → Prop} (h : WP C σ ss Φ) {K F : Fz} {s : Shared} {Q : Flow → Shared → Prop} {E : Value → Shared → Prop} (X : Mo C K σ F s) (hQ : ∀ f o F' s' σ', OutIs F' f o → Mo C K σ' F' s' → Fle F F' → Φ o σ' → Q f s') : wpAny C.G.M C.A (execs ss C.env) Q E s := h K F s Q E X hQ
structure RedG (G : Gx) (mi : Addr) (om : Obj) : Prop where
  it1 : G.mg "iter" = none
  it2 : G.mb "iter" = some (.builtin "iter")
  m1 : G.mg "_initial_missing" = some (.ref mi)
  m2 : G.hb.get? mi = some om
  m3 : om.cls ≠ .type "list"
  m4 : om.cls ≠ .type "tuple"
noncomputable def IsCont (d : D) : Prop := (∃ ds, d = .list ds) ∨ ∃ ds, d = .tup ds
theorem is_miss {M : Model} {A : Around} {s : Shared} {Q : Value → Shared → Prop} {E : Value → Shared → Prop} {x y : Addr} {ox oy : Obj} (hxy : x ≠ y) (hx : s.heap.get? x = some ox) (hy : s.heap.get? y = some oy) (hnt : oy.cls ≠ .type "tuple")
    (h : Q (.bool false) s) : wpAny M A (compareOp .Is (.ref x) (.ref y)) Q E s := by
  show wpAny M A (do return .bool (← isSame (.ref x) (.ref y))) Q E s
  refine wpAny_bind ?_
  show wpAny M A (if (x == y) = true then pure true else _) _ E s
  rw [if_neg (by simpa using hxy)]
  refine wpAny_bind (wpAny_load hx (wpAny_bind (wpAny_load hy ?_)))
  split
  · rename_i h1 _ _; exact absurd h1 hnt
  · exact wpAny_pure (wpAny_pure h)
theorem EvT.miss {C : Cx} {σ : St} {x y : Str} {p q r : Pos} {d : D} {mi : Addr} {om : Obj} (hx : Ev C σ (.Name x p) d) (hd : IsCont d) (hk : C.env.kindOf y = some .globalImplicit) (hy : (y == ("__debug__" : Str)) = false) (h1 : C.G.mg y = some (.ref mi)) (h2 : C.G.hb.get? mi = some om) (h3 : om.cls ≠ .type "list") (h4 : om.cls ≠ .type "tuple") :
    EvT C σ (.Compare (.Name x p) [.Is] [.Name y q] r) false := fun K F s Q E X hQ => by
  refine wpAny_isTrue_Compare1 (hx K F s _ E X fun F1 v s1 X1 g1 r1 => gName X1 hk h1 ?_ hy) rfl
  have hm := X1.am.base _ _ h2
  rcases hd with ⟨ds, rfl⟩ | ⟨ds, rfl⟩
  · obtain ⟨a, o, vs, rfl, e1, ⟨e2, n, rfl⟩, e3⟩ := r1.list_inv
    refine is_miss (fun e => ?_) (X1.am.frz _ _ e1) (X1.am.frz _ _ hm) h4 (wpAny_truthy_bool (hQ F1 s1 X1 g1))
    subst e
    rw [hm] at e1
    cases e1
    exact h3 rfl
  · obtain ⟨a, o, vs, rfl, e1, ⟨e2, n, rfl⟩, e3⟩ := r1.tup_inv
    refine is_miss (fun e => ?_) (X1.am.frz _ _ e1) (X1.am.frz _ _ hm) h4 (wpAny_truthy_bool (hQ F1 s1 X1 g1))
    subst e
    rw [hm] at e1
    cases e1
    exact h4 rfl


noncomputable abbrev rdCx (G : Gx) (A : Around) (name qual : Str) (doc pm cdv ct : Value) (an : Option Addr) (T f L : Addr) (n : Nat) (P : Pred) : Cx := fnCx G A (fdN 3 name qual (.ref T) .none doc pm an cdv ct) f L n P
theorem reduce_body {A : Around} {L mi g : Addr} {om : Obj} {n m : Nat} {P : Pred} {ds : List D} {acc : Nat → D} {T : Addr} (RG : RedG G mi om) (h0 : IsCont (acc 0)) (hm : m ≤ n)
    (hg : ∀ k d, ds[k]? = some d → CallSem G m P g [] [acc k, d] (Pure (acc (k + 1)))) :
    WP (rdCx G A name qual doc pm cdv ct an T f L n P) { vars := [("function", .ref g), ("sequence", .list ds), ("initial", acc 0)], mu := [] } (bo 3) (Fin (Pure (acc ds.length))) := by
  intro K F s Q E X hQ
  refine wpAny_execs_cons (wpAny_Assign_Name (Call_Name1 (bName X rfl RG.it1 RG.it2 (callWith_bt (.inl ⟨_, rfl⟩) rfl (Calls.evalArgs_plain (Calls.spliced_cons (Ev.use (d := .list ds) (Ev.name rfl) X fun F1 v s1 X1 g1 r1 => Calls.spliced_nil ?_)))))))
  obtain ⟨a, o, vs, rfl, e1, e2, e3⟩ := r1.list_inv
  refine call_iter (G := G) X.ok.rm.hh (.list (.inl e1) e2 e3) X1.am.frz X1.am.keep fun oi PO hf hPO IT => ?_
  have X2 := X1.allocMu oi (.obj (PO 0)) s1.toks ⟨oi, Heap.get?_push_size _ hf, hPO⟩
  refine sto (.inl rfl) X2 (.ref _) fun s3 X3 => ?_
  refine wpAny_execs_cons (wpAny_If (EvT.use (EvT.miss (Ev.name rfl) h0 rfl rfl RG.m1 RG.m2 RG.m3 RG.m4) X3 fun F4 s4 X4 g4 => ?_))
  simp only [Bool.false_eq_true, if_false]
  refine WP.use (WP.set (x := "value") (.inl rfl) (Ev.name (d := acc 0) rfl) (WP.nil (Φ := fun o σ' => o = .next ∧ σ' = _) ⟨rfl, rfl⟩)) X4 fun f o F5 s5 σ5 ho X5 g5 hΦ => ?_
  obtain ⟨rfl, rfl⟩ := hΦ
  cases f <;> first | exact ho.elim | skip
  refine WP.forIt (Φ := Fin (Pure (acc ds.length))) (σ := { vars := [("value", acc 0), ("it", .ref s1.heap.objs.size), ("function", .ref g), ("sequence", .list ds), ("initial", acc 0)], mu := [] }) (it := s1.heap.objs.size) (PO := PO) (ds := ds)
    (fun k σ => σ.mu = [] ∧ σ.v "it" = some (.ref s1.heap.objs.size) ∧ σ.v "function" = some (.ref g) ∧ σ.v "value" = some (acc k))
    (fun σ k h => h.2.1) ⟨rfl, rfl, rfl, rfl⟩ (fun σ k h => h.1) (fun d σ => σ.set "element" d) (fun _ _ _ => rfl) (fun _ _ => rfl) (fun d σ => Asg.local rfl) (fun k d σ hk ⟨h1, h2, h3, h4⟩ => ?_) (fun σ ⟨h1, h2, h3, h4⟩ => ?_)
    (hX := X5) (IT := fun F' h => IT F' ((g4.trans g5).trans h)) (hQ := fun f o F' s' σ' ho X' g' hΦ => hQ f o F' s' σ' ho X' (((g1.trans g4).trans g5).trans g') hΦ)
  · have e1 : (σ.set "element" d).vars.lookup ("function" : Str) = some (.ref g) := h3
    have e2 : (σ.set "element" d).v "value" = some (acc k) := h4
    refine WP.set (.inl rfl) (Ev.call (d := acc (k + 1)) (Ev.name e1) (EvL.cons (Ev.name e2) (EvL.cons (Ev.name (d := d) rfl) EvL.nil)) (hg k d hk) hm fun K F s X => X.preFull (by simp)) (WP.nil ⟨h1, h2, h3, rfl⟩)
  · exact WP.nil (WP.ret (Ev.name h4) ⟨rfl, h1⟩)
theorem reduce_sem {mi g : Addr} {om : Obj} {n m : Nat} {P : Pred} {ds : List D} {acc : Nat → D} {T : Addr} {oT : Obj} {mm : Value} {nT : Nat} (RG : RedG G mi om) (hT : G.hb.get? T = some oT) (hT2 : oT.data = .seq #[mm] nT) (hF : FnF G.hb.get? f (fdN 3 name qual (.ref T) .none doc pm an cdv ct)) (h0 : IsCont (acc 0)) (hm : m ≤ n) (hmon : P.Mon)
    (hg : ∀ k d, ds[k]? = some d → CallSem G m P g [] [acc k, d] (Pure (acc (k + 1)))) : CallSem G (n + 1) P f [] [.ref g, .list ds, acc 0] (Pure (acc ds.length)) := by
  refine call_fn (fd := fdN 3 name qual (.ref T) .none doc pm an cdv ct) hmon (reduce_ok hT hT2) (fun K F hb _ => hF.mono hb) (show ∀ x ∈ (sc 3).names, _ by decide) (show ∀ x ∈ (["function", "sequence", "initial"] : List Str), (sc 3).names.lookup x = _ by decide) [] (fun K F _ => ⟨fun x hx => (nomatch hx), fun x d h => (nomatch h)⟩) List.Pairwise.nil (by simp) fun A L hr => ?_
  exact reduce_body RG h0 hm hg
end
end Mine
end

section
open PySem PySem.W PySem.W.X PyProof.Rows PySem.Spec PySem.Calls
set_option Elab.async false
set_option maxRecDepth 100000
noncomputable def Mine.kBody : List Stmt := match Mine.bo 1 with | .ClassDef _ _ _ b _ _ _ _ _ _ _ :: _ => b | _ => []
noncomputable def Mine.kSc : Scope := match Mine.bo 1 with | .ClassDef _ _ _ _ _ _ s _ _ _ _ :: _ => s | _ => Mine.sc 1
noncomputable def Mine.kPos : Pos := match Mine.bo 1 with | .ClassDef _ _ _ _ _ _ _ _ _ _ p :: _ => p | _ => ⟨0, 0, 0, 0⟩
noncomputable def Mine.kSt (n : Nat) : Stmt := (Mine.kBody[n]?).getD (.Pass ⟨0, 0, 0, 0⟩)
noncomputable def Mine.kPa (n : Nat) : Arguments := match Mine.kSt n with | .FunctionDef _ a _ _ _ _ _ _ _ _ => a | _ => Mine.pa 1
noncomputable def Mine.kBo (n : Nat) : List Stmt := match Mine.kSt n with | .FunctionDef _ _ b _ _ _ _ _ _ _ => b | _ => []
noncomputable def Mine.kFs (n : Nat) : Scope := match Mine.kSt n with | .FunctionDef _ _ _ _ _ _ s _ _ _ => s | _ => Mine.sc 1
noncomputable def Mine.kQ : Str := "cmp_to_key.<locals>.K"
noncomputable def Mine.kEnv (nA c fr cl : Addr) : Env := { scope := Mine.kSc, locals := nA, globals := mainGlobals, cells := [("mycmp", cl)], qual := Mine.kQ ++ ".", code := .ref c, frame := some fr, builtins := builtinsNs }
noncomputable def Mine.qf (l : Nat) : Str := if l = 8 then "cmp_to_key.<locals>.K.__init__" else if l = 11 then "cmp_to_key.<locals>.K.__lt__" else if l = 14 then "cmp_to_key.<locals>.K.__gt__" else if l = 17 then "cmp_to_key.<locals>.K.__eq__" else if l = 20 then "cmp_to_key.<locals>.K.__le__" else "cmp_to_key.<locals>.K.__ge__"
noncomputable def Mine.kMap (m : Str → Option Value) (md : Value) (lA f2 f3 f4 f5 f6 f7 : Addr) : Str → Option Value :=
  Mine.up (Mine.up (Mine.up (Mine.up (Mine.up (Mine.up (Mine.up (Mine.up (Mine.up m "__module__" md) "__slots__" (.ref lA)) "__init__" (.ref f2)) "__lt__" (.ref f3)) "__gt__" (.ref f4)) "__eq__" (.ref f5)) "__le__" (.ref f6)) "__ge__" (.ref f7)) "__hash__" .none
section
variable {M : Model} {A : Around} {E : Value → Shared → Prop} {s : Shared} {mg : Str → Option Value} {h0 : Heap} {nA P c fr cl : Addr} {m : Str → Option Value} {k : Nat} {name : Str}
theorem Mine.kcl (nA c fr cl : Addr) : closureFor (Mine.kFs 3) (Mine.kEnv nA c fr cl) = pure [(("mycmp" : Str), cl)] := by rfl
theorem Mine.kcl0 (nA c fr cl : Addr) : closureFor (Mine.kFs 2) (Mine.kEnv nA c fr cl) = pure [] := by rfl
theorem Mine.kp_trans {nA P : Addr} {h h' h'' : Heap} (x : Mine.Kp nA P h h') (y : Mine.Kp nA P h' h'') : Mine.Kp nA P h h'' := fun b o n1 n2 e => y b o n1 n2 (x b o n1 n2 e)
noncomputable def Mine.FnK (h : Heap) (nA P f cl : Addr) (n : Nat) (name qual : Str) : Prop := Mine.FnAt h nA P f name qual (Mine.kPa n) (Mine.kBo n) (Mine.kFs n) (if n = 2 then [] else [("mycmp", cl)])
set_option maxHeartbeats 4000000 in
theorem Mine.kbody {Q : Flow → Shared → Prop} (C0 : Mine.CB0 mg h0 nA P c) (C : Mine.CB h0 nA P Mine.qf m k s.heap)
   (h : ∀ lA f2 f3 f4 f5 f6 f7 md ot h' tk, (∃ x t, md = .str x t) → h'.get? lA = some (seqObj "list" [Value.str "obj" ot].toArray 0) → lA ≠ nA → lA ≠ P → Mine.FnK h' nA P f2 cl 2 "__init__" "cmp_to_key.<locals>.K.__init__" → Mine.FnK h' nA P f3 cl 3 "__lt__" "cmp_to_key.<locals>.K.__lt__" →
     Mine.CB h0 nA P Mine.qf (Mine.kMap m md lA f2 f3 f4 f5 f6 f7) (k + 9) h' → Mine.Kp nA P s.heap h' → Q .next ⟨h', s.gens, s.drawn, tk, s.os⟩) :
   wpAny M A (execs Mine.kBody (Mine.kEnv nA c fr cl)) Q E s := by
  refine wpAny_execs_cons (wpAny_Assign_Name (wpAny_mkText ?_))
  refine Mine.cs_store (s := ⟨s.heap, s.gens, s.drawn, s.toks + 1, s.os⟩) rfl rfl (.inl rfl) C C0 (.inl ⟨_, _, rfl⟩) fun h1 C1 k1 => ?_
  refine wpAny_execs_cons (wpAny_Assign_Name ?_)
  rw [arm_eval_List]
  refine wpAny_bind (wpAny_standAt (wpAny_bind (Calls.spliced_cons (wpAny_mkText (Calls.spliced_nil ?_)))))
  refine Mine.cb_new (s := ⟨h1, s.gens, s.drawn, s.toks + 1 + 1 + 1, s.os⟩) (T := "list") (data := .seq #[_]) (by size_fits) rfl C1 fun lA h2 l2 n1 n2 C2 k2 => ?_
  refine Mine.cs_store (s := ⟨h2, s.gens, s.drawn, s.toks + 1 + 1 + 1, s.os⟩) rfl rfl (.inl rfl) C2 C0 (.inr (.inr (.inr ⟨lA, _, "list", rfl, l2, rfl, Mine.sn6⟩))) fun h3 C3 k3 => ?_
  refine wpAny_execs_cons (Mine.cb_def (s := ⟨h3, s.gens, s.drawn, s.toks + 1 + 1 + 1 + 1, s.os⟩) rfl rfl rfl rfl rfl (Mine.kcl0 nA c fr cl) rfl rfl rfl C0 C3 rfl fun f2 h4 t4 F2 C4 k4 => ?_)
  refine wpAny_execs_cons (Mine.cb_def (s := ⟨h4, s.gens, s.drawn, t4, s.os⟩) rfl rfl rfl rfl rfl (Mine.kcl nA c fr cl) rfl rfl rfl C0 C4 rfl fun f3 h5 t5 F3 C5 k5 => ?_)
  refine wpAny_execs_cons (Mine.cb_def (s := ⟨h5, s.gens, s.drawn, t5, s.os⟩) rfl rfl rfl rfl rfl (Mine.kcl nA c fr cl) rfl rfl rfl C0 C5 rfl fun f4 h6 t6 F4 C6 k6 => ?_)
  refine wpAny_execs_cons (Mine.cb_def (s := ⟨h6, s.gens, s.drawn, t6, s.os⟩) rfl rfl rfl rfl rfl (Mine.kcl nA c fr cl) rfl rfl rfl C0 C6 rfl fun f5 h7 t7 F5 C7 k7 => ?_)
  refine wpAny_execs_cons (Mine.cb_def (s := ⟨h7, s.gens, s.drawn, t7, s.os⟩) rfl rfl rfl rfl rfl (Mine.kcl nA c fr cl) rfl rfl rfl C0 C7 rfl fun f6 h8 t8 F6 C8 k8 => ?_)
  refine wpAny_execs_cons (Mine.cb_def (s := ⟨h8, s.gens, s.drawn, t8, s.os⟩) rfl rfl rfl rfl rfl (Mine.kcl nA c fr cl) rfl rfl rfl C0 C8 rfl fun f7 h9 t9 F7 C9 k9 => ?_)
  refine wpAny_execs_cons (wpAny_Assign_Name (wpAny_pure ?_))
  refine Mine.cs_store (s := ⟨h9, s.gens, s.drawn, t9, s.os⟩) rfl rfl (.inl rfl) C9 C0 (.inr (.inr (.inl rfl))) fun h10 C10 k10 => ?_
  have q4 := Mine.kp_trans (Mine.kp_trans (Mine.kp_trans (Mine.kp_trans (Mine.kp_trans (Mine.kp_trans k5 k6) k7) k8) k9) k10) (fun _ _ _ _ e => e)
  have q5 := Mine.kp_trans (Mine.kp_trans (Mine.kp_trans (Mine.kp_trans k6 k7) k8) k9) k10
  refine wpAny_execs_nil (h lA f2 f3 f4 f5 f6 f7 _ _ h10 _ ⟨_, _, rfl⟩ (q4 _ _ n1 n2 (k4 _ _ n1 n2 (k3 _ _ n1 n2 l2))) n1 n2 (F2.kp q4) (F3.kp q5) C10 ?_)
  exact Mine.kp_trans (Mine.kp_trans (Mine.kp_trans k1 k2) (Mine.kp_trans k3 k4)) q4
end
end

section
open PySem PySem.W PySem.W.X PyProof.Rows PySem.Spec PySem.Calls
set_option Elab.async false
set_option maxRecDepth 100000
theorem Mine.k_name {M : Model} {A : Around} {E : Value → Shared → Prop} {s : Shared} {mg m : Str → Option Value} {k : Nat} {nA c fr cl : Addr} {v : Value} {Q : Value → Shared → Prop} (hb : Mine.Bd s.heap nA m k) (hm : m "__name__" = none) (hg : s.heap.Ns mainGlobals mg) (hv : mg "__name__" = some v) (h : Q v s) :
    wpAny M A (loadName (Mine.kEnv nA c fr cl) "__name__") Q E s := by
  unfold loadName
  refine wpAny_ite_false (by kernel_rfl) ?_
  refine wpAny_ite_false (by kernel_rfl) ?_
  refine wpAny_bind (m := localGet _ _) ?_
  unfold localGet
  obtain ⟨es, ep, ho, _⟩ := id hb
  refine wpAny_bind (wpAny_load ho (wpAny_ite_true rfl ?_))
  refine wpAny_nsGet (a := nA) hb.ns ?_
  rw [hm]
  dsimp only
  unfold loadGlobal
  refine wpAny_bind (wpAny_nsGet hg ?_)
  rw [hv]
  exact wpAny_pure h
theorem Mine.nf_some {es : Array DictEntry} {x : Str} {v : Value} (h : nsFind es x = some v) : ∃ e, es.find? (·.key.isStr x) = some e ∧ e.val = v := by
  unfold nsFind findBy at h
  cases q : es.find? (·.key.isStr x) with
  | none => rw [q] at h; cases h
  | some e => rw [q] at h; exact ⟨e, rfl, Option.some.inj h⟩
theorem Mine.nf_none {es : Array DictEntry} {x : Str} (h : nsFind es x = none) : es.any (·.key.isStr x) = false := by
  unfold nsFind findBy at h
  cases q : es.find? (·.key.isStr x) with
  | some e => rw [q] at h; cases h
  | none =>
    rw [Array.any_eq_false']
    rw [Array.find?_eq_none] at q
    intro e he
    simpa using q e he
theorem Mine.nf_any {es : Array DictEntry} {x : Str} {v : Value} (h : nsFind es x = some v) : es.any (·.key.isStr x) = true := by
  obtain ⟨e, h1, _⟩ := Mine.nf_some h
  rw [Array.any_eq_true']
  exact ⟨e, Array.mem_of_find?_eq_some h1, by simpa using Array.find?_some h1⟩

noncomputable def Mine.kNames : List Str := ["obj", "__doc__", "__qualname__", "__module__", "__firstlineno__", "__slots__", "__init__", "__lt__", "__gt__", "__eq__", "__le__", "__ge__", "__hash__", "__static_attributes__"]
noncomputable def Mine.kSlots (bA : Addr) (t qt : Tok) : Array (Option Value) := #[some (.ref bA), none, some (.str "K" t), some (.str Mine.kQ qt), some (.builtin "object.__new__"), some (.bool false)]
structure Mine.KCls (h : Heap) (a cl N : Addr) : Prop where
  ex : ∃ (dm bA f2 f3 nA P : Addr) (dt t qt : Tok) (mf : Str → Option Value),
    h.get? a = some (Mine.kcls N Mine.kQ [.ref a, .type "object"] (Mine.kSlots bA t qt) false ["obj"]) ∧ h.Ns N mf ∧
    mf "obj" = some (.ref dm) ∧ h.get? dm = some { cls := .type "member_descriptor", data := .fields #[.str "obj" dt, .ref a, .builtin "proto.slot", .builtin "proto.slot#set", rawInt 0] } ∧
    mf "__init__" = some (.ref f2) ∧ Mine.FnK h nA P f2 cl 2 "__init__" "cmp_to_key.<locals>.K.__init__" ∧
    mf "__lt__" = some (.ref f3) ∧ Mine.FnK h nA P f3 cl 3 "__lt__" "cmp_to_key.<locals>.K.__lt__" ∧
    ∀ nm, nm ∉ Mine.kNames → mf nm = none
end

section
open PySem PySem.W PySem.W.X PyProof.Rows PySem.Spec PySem.Calls
set_option Elab.async false
set_option maxRecDepth 100000
theorem Mine.bc_gi : typeLookup (.type "dict") "__getitem__" = pure (some (.builtin "dict.__getitem__")) := by rw [typeLookup_type, builtinLookup_eq_fast]; kernel_rfl
theorem Mine.ntm {who : String} {d : Addr} (h : d ≠ sysModules) : notTheModulesDict who d = pure () := by
  unfold notTheModulesDict
  rw [if_neg (by simpa using h)]
theorem Mine.ne_of_new {h : Heap} {a b : Addr} (x : ∃ o, h.get? a = some o) (y : h.get? b = none) : a ≠ b := by
  rintro rfl
  obtain ⟨o, e⟩ := x
  rw [e] at y; cases y
theorem Mine.get_none {h h' : Heap} (hk : ∀ b o, h.get? b = some o → h'.get? b = some o) {d : Addr} (x : h'.get? d = none) : h.get? d = none := by
  cases e : h.get? d with
  | none => rfl
  | some o => rw [hk _ _ e] at x; cases x
theorem Mine.newObjAsIs_abs {M : Model} {A : Around} {E : Value → Shared → Prop} {s : Shared} {T : String} {data : Data} {Q : Value → Shared → Prop} (hf : Obj.isFreed { cls := .type T, dict := none, data } = false)
    (h : ∀ b h', h'.get? b = some { cls := .type T, dict := none, data } → (∀ c o, s.heap.get? c = some o → h'.get? c = some o) → s.heap.get? b = none → Q (.ref b) { s with heap := h' }) : wpAny M A (newObjAsIs (.type T) data) Q E s :=
  wpAny_newObjAsIs_type (h _ _ (Heap.get?_push_size _ hf) (fun c o e => Heap.get?_push_of_some _ e) (Heap.get?_none_of_le (Nat.le_refl _)))
structure Mine.KTab (h h' : Heap) (P1 c P : Addr) (pos : Pos) (oP : Option (Addr × Addr)) : Prop where
  top : ∃ ps, h'.get? P1 = some (tabObj ps) ∧ TriplesOk ps.toList ∧ codeAmong pos ps.toList = some (.ref c)
  hd : CodeHd h' c P
  ne : P ≠ P1
  body : Mine.BTab h h' P Mine.qf
  newP : h.get? P = none ∨ oP = some (c, P)
  newC : h.get? c = none ∨ oP = some (c, P)
theorem Mine.OPre.keeps {h h' : Heap} {P1 : Addr} {ps : Array Value} {pos : Pos} {qf : Nat → Str} {oP : Option (Addr × Addr)} (x : Mine.OPre h P1 ps pos qf oP) (k : ∀ b o, h.get? b = some o → h'.get? b = some o) : Mine.OPre h' P1 ps pos qf oP := by
  cases oP with
  | none => exact x
  | some q =>
    obtain ⟨h1, h2, h3, ps', h4, h5, h6⟩ := x
    refine ⟨h1, h2.keeps k, h3, ps', k _ _ h4, h5, fun pos v e => ?_⟩
    obtain ⟨q1, ⟨c, o, vs, t, e1, e2, e3⟩, q3⟩ := h6 pos v e
    exact ⟨q1, ⟨c, o, vs, t, e1, k _ _ e2, e3⟩, fun c e => .inr ⟨ps', pos, k _ _ h4, ‹_›⟩⟩
set_option maxHeartbeats 1600000 in
theorem Mine.bc (oP : Option (Addr × Addr)) (prog : Program) (w : World) (A : Around) (s : Shared) (env : Env) (ln c1 P1 cl : Addr) (pos : Pos) (ps : Array Value) (mg ms : Str → Option Value) (nm : Str) (nt : Tok) (E Q : Value → Shared → Prop)
   (hA : A.handled = none) (hA2 : A.depth + 7 ≤ 800) (hA3 : A.units + 20 ≤ 5000) (hg : s.gens = #[])
   (hmg : s.heap.Ns mainGlobals mg) (hbm : ∃ bm o, mg "__builtins__" = some (.ref bm) ∧ bm ≠ builtinsNs ∧ bm ≠ mainGlobals ∧ s.heap.get? bm = some o ∧ o.cls = .type "module" ∧ o.dict = some builtinsNs ∧ o.data = .plain)
   (hnm : mg "__name__" = some (.str nm nt)) (hst : s.heap.Ns cStatics ms) (htp : ms "thirdparty.any" = none) (hrl : ms "sys.recursionlimit" = none) (hsys : ∃ o, s.heap.get? sysModules = some o)
   (hcode : env.code = .ref c1) (hC1 : CodeHd s.heap c1 P1) (hP1 : s.heap.get? P1 = some (tabObj ps)) (hps : TriplesOk ps.toList) (hnf : Mine.OPre s.heap P1 ps pos Mine.qf oP)
   (hgl : env.globals = mainGlobals) (hcl : closureFor Mine.kSc env = pure [(("mycmp" : Str), cl)])
   (hQ : ∀ a N c P h' tk, Mine.KCls h' a cl N → s.heap.get? a = none → s.heap.get? N = none → (∀ b o, b ≠ P1 → b ≠ P → s.heap.get? b = some o → h'.get? b = some o) → Mine.KTab s.heap h' P1 c P pos oP → Q (.ref a) ⟨h', #[], s.drawn, tk, s.os⟩) :
   wpAny (model prog w) A (buildClass "K" Mine.kQ [.type "object"] [] Mine.kBody Mine.kSc ["obj"] ln env pos none) Q E s := by
  unfold buildClass
  refine wpAny_bind (m := newTuple _) (Mine.newObj_abs (by size_fits) rfl fun bA H1 hb kH1 nb => ?_)
  refine wpAny_bind (m := forIn _ _ _) (Mine.forIn_one (x := Value.type "object") (wpAny_bind (wpAny_of_eq Mine.it1 (wpAny_ite_true rfl (wpAny_ite_false rfl (wpAny_pure ?_))))))
  refine wpAny_bind (m := typeOf _) (wpAny_of_eq (a := Value.type "type") (by kernel_rfl) ?_)
  refine wpAny_bind (wpAny_of_eq (a := true) (by kernel_rfl) (wpAny_ite_true rfl ?_))
  refine wpAny_bind (m := forIn _ _ _) (Mine.forIn_one (x := Value.type "object") (wpAny_bind (wpAny_of_eq Mine.to1 (wpAny_bind (wpAny_of_eq Mine.st3 (wpAny_ite_true rfl (wpAny_pure ?_)))))))
  refine wpAny_bind (wpAny_mkText ?_)
  refine wpAny_ite_false rfl (wpAny_bind (wpAny_pure (wpAny_holding ?_)))
  refine wpAny_bind (Mine.prep_attr (s := ⟨H1, s.gens, s.drawn, s.toks + 1, s.os⟩) hA (by lia) (by lia) hg fun mo H2 tk2 k2 m2 => ?_)
  refine wpAny_bind (Mine.wp_room hA (by lia) (by lia) (Mine.prepC prog w ⟨H2, #[], s.drawn, tk2, s.os⟩ rfl mo bA _ _ _ _ (k2 _ _ hb) m2 fun d H3 tk3 k3 hd nd => ?_))
  have K3 : ∀ b o, s.heap.get? b = some o → H3.get? b = some o := fun b o e => k3 _ _ (k2 _ _ (kH1 _ _ e))
  have nd0 : s.heap.get? d = none := Mine.get_none (fun b o e => k2 _ _ (kH1 _ _ e)) nd
  have dsys : d ≠ sysModules := (Mine.ne_of_new hsys nd0).symm
  have bAd : bA ≠ d := Mine.ne_of_new ⟨_, k2 _ _ hb⟩ nd
  refine wpAny_bind (m := notTheModulesDict _ _) (wpAny_of_eq (Mine.ntm dsys) ?_)
  refine wpAny_bind (wpAny_specialOf (T := "dict") ⟨_, hd, rfl⟩ Mine.bc_gi (wpAny_ite_false rfl (wpAny_holding ?_)))
  refine wpAny_ite_false (by kernel_rfl) (wpAny_bind (wpAny_pure (wpAny_ite_false (by kernel_rfl) (wpAny_bind (wpAny_pure ?_)))))
  refine wpAny_bind (Mine.cc_any (s := ⟨H3, #[], s.drawn, tk3, s.os⟩) hcode (hC1.keeps K3) (K3 _ _ hP1) hps (hnf.keeps K3) fun c P H4 tk4 ps4 x4 hd4c hB4 nP4 nc4 hP14 ht14 hf14 neP => ?_)
  refine Classical.byContradiction fun hG => ?_
  obtain ⟨psB, hP4, htB, hvB⟩ := hB4
  refine hG ?_
  clear hG
  have nP0 : s.heap.get? P = none ∨ oP = some (c, P) := nP4.imp (Mine.get_none K3) id
  have nc0 : s.heap.get? c = none ∨ oP = some (c, P) := nc4.imp (Mine.get_none K3) id
  have nw : ∀ v, Mine.NewC H3 P v → Mine.NewC s.heap P v := fun v q c' e => by
    rcases q c' e with q | ⟨ps0, pos0, q1, q2⟩
    · exact .inl (Mine.get_none K3 q)
    · rcases nP4 with n | n
      · rw [q1] at n; cases n
      · subst n
        obtain ⟨_, _, _, ps', z, _⟩ := hnf
        have := K3 _ _ z
        rw [q1] at this; cases this
        exact .inr ⟨_, pos0, z, q2⟩
  have x4' : ∀ b o, b ≠ P1 → s.heap.get? b = some o → H4.get? b = some o := fun b o n e => x4 b o n (K3 _ _ e)
  have nd1 : d ≠ P1 := (Mine.ne_of_new ⟨_, hP1⟩ nd0).symm
  have nbA1 : bA ≠ P1 := (Mine.ne_of_new ⟨_, hP1⟩ nb).symm
  have mgP : mainGlobals ≠ P1 := by
    rintro rfl
    obtain ⟨o, es, ep, e, q, _⟩ := hmg
    rw [hP1] at e; cases e; cases q
  have csP : cStatics ≠ P1 := by
    rintro rfl
    obtain ⟨o, es, ep, e, q, _⟩ := hst
    rw [hP1] at e; cases e; cases q
  have hmg4 : H4.Ns mainGlobals mg := by
    obtain ⟨o, es, ep, e, r⟩ := hmg
    exact ⟨o, es, ep, x4' _ _ mgP e, r⟩
  refine Classical.byContradiction fun hG => ?_
  obtain ⟨bm, ob, b1, b2, b3, b4, b5, b6, b7⟩ := hbm
  refine hG ?_
  clear hG
  have bmP : bm ≠ P1 := by
    rintro rfl
    rw [hP1] at b4; cases b4; cases b5
  have hd4 : H4.get? d = some ⟨.type "dict", none, .dict #[] 0, #[]⟩ := x4 _ _ nd1 hd
  rw [hgl]
  refine wpAny_bind (wpAny_builtinsFor hmg4 b1 b2 (x4' _ _ bmP b4) b5 b6 b7 ?_)
  refine wpAny_bind (m := newBodyFrame _ _ _ _) ?_
  unfold newBodyFrame
  refine wpAny_bind (wpAny_nsGet hmg4 ?_)
  refine Mine.alloc_abs rfl fun fr H5 hfr k5 nfr => ?_
  refine wpAny_bind (wpAny_of_eq hcl (wpAny_holding ?_))
  refine wpAny_bind (wpAny_enterFrame ?_ (by show A.depth < 1000; lia) ?_)
  · refine ⟨ms, ?_, hrl⟩
    obtain ⟨o, es, ep, e, r⟩ := hst
    exact ⟨o, es, ep, k5 _ _ (x4' _ _ csP e), r⟩
  refine wpAny_bind (wpAny_onRaise ?_)
  have ndP : d ≠ P := by
    rintro rfl
    have hP4' : H4.get? d = some (tabObj psB) := hP4
    rw [hP4'] at hd4; cases hd4
  have C0 : Mine.CB0 mg H5 d P c := by
    refine ⟨hmg4.keeps k5, ⟨bm, ob, b1, b2, b3, k5 _ _ (x4' _ _ bmP b4), b5, b6, b7⟩, hd4c.keeps k5, ?_, ?_, ?_, ndP, ⟨_, k5 _ _ hd4, rfl⟩, ⟨_, k5 _ _ hP4, rfl⟩⟩
    · obtain ⟨o, es, ep, e, _⟩ := hmg
      exact Mine.ne_of_new ⟨_, e⟩ nd0
    · obtain ⟨o, es, ep, e, q, _⟩ := hmg4
      rintro rfl
      rw [hP4] at e; cases e; cases q
    · rintro rfl
      obtain ⟨o, vs, _, _, _, _, _, _, _, e, q, _⟩ := hd4c
      rw [hd4] at e; cases e; simp at q
  have C5 : Mine.CB H5 d P Mine.qf (fun _ => none) 0 H5 := ⟨fun _ _ _ _ e => e, ⟨#[], 0, k5 _ _ hd4, fun e he => (by simp at he), fun _ => rfl, Nat.le_refl _, fun e he => (by simp at he)⟩, psB, k5 _ _ hP4, htB, fun pos v e => by
    obtain ⟨⟨c', e1, e2⟩, e3, e4⟩ := hvB pos v e
    refine ⟨⟨⟨c', e1, ?_, e2⟩, ?_⟩, fun c2 e5 => .inr ⟨psB, pos, k5 _ _ hP4, e⟩⟩
    · rintro rfl
      obtain ⟨c2, o, vs, t, q1, q2, q3, _⟩ := e3
      rw [e1] at q1; cases q1
      rw [hd4] at q2; cases q2; cases q3
    · obtain ⟨c2, o, vs, t, q1, q2, q3⟩ := e3
      exact ⟨c2, o, vs, t, q1, k5 _ _ q2, q3⟩⟩
  refine wpAny_bind (Mine.k_name (c := c) (fr := fr) (cl := cl) C5.bd rfl (hmg4.keeps k5) hnm ?_)
  refine wpAny_bind (Mine.cs_store (s := ⟨H5, #[], s.drawn, tk4, s.os⟩) rfl rfl (.inl rfl) C5 C0 (.inl ⟨_, _, rfl⟩) fun H6 C6 k6 => ?_)
  refine wpAny_bind (wpAny_mkText ?_)
  refine wpAny_bind (Mine.cs_store (s := ⟨H6, #[], s.drawn, tk4 + 1 + 1, s.os⟩) rfl rfl (.inr ⟨rfl, by kernel_rfl⟩) C6 C0 (.inl ⟨_, _, rfl⟩) fun H7 C7 k7 => ?_)
  refine wpAny_bind (wpAny_mkInt ?_)
  refine wpAny_bind (Mine.cs_store (s := ⟨H7, #[], s.drawn, tk4 + 1 + 1 + 1 + 1, s.os⟩) rfl rfl (.inr ⟨rfl, by kernel_rfl⟩) C7 C0 (.inr (.inl ⟨_, _, rfl⟩)) fun H8 C8 k8 => ?_)
  refine wpAny_pure ?_
  refine wpAny_bind (wpAny_run (codeAny_body (by rfl) (by rfl) (Mine.kbody (s := ⟨H8, #[], s.drawn, _, s.os⟩) C0 C8 fun lA f2 f3 f4 f5 f6 f7 md ot H9 tk9 hmd hlA lA1 lA2 F2 F3 C9 k9 => ?_)))
  refine wpAny_bind (wpAny_onRaise ?_)
  refine wpAny_bind (m := List.mapM _ _) (wpAny_mkStrs fun vs => ?_)
  refine wpAny_bind (m := newTextTuple _) ?_
  refine Mine.newObjAsIs_abs rfl fun sA H10 hsA k10 nsA => ?_
  have kp10 : Mine.Kp d P H9 H10 := fun b o _ _ e => k10 b o e
  have C10 : Mine.CB H5 d P Mine.qf _ _ H10 := ⟨fun b o n1 n2 e => k10 _ _ (C9.keep b o n1 n2 e), C9.bd.keeps k10, by
    obtain ⟨p0, q1, q2, q3⟩ := C9.tab
    exact ⟨p0, k10 _ _ q1, q2, fun pos v e => ⟨(q3 pos v e).1.kp kp10, (q3 pos v e).2⟩⟩⟩
  refine wpAny_bind (Mine.cs_store (s := ⟨H10, #[], s.drawn, _, s.os⟩) rfl rfl (.inr ⟨rfl, by kernel_rfl⟩) C10 C0 (.inr (.inr (.inr ⟨sA, _, "tuple", rfl, hsA, rfl, Mine.sn7⟩))) fun H11 C11 k11 => ?_)
  refine wpAny_pure (wpAny_ite_false rfl ?_)
  refine wpAny_bind ?_
  refine Classical.byContradiction fun hG => ?_
  obtain ⟨es, ep, hes1, hes2, hes3, hes4, hes5⟩ := C11.bd
  refine hG ?_
  clear hG
  have klA : H11.get? lA = some (seqObj "list" [Value.str "obj" ot].toArray 0) := k11 _ _ lA1 lA2 (k10 _ _ hlA)
  have kk : Mine.Kp d P H5 H11 := Mine.kp_trans (Mine.kp_trans (Mine.kp_trans k6 k7) (Mine.kp_trans k8 k9)) (Mine.kp_trans kp10 k11)
  have bAP : bA ≠ P := by
    rintro rfl
    have hP4' : H4.get? bA = some (tabObj psB) := hP4
    rw [x4 _ _ nbA1 (k3 _ _ (k2 _ _ hb))] at hP4'; cases hP4'
  have hbA : H11.get? bA = some ⟨.type "tuple", none, .seq #[.type "object"] 0, #[]⟩ := kk _ _ bAd bAP (k5 _ _ (x4 _ _ nbA1 (k3 _ _ (k2 _ _ hb))))
  have ndd : ∀ b o, s.heap.get? b = some o → b ≠ d := fun b o e => Mine.ne_of_new ⟨_, e⟩ nd0
  have kall : ∀ b o, b ≠ P1 → b ≠ P → s.heap.get? b = some o → H11.get? b = some o := fun b o n n2 e => kk _ _ (ndd _ _ e) n2 (k5 _ _ (x4' _ _ n e))
  have csP' : cStatics ≠ P := by
    rintro rfl
    obtain ⟨o, es, ep, e, q, _⟩ := hst
    have hP4' : H4.get? cStatics = some (tabObj psB) := hP4
    rw [x4' _ _ csP e] at hP4'; cases hP4'; cases q
  refine Classical.byContradiction fun hG => ?_
  obtain ⟨psE, hP11, htE, hvE⟩ := C11.tab
  obtain ⟨e, he1, he2⟩ := Mine.nf_some (x := "__slots__") ((hes3 _).trans (show _ = some (.ref lA) by rfl))
  refine hG ?_
  clear hG
  have hst11 : H11.Ns cStatics ms := by
    obtain ⟨o, es, ep, e, r⟩ := hst
    exact ⟨o, es, ep, kall _ _ csP csP' e, r⟩
  have fr : ∀ x, H11.get? x = none → s.heap.get? x = none := fun x m5 => by
    cases e : s.heap.get? x with
    | none => rfl
    | some o =>
      by_cases q : x = P1
      · subst q
        have := kk _ _ nd1.symm neP.symm (k5 _ _ hP14)
        rw [this] at m5; cases m5
      · by_cases q2 : x = P
        · subst q2; rw [hP11] at m5; cases m5
        · rw [kall _ _ q q2 e] at m5; cases m5
  refine Mine.mkK prog w A ⟨H11, #[], s.drawn, _, s.os⟩ bA d lA _ ot _ (.ref f5) .none es e ep 0 0 E _ ms hbA hes1 (by simpa using dsys) klA he1 he2 (Mine.nf_none ((hes3 _).trans (by rfl))) _ hes2 hes3 (by rfl) (by rfl) (by rfl) (by rfl) (by rfl) (by rfl) (by rfl) (Mine.nf_none ((hes3 _).trans (by rfl))) (by rfl) (by rfl) (by rfl) hes5 (by lia) (Mine.nf_any ((hes3 _).trans (by rfl)))
    hA (by lia) (by lia) rfl hst11 htp fun a N dm dt mf h' tk m1 m2 m3 m4 m5 m5' m6 m7 => ?_
  refine wpAny_pure (hQ a N c P h' _ ⟨⟨dm, bA, f2, f3, d, P, dt, _, _, mf, m7, m1, m2, m4, ?_, ?_, ?_, ?_, ?_⟩⟩ (fr a m5) (fr N m5') ?_ ⟨⟨ps4, m6 _ _ (kk _ _ nd1.symm neP.symm (k5 _ _ hP14)), ht14, hf14⟩, ?_, neP, ⟨psE, m6 _ _ hP11, htE, fun pos v e => ?_⟩, nP0, nc0⟩)
  · exact (m3 _ (by decide +kernel) (by decide +kernel) (by decide +kernel)).trans (by rfl)
  · exact (F2.kp (Mine.kp_trans kp10 k11)).kp fun b o _ _ e => m6 b o e
  · exact (m3 _ (by decide +kernel) (by decide +kernel) (by decide +kernel)).trans (by rfl)
  · exact (F3.kp (Mine.kp_trans kp10 k11)).kp fun b o _ _ e => m6 b o e
  · intro nm hn
    have hx : ∀ x ∈ Mine.kNames, nm ≠ x := fun x hx e => hn (e ▸ hx)
    refine (m3 nm (hx _ (by decide +kernel)) (hx _ (by decide +kernel)) (hx _ (by decide +kernel))).trans ?_
    unfold Mine.kMap
    have hu : ∀ (m : Str → Option Value) (x : Str) (v : Value), x ∈ Mine.kNames → m nm = none → Mine.up m x v nm = none := fun m x v q r => by
      unfold Mine.up; rw [if_neg (hx x q)]; exact r
    refine hu _ _ _ (by decide +kernel) (hu _ _ _ (by decide +kernel) (hu _ _ _ (by decide +kernel) (hu _ _ _ (by decide +kernel) (hu _ _ _ (by decide +kernel) (hu _ _ _ (by decide +kernel) (hu _ _ _ (by decide +kernel) (hu _ _ _ (by decide +kernel) (hu _ _ _ (by decide +kernel) (hu _ _ _ (by decide +kernel) ?_)))))))))
    exact hu _ _ _ (by decide +kernel) (hu _ _ _ (by decide +kernel) (hu _ _ _ (by decide +kernel) rfl))
  · exact fun b o n n2 e => m6 _ _ (kall b o n n2 e)
  · obtain ⟨o, vs, file, tf, flags, tg, inF, text, tt, q1, q2, q3, q4, q5, q6, q7, q8, q9, q10⟩ := hd4c
    refine ⟨o, vs, file, tf, flags, tg, inF, text, tt, m6 _ _ (kk _ _ ?_ q10 (k5 _ _ q1)), q2, q3, q4, q5, q6, q7, q8, q9, q10⟩
    rintro rfl
    rw [hd4] at q1; cases q1; cases q3
  · obtain ⟨⟨⟨c', e1, e2, e3⟩, e4⟩, e5⟩ := hvE pos v e
    refine ⟨⟨c', e1, e3⟩, ?_, fun c2 e6 => ?_⟩
    · obtain ⟨c2, o, vs, t, q1, q2, q3⟩ := e4
      exact ⟨c2, o, vs, t, q1, m6 _ _ q2, q3⟩
    · rcases e5 c2 e6 with q | ⟨ps0, pos0, q1, q2⟩
      · left
        cases z : s.heap.get? c2 with
        | none => rfl
        | some o =>
          by_cases n1 : c2 = P1
          · subst n1; rw [k5 _ _ hP14] at q; cases q
          · rw [k5 _ _ (x4' _ _ n1 z)] at q; cases q
      · have := k5 _ _ hP4
        rw [q1] at this; cases this
        exact nw v (hvB pos0 v q2).2.2 c2 e6
end

section
open PySem PySem.W PySem.W.X PyProof.Rows PySem.Spec PySem.Calls
set_option Elab.async false
set_option maxRecDepth 100000
structure Mine.KPre (h : Heap) (mg mb ms : Str → Option Value) (fa c1 P1 : Addr) (doc pm cdv ct : Value) (an : Option Addr) : Prop where
  nsg : h.Ns mainGlobals mg
  bm : ∃ bm o, mg "__builtins__" = some (.ref bm) ∧ bm ≠ builtinsNs ∧ bm ≠ mainGlobals ∧ h.get? bm = some o ∧ o.cls = .type "module" ∧ o.dict = some builtinsNs ∧ o.data = .plain
  nm : ∃ nm nt, mg "__name__" = some (.str nm nt)
  ob : mg "object" = none
  nsb : h.Ns builtinsNs mb
  ob2 : mb "object" = some (.type "object")
  bc : mb "__build_class__" = some (.builtin "__build_class__")
  st : h.Ns cStatics ms
  tp : ms "thirdparty.any" = none
  rl : ms "sys.recursionlimit" = none
  sys : ∃ o, h.get? sysModules = some o
  hd : CodeHd h c1 P1
  cq : h.CodeRec (.ref c1) "cmp_to_key"
  fn : ∃ o, h.get? fa = some o ∧ o.data = .func (Mine.fdN 1 "cmp_to_key" "cmp_to_key" .none .none doc pm an (.ref c1) ct)
theorem Mine.KPre.keeps {h h' : Heap} {mg mb ms : Str → Option Value} {fa c1 P1 : Addr} {doc pm cdv ct : Value} {an : Option Addr} (H : Mine.KPre h mg mb ms fa c1 P1 doc pm cdv ct an) (k : ∀ b o, h.get? b = some o → h'.get? b = some o) : Mine.KPre h' mg mb ms fa c1 P1 doc pm cdv ct an := by
  obtain ⟨bm, o, b1, b2, b3, b4, b5⟩ := H.bm
  obtain ⟨of, f1, f2⟩ := H.fn
  obtain ⟨os, q⟩ := H.sys
  exact ⟨H.nsg.keeps k, ⟨bm, o, b1, b2, b3, k _ _ b4, b5⟩, H.nm, H.ob, H.nsb.keeps k, H.ob2, H.bc, H.st.keeps k, H.tp, H.rl, ⟨os, k _ _ q⟩, H.hd.keeps k, H.cq.keeps k, ⟨of, k _ _ f1, f2⟩⟩
theorem Mine.evalArgs_false {M : Model} {A : Around} {E : Value → Shared → Prop} {s : Shared} {f : Value} {x : Sem Value} {rest : List (Bool × Sem Value)} {Q : Args → Shared → Prop}
    (h : wpAny M A (spliced ((false, x) :: rest)) (fun vs s' => Q ⟨vs, []⟩ s') E s) : wpAny M A (evalArgs f false ((false, x) :: rest) []) Q E s := by
  unfold evalArgs
  show wpAny M A (spliced ((false, x) :: rest) >>= _) Q E s
  refine wpAny_bind (wpAny_mono h (fun vs s' h' => ?_) fun _ _ x => x)
  exact wpAny_holding (wpAny_bind (wpAny_pure (wpAny_bind (wpAny_pure (wpAny_pure h')))))
theorem Mine.pa_bind (name qual : Str) (doc pm cdv ct v : Value) (an : Option Addr) : bindArgs (Mine.fdN 1 name qual .none .none doc pm an cdv ct) ⟨[v], []⟩ = pure [(("mycmp" : Str), v)] := by rfl
theorem Mine.KCls.same {h h' : Heap} {a cl N L : Addr} (x : Mine.KCls h a cl N) (hs : Heap.SameBut L h h') (hL : ∃ o es ep, h.get? L = some o ∧ o.data = .dict es ep) (hN : N ≠ L) : Mine.KCls h' a cl N := by
  obtain ⟨oL, esL, epL, hL1, hL2⟩ := hL
  have kp : ∀ b o, h.get? b = some o → (∀ es ep, o.data ≠ .dict es ep) → h'.get? b = some o := fun b o e n => (hs.2 b (by rintro rfl; rw [hL1] at e; cases e; exact n _ _ hL2)).trans e
  have kf : ∀ {f n nm q nA P}, Mine.FnK h nA P f cl n nm q → Mine.FnK h' nA P f cl n nm q := by
    rintro f n nm q nA P ⟨n1, n2, doc, pm, cv, ctv, ⟨e1, c, o, vs, t, e3, e4, e5, e6⟩, e7⟩
    exact ⟨n1, n2, doc, pm, cv, ctv, ⟨e1, c, o, vs, t, e3, kp _ _ e4 (fun es ep q => by rw [e5] at q; cases q), e5, e6⟩, kp _ _ e7 (fun es ep q => by cases q)⟩
  obtain ⟨dm, bA, f2, f3, nA, P, dt, t, qt, mf, x1, x2, x3, x4, x5, x6, x7, x8, x9⟩ := x.ex
  exact ⟨dm, bA, f2, f3, nA, P, dt, t, qt, mf, kp _ _ x1 (fun es ep q => by cases q), x2.sameBut hs hN, x3, kp _ _ x4 (fun es ep q => by cases q), x5, kf x6, x7, kf x8, x9⟩
theorem Mine.KTab.mono {h h' h'' : Heap} {P1 c P : Addr} {pos : Pos} {oP : Option (Addr × Addr)} (x : Mine.KTab h h' P1 c P pos oP) (k : ∀ b o, h'.get? b = some o → (∀ es ep, o.data ≠ .dict es ep) → h''.get? b = some o) : Mine.KTab h h'' P1 c P pos oP := by
  obtain ⟨⟨ps, a1, a2, a3⟩, ⟨o, vs, file, tf, flags, tg, inF, text, tt, q1, q2, q3, q4⟩, a4, ⟨psE, b1, b2, b3⟩, a5, a6⟩ := x
  refine ⟨⟨ps, k _ _ a1 (fun es ep q => by cases q), a2, a3⟩, ⟨o, vs, file, tf, flags, tg, inF, text, tt, k _ _ q1 (fun es ep q => by rw [q3] at q; cases q), q2, q3, q4⟩, a4, ⟨psE, k _ _ b1 (fun es ep q => by cases q), b2, fun pos v e => ?_⟩, a5, a6⟩
  obtain ⟨r1, ⟨c2, o2, vs2, t2, z1, z2, z3, z4⟩, r3⟩ := b3 pos v e
  exact ⟨r1, ⟨c2, o2, vs2, t2, z1, k _ _ z2 (fun es ep q => by rw [z3] at q; cases q), z3, z4⟩, r3⟩
theorem Mine.KTab.same {h h' h'' : Heap} {P1 c P L : Addr} {pos : Pos} {oP : Option (Addr × Addr)} (x : Mine.KTab h h' P1 c P pos oP) (hs : Heap.SameBut L h' h'') (_h1 : P1 ≠ L) (_h2 : P ≠ L) (hL : ∃ o es ep, h'.get? L = some o ∧ o.data = .dict es ep) : Mine.KTab h h'' P1 c P pos oP := by
  obtain ⟨oL, esL, epL, hL1, hL2⟩ := hL
  exact x.mono fun b o e n => (hs.2 b (by rintro rfl; rw [hL1] at e; cases e; exact n _ _ hL2)).trans e
theorem Mine.KTab.down {h h1 h' : Heap} {P1 c P : Addr} {ps : Array Value} {pos : Pos} {oP : Option (Addr × Addr)} (x : Mine.KTab h1 h' P1 c P pos oP) (hnf : Mine.OPre h P1 ps pos Mine.qf oP) (k : ∀ b o, h.get? b = some o → h1.get? b = some o) : Mine.KTab h h' P1 c P pos oP := by
  obtain ⟨psE, b1, b2, b3⟩ := x.body
  refine ⟨x.top, x.hd, x.ne, ⟨psE, b1, b2, fun pos v e => ?_⟩, x.newP.imp (Mine.get_none k) id, x.newC.imp (Mine.get_none k) id⟩
  obtain ⟨r1, r2, r3⟩ := b3 pos v e
  refine ⟨r1, r2, fun c' e => ?_⟩
  rcases r3 c' e with q | ⟨ps0, pos0, q1, q2⟩
  · exact .inl (Mine.get_none k q)
  · rcases x.newP with n | n
    · rw [q1] at n; cases n
    · subst n
      obtain ⟨_, _, _, ps', z, _⟩ := hnf
      have := k _ _ z
      rw [q1] at this; cases this
      exact .inr ⟨_, pos0, z, q2⟩
noncomputable def Mine.kStmt : Stmt := ((Mine.bo 1)[0]?).getD (.Pass ⟨0, 0, 0, 0⟩)
theorem Mine.kdef (oP : Option (Addr × Addr)) (prog : Program) (w : World) (A : Around) (s : Shared) (e : Env) (fa c1 P1 cl : Addr) (ps : Array Value) (mg mb ms mL : Str → Option Value) (doc pm cdv ct : Value) (an : Option Addr) (E : Value → Shared → Prop) (Q : Flow → Shared → Prop)
   (hA : A.handled = none) (hA2 : A.depth + 7 ≤ 800) (hA3 : A.units + 20 ≤ 5000) (hg : s.gens = #[]) (H : Mine.KPre s.heap mg mb ms fa c1 P1 doc pm cdv ct an)
   (hP1 : s.heap.get? P1 = some (tabObj ps)) (hps : TriplesOk ps.toList) (hnf : Mine.OPre s.heap P1 ps Mine.kPos Mine.qf oP)
   (e1 : e.scope = Mine.sc 1) (e2 : e.globals = mainGlobals) (e3 : e.builtins = builtinsNs) (e4 : e.code = .ref c1) (e5 : s.heap.Ns e.locals mL) (e6 : closureFor Mine.kSc e = pure [(("mycmp" : Str), cl)]) (e7 : qualnameIn e "K" "K" = Mine.kQ)
   (hQ : ∀ a N c P h' tk, Mine.KCls h' a cl N → s.heap.get? a = none → (∀ b o, b ≠ P1 → b ≠ P → b ≠ e.locals → s.heap.get? b = some o → h'.get? b = some o) → h'.Ns e.locals (fun x => if x = "K" then some (.ref a) else mL x) → Mine.KTab s.heap h' P1 c P Mine.kPos oP → Q .next ⟨h', #[], s.drawn, tk, s.os⟩) :
   wpAny (model prog w) A (exec Mine.kStmt e) Q E s := by
  show wpAny _ _ (exec (.ClassDef "K" [.Name "object" _] [] Mine.kBody [] [] Mine.kSc none "K" ["obj"] Mine.kPos) e) _ _ _
  rw [arm_exec_ClassDef, e7]
  refine wpAny_bind (evalAll_nil (wpAny_bind (wpAny_standAt (wpAny_bind ?_))))
  unfold buildClassGuard
  rw [e3]
  refine wpAny_bind (wpAny_nsGet H.nsb ?_)
  rw [H.bc]
  refine wpAny_pure ?_
  refine wpAny_bind (wpAny_holding (wpAny_bind (Mine.evalArgs_false (Calls.spliced_cons (Calls.Name_function_global (by rw [e1]; rfl) (by unfold Env.kindOf; rw [e1]; rfl) (Calls.loadGlobal_builtin (mg := mg) (mb := mb) (by rw [e2]; exact H.nsg) H.ob (by rw [e3]; exact H.nsb) H.ob2 (Calls.spliced_nil ?_)) rfl)))))
  obtain ⟨nm, nt, hnm⟩ := H.nm
  refine wpAny_bind (wpAny_standAt (wpAny_holding ?_))
  refine Mine.bc oP prog w A s e _ c1 P1 cl Mine.kPos ps mg ms nm nt E _ hA hA2 hA3 hg H.nsg H.bm hnm H.st H.tp H.rl H.sys e4 H.hd hP1 hps hnf e2 e6 fun a N c P h' tk k1 k2 k3 k4 k5 => ?_
  refine wpAny_bind (wpAny_pure (wpAny_bind (wpAny_standAt (wpAny_bind (wpAny_bindName ?_)))))
  have hLP : e.locals ≠ P1 := by
    intro q
    obtain ⟨o, es, ep, e, d, _⟩ := e5
    rw [q, hP1] at e; cases e; cases d
  obtain ⟨psE, hPE, htE, hvE⟩ := k5.body
  have hLP2 : e.locals ≠ P := by
    intro q
    obtain ⟨o, es, ep, e0, d, _⟩ := e5
    rw [q] at e0
    rcases k5.newP with n | n
    · rw [n] at e0; cases e0
    · subst n
      obtain ⟨_, _, _, ps', z, _⟩ := hnf
      rw [show s.heap.get? P = _ from z] at e0; cases e0; cases d
  have nsL : h'.Ns e.locals mL := by
    obtain ⟨o, es, ep, e0, r⟩ := e5
    exact ⟨o, es, ep, k4 _ _ hLP hLP2 e0, r⟩
  refine wpAny_storeName_local (s := ⟨h', #[], s.drawn, tk, s.os⟩) (by unfold Env.kindOf; rw [e1]; rfl) nsL (fun h2 n2 s2 => wpAny_pure ?_) (by rw [e1]; rfl)
  have hN : N ≠ e.locals := by
    rintro rfl
    obtain ⟨o, es, ep, e, d, _⟩ := e5
    rw [k3] at e; cases e
  refine hQ a N c P h2 _ (k1.same s2 ?_ hN) k2 (fun b o n1 n3 n2 e => (s2.2 b n2).trans (k4 b o n1 n3 e)) n2 (k5.same s2 hLP.symm hLP2.symm (by obtain ⟨o, es, ep, e, d, _⟩ := nsL; exact ⟨o, es, ep, e, d⟩))
  obtain ⟨o, es, ep, e, d, _⟩ := nsL
  exact ⟨o, es, ep, e, d⟩
set_option maxHeartbeats 1600000 in
theorem Mine.cmpk (oP : Option (Addr × Addr)) (prog : Program) (w : World) (A : Around) (s : Shared) (fa c1 P1 g : Addr) (ps : Array Value) (mg mb ms : Str → Option Value) (doc pm cdv ct : Value) (an : Option Addr) (E Q : Value → Shared → Prop)
   (hA : A.handled = none) (hA2 : A.depth + 10 ≤ 800) (hA3 : A.units + 40 ≤ 5000) (hg : s.gens = #[]) (H : Mine.KPre s.heap mg mb ms fa c1 P1 doc pm cdv ct an)
   (hP1 : s.heap.get? P1 = some (tabObj ps)) (hps : TriplesOk ps.toList) (hnf : Mine.OPre s.heap P1 ps Mine.kPos Mine.qf oP)
   (hQ : ∀ a N cl c P h' tk, Mine.KCls h' a cl N → h'.IsCell cl (some (.ref g)) → s.heap.get? a = none → s.heap.get? cl = none → (∀ b o, b ≠ P1 → b ≠ P → s.heap.get? b = some o → h'.get? b = some o) → Mine.KTab s.heap h' P1 c P Mine.kPos oP → Q (.ref a) ⟨h', #[], s.drawn, tk, s.os⟩) :
   wpAny (model prog w) A (call (.ref fa) [.ref g]) Q E s := by
  obtain ⟨of, hf1, hf2⟩ := H.fn
  refine wpAny_call (codeAny_call_cells (body := Mine.bo 1) (binds := [("mycmp", .ref g)]) (by show A.depth < 1000; lia) hf1 hf2 ⟨ms, H.st, H.rl⟩ H.cq rfl (Mine.pa_bind _ _ _ _ _ _ _ _) rfl (fun x hx => ?_) (fun s1 hin => ?_) rfl rfl rfl)
  · obtain rfl : x = (("mycmp" : Str), Value.ref g) := by simpa using hx
    exact .inr ⟨rfl, rfl⟩
  · obtain ⟨h1, tk1, rfl, k1⟩ := hin.done
    have ns0 := hin.toInCall.ns
    have hcell : h1.IsCell (s.heap.objs.size + 1) (some (.ref g)) := hin.cell "mycmp" (s.heap.objs.size + 1) rfl
    generalize hl : s.heap.objs.size = L at *
    have hns : s.heap.get? L = none := Heap.get?_none_of_le (Nat.le_of_eq hl)
    have hns1 : s.heap.get? (L + 1) = none := Heap.get?_none_of_le (by lia)
    refine wpAny_execs_cons (Mine.kdef oP prog w _ ⟨h1, s.gens, s.drawn, tk1, s.os⟩ _ fa c1 P1 (L + 1) ps mg mb ms _ doc pm cdv ct an _ _ hA ?_ ?_ hg (H.keeps k1) (k1 _ _ hP1) hps (hnf.keeps k1) rfl rfl rfl rfl ns0 rfl rfl fun a N c P h' tk m1 m2 m3 m4 m5 => ?_)
    · show A.depth + 1 + 7 ≤ 800; lia
    · show A.units + 3 + 20 ≤ 5000; lia
    have hP1L : ∀ b o, s.heap.get? b = some o → b ≠ L := fun b o e q => by rw [q, hns] at e; cases e
    refine wpAny_execs_cons (wpAny_Return_some (wpAny_Name (wpAny_loadName_local rfl rfl m4 (if_pos rfl) ?_) rfl))
    obtain ⟨oc, c1', c2'⟩ := hcell
    have np : L + 1 ≠ P1 := fun q => by rw [q, hP1] at hns1; cases hns1
    have np2 : L + 1 ≠ P := fun q => by
      rcases m5.newP with n | n
      · rw [← q, c1'] at n; cases n
      · subst n
        obtain ⟨_, _, _, ps', z, _⟩ := hnf
        rw [q, show s.heap.get? P = _ from z] at hns1
        cases hns1
    refine hQ a N (L + 1) c P h' _ m1 ⟨oc, m3 _ _ np np2 (by show L + 1 ≠ L; lia) c1', c2'⟩ (Mine.get_none k1 m2) hns1 (fun b o n n2 e => m3 b o n n2 (hP1L b o e) (k1 _ _ e)) (m5.down hnf k1)
end

section
open PySem PySem.W PySem.W.X PyProof.Rows PySem.Spec PySem.Calls
set_option Elab.async false
set_option maxRecDepth 100000
theorem Mine.ob_mro : mroOf (.type "object") = pure [.type "object"] := by kernel_rfl
section
variable {prog : Program} {w : World} {A : Around} {E : Value → Shared → Prop} {h : Heap} {g : Array GenState} {d : Drawn} {t : Nat} {os : OsState} {a N bA : Addr} {kt qt : Tok} {mf : Str → Option Value}
theorem Mine.k_type {M : Model} {name : Str} {y : Option Value} {Q : Option Value → Shared → Prop} (hC : h.get? a = some (Mine.kcls N Mine.kQ [.ref a, .type "object"] (Mine.kSlots bA kt qt) false ["obj"])) (hn : h.Ns N mf) (hB : typeLookup (.type "object") name = pure y)
    (hq : Q (match mf name with | some v => some v | none => y) ⟨h, g, d, t, os⟩) : wpAny M A (typeLookup (.ref a) name) Q E ⟨h, g, d, t, os⟩ :=
  wpAny_typeLookup_exc (C := a) (bm := [.type "object"]) (newId := "object.__new__") hC hn Mine.ob_mro hB hq
theorem Mine.k_check {M : Model} {rest : List Value} {Q : Unit → Shared → Prop}
    (hC : h.get? a = some (Mine.kcls N Mine.kQ [.ref a, .type "object"] (Mine.kSlots bA kt qt) false ["obj"])) (hq : Q () ⟨h, g, d, t, os⟩) :
    wpAny M A (checkBuiltinCall "object.__new__" ⟨.ref a :: rest, []⟩) Q E ⟨h, g, d, t, os⟩ := by
  have hC' : h.get? a = some (excClassObj "K" Mine.kQ a N [.type "object"] [.type "object"] false ["obj"] [] false none none (some (.ref bA)) none (some (.str "K" kt)) (some (.str Mine.kQ qt)) (some (.bool false)) "object.__new__") := hC
  have hcont : (Value.ref a :: [Value.type "object"]).contains (.type "object") = true := by rw [List.contains_cons, show [Value.type "object"].contains (.type "object") = true from by decide, Bool.or_true]
  unfold checkBuiltinCall
  rw [F.objNew.kind, F.objNew.split, F.objNew.row]
  refine wpAny_ite_true rfl ?_
  refine wpAny_bind (m := isType _) ?_
  unfold isType
  refine wpAny_bind (wpAny_loadPart_at hC ?_)
  refine wpAny_pure ?_
  refine wpAny_ite_false rfl ?_
  refine wpAny_bind (wpAny_isSubtype_exc hC' ?_)
  rw [hcont]
  refine wpAny_ite_false rfl ?_
  refine wpAny_bind (m := Bind.staticBase _) (wpAny_staticBase_exc hC' ?_)
  refine wpAny_bind (m := Bind.madeBy _) (wpAny_madeBy_exc hC' ?_)
  refine wpAny_ite_false ?_ ?_
  · rw [F.objNew.canon.symm.trans rfl]; kernel_rfl
  show wpAny _ _ (Bind.checkArgs "object.__new__" _ _) _ _ _
  repeat wp_step
  exact hq
theorem Mine.k_made {M : Model} {v : Value} {f2 : Addr} {Q : PySem.Fin → Shared → Prop}
    (hC : h.get? a = some (Mine.kcls N Mine.kQ [.ref a, .type "object"] (Mine.kSlots bA kt qt) false ["obj"])) (hn : h.Ns N mf) (hi : mf "__init__" = some (.ref f2))
    (hq : ∀ x dx h', (∀ b o, h.get? b = some o → h'.get? b = some o) → h.get? x = none → h'.get? x = some { cls := .ref a, dict := some dx, data := .plain } → h'.get? dx = some { cls := .type "dict", data := .dict #[] } → h.get? dx = none → x ≠ dx → Q (.done (.ret (.ref x))) ⟨h', g, d, t, os⟩) :
    wpAny M A (Builtin.«object.__new__» ⟨[.ref a, v], []⟩) Q E ⟨h, g, d, t, os⟩ := by
  have hC' : h.get? a = some (excClassObj "K" Mine.kQ a N [.type "object"] [.type "object"] false ["obj"] [] false none none (some (.ref bA)) none (some (.str "K" kt)) (some (.str Mine.kQ qt)) (some (.bool false)) "object.__new__") := hC
  unfold Builtin.«object.__new__»
  refine wpAny_bind (m := isType _) ?_
  unfold isType
  refine wpAny_bind (wpAny_loadPart_at hC (wpAny_pure ?_))
  refine wpAny_ite_false rfl ?_
  refine wpAny_bind (wpAny_madeHere_exc rfl hC' ?_)
  refine wpAny_ite_true rfl ?_
  refine wpAny_bind (m := Bind.madeBy _) (wpAny_madeBy_exc hC' ?_)
  refine wpAny_bind (Mine.k_type hC hn (y := some (.builtin "object.__init__")) (by rw [typeLookup_type, builtinLookup_eq_fast]; kernel_rfl) ?_)
  rw [hi]
  refine wpAny_ite_false (by rw [bne_self_eq_false]; rfl) (wpAny_ite_false rfl ?_)
  refine wpAny_bind (m := classData _) (wpAny_bind (wpAny_load hC (wpAny_pure ?_)))
  refine wpAny_ite_false rfl ?_
  refine wpAny_ite_true rfl ?_
  refine wpAny_bind (m := some <$> alloc _) (wpAny_map (Mine.alloc_abs rfl fun dx H1 hdx k1 nd => ?_))
  refine wpAny_bind (m := newObj _ _ _) ?_
  unfold newObj newObjAsIs
  refine wpAny_bind (m := alloc _) (Mine.alloc_abs rfl fun x H2 hx k2 nx => ?_)
  refine wpAny_bind (m := classHasDel _) ?_
  unfold classHasDel
  refine wpAny_bind (wpAny_loadPart (o := Mine.kcls N Mine.kQ [.ref a, .type "object"] (Mine.kSlots bA kt qt) false ["obj"]) (k2 _ _ (k1 _ _ hC)) (wpAny_pure (wpAny_ite_false rfl ?_)))
  refine wpAny_pure (wpAny_pure (hq x dx H2 (fun b o e => k2 _ _ (k1 _ _ e)) (Mine.get_none k1 nx) hx (k2 _ _ hdx) nd (Mine.ne_of_new ⟨_, hdx⟩ nx).symm))
theorem Mine.k_init {v : Value} {f2 : Addr} {fd : FuncData} {Q : PySem.Fin → Shared → Prop}
    (hC : h.get? a = some (Mine.kcls N Mine.kQ [.ref a, .type "object"] (Mine.kSlots bA kt qt) false ["obj"])) (hn : h.Ns N mf) (hi : mf "__init__" = some (.ref f2)) (hf2 : h.get? f2 = some { cls := .type "function", data := .func fd })
    (hq : ∀ x dx h', (∀ b o, h.get? b = some o → h'.get? b = some o) → h.get? x = none → h'.get? x = some { cls := .ref a, dict := some dx, data := .plain } → h'.get? dx = some { cls := .type "dict", data := .dict #[] } → h.get? dx = none → x ≠ dx →
      wpAny (model prog w) A (call (.ref f2) [.ref x, v]) (fun r s' => r = .none ∧ Q (.done (.ret (.ref x))) s') E ⟨h', g, d, t, os⟩) :
    wpAny (model prog w) A (Builtin.«type.__call__» ⟨[.ref a, v], []⟩) Q E ⟨h, g, d, t, os⟩ := by
  have hC' : h.get? a = some (excClassObj "K" Mine.kQ a N [.type "object"] [.type "object"] false ["obj"] [] false none none (some (.ref bA)) none (some (.str "K" kt)) (some (.str Mine.kQ qt)) (some (.bool false)) "object.__new__") := hC
  unfold Builtin.«type.__call__»
  refine wpAny_ite_false rfl ?_
  refine wpAny_bind (m := mroOf _) (wpAny_mroOf_exc hC' ?_)
  refine wpAny_ite_false rfl ?_
  refine wpAny_bind (m := Bind.madeBy _) (wpAny_madeBy_exc hC' (wpAny_bind (wpAny_pure ?_)))
  refine wpAny_bind (wpAny_holding (wpAny_call (codeAny_call_builtin (by decide +kernel) F.entry_object_new (Mine.k_check hC ?_))))
  refine Mine.k_made hC hn hi fun x dx h' k1 nx hx hdx nd nxd => ?_
  have hC1 := k1 _ _ hC
  have hC1' : h'.get? a = some (excClassObj "K" Mine.kQ a N [.type "object"] [.type "object"] false ["obj"] [] false none none (some (.ref bA)) none (some (.str "K" kt)) (some (.str Mine.kQ qt)) (some (.bool false)) "object.__new__") := hC1
  refine wpAny_bind (m := isInstance _ _) ?_
  unfold isInstance
  refine wpAny_bind (m := typeOf _) (wpAny_typeOf_ref hx ?_)
  refine wpAny_isSubtype_exc (base := .ref a) hC1' ?_
  rw [show (Value.ref a :: [Value.type "object"]).contains (.ref a) = true by simp]
  refine wpAny_ite_false rfl ?_
  refine wpAny_bind (wpAny_holding ?_)
  unfold callSpecial?
  refine wpAny_bind (m := specialOf _ _) ?_
  unfold specialOf
  refine wpAny_bind (m := typeOf _) (wpAny_typeOf_ref hx ?_)
  refine Mine.k_type (bA := bA) (kt := kt) (qt := qt) hC1 (hn.keeps k1) (y := some (.builtin "object.__init__")) (by rw [typeLookup_type, builtinLookup_eq_fast]; kernel_rfl) ?_
  rw [hi]
  refine wpAny_holding (wpAny_bind (m := bindSpecial _ _) ?_)
  unfold bindSpecial
  refine wpAny_bind (m := typeOf _) (wpAny_typeOf_ref (k1 _ _ hf2) (wpAny_ite_true rfl (wpAny_pure ?_)))
  refine wpAny_bind (wpAny_mono (hq x dx h' k1 nx hx hdx nd nxd) (fun r s' hr => ?_) fun _ _ z => z)
  obtain ⟨rfl, hr⟩ := hr
  exact wpAny_pure (wpAny_ite_false rfl (wpAny_pure hr))
theorem Mine.k_call {v : Value} {f2 : Addr} {fd : FuncData} {Q : Value → Shared → Prop}
    (hC : h.get? a = some (Mine.kcls N Mine.kQ [.ref a, .type "object"] (Mine.kSlots bA kt qt) false ["obj"])) (hn : h.Ns N mf) (hi : mf "__init__" = some (.ref f2)) (hf2 : h.get? f2 = some { cls := .type "function", data := .func fd })
    (hq : ∀ x dx h', (∀ b o, h.get? b = some o → h'.get? b = some o) → h.get? x = none → h'.get? x = some { cls := .ref a, dict := some dx, data := .plain } → h'.get? dx = some { cls := .type "dict", data := .dict #[] } → h.get? dx = none → x ≠ dx →
      wpAny (model prog w) (A.under (.builtin "type.__call__" ⟨[.ref a, v], []⟩)) (call (.ref f2) [.ref x, v]) (fun r s' => r = .none ∧ Q (.ref x) s') E ⟨h', g, d, t, os⟩) :
    wpAny (model prog w) A (call (.ref a) [v]) Q E ⟨h, g, d, t, os⟩ := by
  have hC' : h.get? a = some (excClassObj "K" Mine.kQ a N [.type "object"] [.type "object"] false ["obj"] [] false none none (some (.ref bA)) none (some (.str "K" kt)) (some (.str Mine.kQ qt)) (some (.bool false)) "object.__new__") := hC
  have f1 := tc_lookup
  have f2 := tc_bind (.ref a)
  have hT : (⟨h, g, d, t, os⟩ : Shared).TypeIs (.ref a) "type" := ⟨_, hC, rfl⟩
  refine wpAny_call (codeAny_of_tree ?_)
  show wpAny _ _ (callAny (.ref a) _) _ _ _
  repeat (any_goals (first | assumption | with_reducible refine wpAny_loadPart_at hC' ?_ | wp_step))
  refine ⟨rfl, ?_⟩
  refine codeAny_call_builtin_at (Code.quiet_builtin _ (by decide +kernel)) entry_typeCall (wpAny_check_type_call_sub hC' ?_)
  exact Mine.k_init hC hn hi hf2 hq
end
end

section
open PySem PySem.W PySem.W.X PyProof.Rows PySem.Spec PySem.Calls
set_option Elab.async false
set_option maxRecDepth 100000
noncomputable def Mine.dmObj (a : Addr) (dt : Tok) : Obj := { cls := .type "member_descriptor", data := .fields #[.str "obj" dt, .ref a, .builtin "proto.slot", .builtin "proto.slot#set", rawInt 0] }
noncomputable def Mine.kObj (a dx : Addr) (sl : Array (Option Value)) : Obj := { cls := .ref a, dict := some dx, data := .plain, slots := sl }
theorem Mine.slotSet : Slot "member_descriptor" "__set__" "member_descriptor.__set__" := .of (owner := "member_descriptor") (n := "__set__") (by rw [typeLookup_type, builtinLookup_eq_fast]; kernel_rfl) (by decide +kernel) (by decide +kernel) (by decide +kernel)
    (by first | exact .inl (by decide +kernel) | exact .inr (by decide +kernel)) (by rw [isSubtype_type]; kernel_rfl)
theorem Mine.entSet : entryFor table "member_descriptor.__set__" = some Builtin.«member_descriptor.__set__» := entryFor_of_tree (by kernel_rfl)
theorem Mine.argSet (x y z : Value) : argsOk "member_descriptor.__set__" ⟨[x, y, z], []⟩ := by unfold argsOk; kernel_rfl
theorem Mine.entSl : entryFor table "proto.slot#set" = some Builtin.«proto.slot#set» := entryFor_of_tree (by kernel_rfl)
theorem Mine.args_pure {id : String} {args : Args} (h : argsOk id args) : (match Manifest.signature? id with | some sig => Bind.checkArgs id sig args | _ => pure ()) = pure () := by
  unfold argsOk at h
  split
  · rename_i sig hs
    rw [hs] at h
    exact h
  · rfl
section
variable {prog : Program} {w : World} {A : Around} {E : Value → Shared → Prop} {h : Heap} {g : Array GenState} {d : Drawn} {t : Nat} {os : OsState} {a N bA dm x dx : Addr} {kt qt dt : Tok} {mf : Str → Option Value} {sl : Array (Option Value)} {v : Value}
theorem Mine.k_tgt {M : Model} {Q : Addr × Nat × Str → Shared → Prop} (hC : h.get? a = some (Mine.kcls N Mine.kQ [.ref a, .type "object"] (Mine.kSlots bA kt qt) false ["obj"])) (hd : h.get? dm = some (Mine.dmObj a dt)) (hx : h.get? x = some (Mine.kObj a dx sl))
    (hq : Q (x, 0, "obj") ⟨h, g, d, t, os⟩) : wpAny M A (Builtin.Slots.target (.ref x) (.ref dm)) Q E ⟨h, g, d, t, os⟩ := by
  unfold Builtin.Slots.target
  refine wpAny_bind (wpAny_field hd rfl (x := rawInt 0) rfl ?_)
  refine wpAny_bind (wpAny_field hd rfl (x := .str "obj" dt) rfl ?_)
  refine wpAny_bind (m := typeOf _) (wpAny_typeOf_ref hx ?_)
  refine wpAny_bind (m := Builtin.Slots.slotNamesOf _) ?_
  unfold Builtin.Slots.slotNamesOf classData
  refine wpAny_bind (wpAny_bind (wpAny_load hC (wpAny_pure (wpAny_pure ?_))))
  refine wpAny_ite_false rfl (wpAny_pure ?_)
  exact hq
theorem Mine.k_dset {Q : Value → Shared → Prop} (hC : h.get? a = some (Mine.kcls N Mine.kQ [.ref a, .type "object"] (Mine.kSlots bA kt qt) false ["obj"])) (hd : h.get? dm = some (Mine.dmObj a dt)) (hx : h.get? x = some (Mine.kObj a dx #[]))
    (hq : ∀ h', Heap.SameBut x h h' → h'.get? x = some (Mine.kObj a dx #[some v]) → Q .none ⟨h', g, d, t, os⟩) :
    wpAny (model prog w) A (call (.builtin "member_descriptor.__set__") [.ref dm, .ref x, v]) Q E ⟨h, g, d, t, os⟩ := by
  have hC' : h.get? a = some (excClassObj "K" Mine.kQ a N [.type "object"] [.type "object"] false ["obj"] [] false none none (some (.ref bA)) none (some (.str "K" kt)) (some (.str Mine.kQ qt)) (some (.bool false)) "object.__new__") := hC
  refine wpAny_call (codeAny_call_builtin Mine.slotSet.plain Mine.entSet (Mine.slotSet.check _ _ _ _ _ _ _ _ ⟨_, hd, rfl⟩ (Mine.argSet _ _ _) ?_))
  unfold Builtin.«member_descriptor.__set__» Builtin.Getset_descriptor.descrSet
  refine wpAny_ite_false rfl ?_
  unfold Builtin.Getset_descriptor.descrStoreThrough
  refine wpAny_bind (m := Builtin.Getset_descriptor.descrCheckInstance _ _) ?_
  unfold Builtin.Getset_descriptor.descrCheckInstance
  refine wpAny_bind (m := Builtin.Getset_descriptor.descrNameAndClass _) ?_
  unfold Builtin.Getset_descriptor.descrNameAndClass
  refine wpAny_bind (wpAny_field hd rfl (x := .str "obj" dt) rfl ?_)
  refine wpAny_bind (wpAny_field hd rfl (x := .ref a) rfl (wpAny_pure ?_))
  refine wpAny_bind (m := isInstance _ _) ?_
  unfold isInstance
  refine wpAny_bind (m := typeOf _) (wpAny_typeOf_ref hx ?_)
  refine wpAny_isSubtype_exc (base := .ref a) hC' ?_
  rw [show (Value.ref a :: [Value.type "object"]).contains (.ref a) = true by simp]
  refine wpAny_ite_false rfl (wpAny_pure ?_)
  refine wpAny_bind (m := Builtin.Getset_descriptor.descrItself _) ?_
  unfold Builtin.Getset_descriptor.descrItself
  refine wpAny_bind (wpAny_fieldsOf hd rfl (wpAny_pure ?_))
  refine wpAny_bind (wpAny_field hd rfl (x := .builtin "proto.slot#set") rfl ?_)
  refine wpAny_bind (wpAny_rule ?_)
  refine wpAny_pure ⟨Code.quiet_builtin _ (by decide +kernel), codeAny_builtin (args := ⟨[.ref x, v, .ref dm], []⟩) Mine.entSl ?_⟩
  unfold Builtin.«proto.slot#set»
  refine wpAny_bind (Mine.k_tgt hC hd hx ?_)
  refine wpAny_bind (Mine.setSlot_abs (o' := Mine.kObj a dx #[some v]) hx (by decide) rfl rfl fun h' hx' hs => ?_)
  exact wpAny_pure (hq h' hs hx')
theorem Mine.k_seta {tk : Tok} {Q : PySem.Fin → Shared → Prop} (hC : h.get? a = some (Mine.kcls N Mine.kQ [.ref a, .type "object"] (Mine.kSlots bA kt qt) false ["obj"])) (hn : h.Ns N mf) (ho : mf "obj" = some (.ref dm)) (hd : h.get? dm = some (Mine.dmObj a dt)) (hx : h.get? x = some (Mine.kObj a dx #[]))
    (hq : ∀ h', Heap.SameBut x h h' → h'.get? x = some (Mine.kObj a dx #[some v]) → Q (.done (.ret .none)) ⟨h', g, d, t, os⟩) :
    wpAny (model prog w) A (Builtin.«object.__setattr__» ⟨[.ref x, .str "obj" tk, v], []⟩) Q E ⟨h, g, d, t, os⟩ := by
  have hC' : h.get? a = some (excClassObj "K" Mine.kQ a N [.type "object"] [.type "object"] false ["obj"] [] false none none (some (.ref bA)) none (some (.str "K" kt)) (some (.str Mine.kQ qt)) (some (.bool false)) "object.__new__") := hC
  unfold Builtin.«object.__setattr__»
  refine wpAny_ite_false rfl ?_
  refine wpAny_bind (m := Builtin.ObjectAttr.refuseIfOverridden (.ref x) "__setattr__") ?_
  rw [refuse_eq]
  refine wpAny_bind (m := typeOf _) (wpAny_typeOf_ref hx (wpAny_bind (m := mroOf _) (wpAny_mroOf_exc hC' ?_)))
  rw [refuseLoop_ref, F.store_object.passes]
  refine wpAny_pure (wpAny_bind (m := Builtin.ObjectAttr.attrName _) (wpAny_pure ?_))
  refine wpAny_bind (m := typeOf _) (wpAny_typeOf_ref hx ?_)
  refine wpAny_bind (Mine.k_type hC hn (y := none) (by rw [typeLookup_type, builtinLookup_eq_fast]; kernel_rfl) ?_)
  rw [ho]
  refine wpAny_bind (m := Builtin.ObjectAttr.storeTaker? _) ?_
  unfold Builtin.ObjectAttr.storeTaker?
  refine wpAny_bind (m := Builtin.ObjectAttr.takesStores _) ?_
  unfold Builtin.ObjectAttr.takesStores
  refine wpAny_bind (wpAny_specialOf (T := "member_descriptor") ⟨_, hd, rfl⟩ Mine.slotSet.lookup (wpAny_ite_true rfl (wpAny_pure (wpAny_ite_true rfl (wpAny_pure ?_)))))
  show wpAny _ _ (Builtin.ObjectAttr.setByDescriptor (.ref dm) (.ref x) v) _ _ _
  unfold Builtin.ObjectAttr.setByDescriptor
  refine wpAny_bind (wpAny_rule (wpAny_bind (wpAny_holding (wpAny_callSpecial?_slot (T := "member_descriptor") ⟨_, hd, rfl⟩ Mine.slotSet ?_))))
  exact Mine.k_dset hC hd hx fun h' hs hx' => wpAny_pure (hq h' hs hx')
theorem Mine.k_setattr {Q : Unit → Shared → Prop} (hC : h.get? a = some (Mine.kcls N Mine.kQ [.ref a, .type "object"] (Mine.kSlots bA kt qt) false ["obj"])) (hn : h.Ns N mf) (ho : mf "obj" = some (.ref dm)) (hs0 : mf "__setattr__" = none) (hd : h.get? dm = some (Mine.dmObj a dt)) (hx : h.get? x = some (Mine.kObj a dx #[]))
    (hq : ∀ h' tk, Heap.SameBut x h h' → h'.get? x = some (Mine.kObj a dx #[some v]) → Q () ⟨h', g, d, tk, os⟩) :
    wpAny (model prog w) A (setAttr (.ref x) "obj" v) Q E ⟨h, g, d, t, os⟩ := by
  have hC' : h.get? a = some (excClassObj "K" Mine.kQ a N [.type "object"] [.type "object"] false ["obj"] [] false none none (some (.ref bA)) none (some (.str "K" kt)) (some (.str Mine.kQ qt)) (some (.bool false)) "object.__new__") := hC
  unfold setAttr
  refine wpAny_bind (wpAny_mkText ?_)
  refine wpAny_bind (m := callSpecial? _ _ _) ?_
  unfold callSpecial?
  refine wpAny_bind (m := specialOf _ _) ?_
  unfold specialOf
  refine wpAny_bind (m := typeOf _) (wpAny_typeOf_ref hx ?_)
  refine Mine.k_type hC hn (y := some (.builtin "object.__setattr__")) F.store_object.slot.lookup ?_
  rw [hs0]
  refine wpAny_holding (wpAny_bind (wpAny_of_eq (F.store_object.slot.bind _) ?_))
  refine wpAny_bind (wpAny_call (codeAny_call_builtin F.store_object.slot.plain F.store_object.entry ?_))
  unfold checkBuiltinCall
  rw [F.store_object.kind, F.store_object.split]
  refine wpAny_bind (m := isInstance _ _) ?_
  unfold isInstance
  refine wpAny_bind (m := typeOf _) (wpAny_typeOf_ref hx ?_)
  refine wpAny_isSubtype_exc (base := .type "object") hC' ?_
  rw [show (Value.ref a :: [Value.type "object"]).contains (.type "object") = true by simp]
  refine wpAny_ite_false rfl ?_
  refine wpAny_of_eq (Mine.args_pure (F.store_object.args (.ref x) (.str "obj" t) v)) ?_
  refine Mine.k_seta hC hn ho hd hx fun h' hs hx' => ?_
  exact wpAny_pure (wpAny_pure (hq h' _ hs hx'))
end
end

section
open PySem PySem.W PySem.W.X PyProof.Rows PySem.Spec PySem.Calls
set_option Elab.async false
set_option maxRecDepth 100000
section
variable {prog : Program} {w : World} {A : Around} {E : Value → Shared → Prop} {h : Heap} {g : Array GenState} {d : Drawn} {t : Nat} {os : OsState} {a N cl : Addr} {v : Value}
theorem Mine.k_make {Q : Value → Shared → Prop} (hK : Mine.KCls h a cl N) (hnl : h.NoLimit) (hA2 : A.depth + 2 ≤ 800)
    (hq : ∀ x dx h' tk, (∀ b o, h.get? b = some o → h'.get? b = some o) → h.get? x = none → h'.get? x = some (Mine.kObj a dx #[some v]) → Q (.ref x) ⟨h', g, d, tk, os⟩) :
    wpAny (model prog w) A (call (.ref a) [v]) Q E ⟨h, g, d, t, os⟩ := by
  obtain ⟨dm, bA, f2, f3, nA, P, dt, kt, qt, mf, x1, x2, x3, x4, x5, x6, x7, x8, x9⟩ := hK.ex
  obtain ⟨n1, n2, doc, pm, cv, ctv, ⟨e1, e2⟩, e3⟩ := x6
  refine Mine.k_call x1 x2 x5 e3 fun x dx h1 k1 nx hx hdx ndx nxd => ?_
  refine wpAny_call (codeAny_call_def (body := Mine.kBo 2) (binds := [("self", .ref x), ("obj", v)]) ?_ (k1 _ _ e3) rfl (hnl.keeps k1) (e2.keeps k1) rfl (BindsTo.of_eq (by rfl)) (show ∀ x ∈ (Mine.kFs 2).names, x.2 ≠ .cell by decide) ?_ (fun h2 ns2 k2 => ?_) rfl rfl rfl)
  · show A.depth + Code.weight (.builtin "type.__call__" ⟨[.ref a, v], []⟩) < 1000
    have : Code.weight (.builtin "type.__call__" ⟨[.ref a, v], []⟩) = 1 := rfl
    lia
  · intro y hy
    simp only [List.mem_cons, List.not_mem_nil, or_false] at hy
    rcases hy with rfl | rfl <;> rfl
  · refine wpAny_execs_cons (plainObj_wpAny_Assign_Attribute ?_)
    refine wpAny_Name (wpAny_loadName_local rfl rfl ns2 (v := v) (by rfl) ?_) rfl
    refine wpAny_Name (wpAny_loadName_local rfl rfl ns2 (v := .ref x) (by rfl) ?_) rfl
    have hk := fun b o e => k2 b o (k1 b o e)
    refine Mine.k_setattr (hk _ _ x1) (x2.keeps hk) x3 (x9 _ (by decide +kernel)) (hk _ _ x4) (k2 _ _ hx) fun h3 tk s3 hx3 => ?_
    refine wpAny_execs_nil ⟨rfl, ?_⟩
    refine hq x dx h3 tk (fun b o e => ?_) nx hx3
    have : b ≠ x := fun q => by rw [q, nx] at e; cases e
    exact (s3.2 b this).trans (hk b o e)
end
end

section
open PySem PySem.W PySem.W.X PyProof.Rows PySem.Spec PySem.Calls
set_option Elab.async false
set_option maxRecDepth 100000
set_option hygiene false in
local macro_rules | `(tactic| x_close) => `(tactic| first | exact hQ _ _ (Mine.mem_all (by assumption)) | exact hQ _ _ (fun _ _ e => e))
set_option maxHeartbeats 8000000 in
theorem Mine.k_get (prog : Program) (w : World) (s : Shared) (hg : s.gens = #[]) (a N bA dm x dx : Addr) (kt qt dt : Tok) (v : Value) (E Q : Value → Shared → Prop)
   (h1 : s.heap.get? a = some ⟨.type "type", none, .cls { name := "K", bases := [.type "object"], mro := [.ref a, .type "object"], ns := N, qualname := "cmp_to_key.<locals>.K", hasDict := false, slotNames := ["obj"] }, #[some (.ref bA), none, some (.str "K" kt), some (.str "cmp_to_key.<locals>.K" qt), some (.builtin "object.__new__"), some (.bool false)]⟩)
   (h2 : s.heap.get? dm = some ⟨.type "member_descriptor", none, .fields #[.str "obj" dt, .ref a, .builtin "proto.slot", .builtin "proto.slot#set", rawInt 0], #[]⟩)
   (h3 : s.heap.get? x = some ⟨.ref a, some dx, .plain, #[some v]⟩)
   (hQ : ∀ h' tk, (∀ b o, s.heap.get? b = some o → h'.get? b = some o) → Q v ⟨h', #[], s.drawn, tk, s.os⟩) :
   wpAny (model prog w) Mine.A0 (call (.builtin "member_descriptor.__get__") [.ref dm, .ref x, .ref a]) Q E s := by
  x_run
theorem Mine.slotGet : Slot "member_descriptor" "__get__" "member_descriptor.__get__" := .of (owner := "member_descriptor") (n := "__get__") (by rw [typeLookup_type, builtinLookup_eq_fast]; kernel_rfl) (by decide +kernel) (by decide +kernel) (by decide +kernel)
    (by first | exact .inl (by decide +kernel) | exact .inr (by decide +kernel)) (by rw [isSubtype_type]; kernel_rfl)
section
variable {prog : Program} {w : World} {A : Around} {E : Value → Shared → Prop} {h : Heap} {d : Drawn} {t : Nat} {os : OsState} {a N cl x dx : Addr} {v : Value}
theorem Mine.k_getattr {Q : Value → Shared → Prop} (hK : Mine.KCls h a cl N) (hx : h.get? x = some (Mine.kObj a dx #[some v])) (hv : handedOut v = pure v) (hA : A.handled = none) (hA2 : A.depth ≤ 790) (hA3 : A.units + 5 ≤ 5000) {e : Bool}
    (hq : ∀ h' tk, (∀ b o, h.get? b = some o → h'.get? b = some o) → Q v ⟨h', #[], d, tk, os⟩) :
    wpAny (model prog w) A (getAttr (.ref x) "obj" e) Q E ⟨h, #[], d, t, os⟩ := by
  obtain ⟨dm, bA, f2, f3, nA, P, dt, kt, qt, mf, x1, x2, x3, x4, x5, x6, x7, x8, x9⟩ := hK.ex
  unfold getAttr getAttrBy
  refine wpAny_bind (wpAny_mkText (wpAny_holding (wpAny_bind (m := typeOf _) (wpAny_typeOf_ref hx ?_))))
  refine wpAny_bind (Mine.k_type x1 x2 (y := some (.builtin "object.__getattribute__")) (by rw [typeLookup_type, builtinLookup_eq_fast]; kernel_rfl) ?_)
  rw [x9 _ (by decide +kernel)]
  refine wpAny_ite_true rfl ?_
  unfold getAttrEveryday
  refine wpAny_bind (wpAny_onRaise (wpAny_runValue (codeAny_builtin F.entry_getattr_hooked ?_)))
  unfold Builtin.«proto.getattr_hooked»
  refine wpAny_bind (m := Builtin.ObjectAttr.attrName _) (wpAny_pure ?_)
  refine wpAny_bind (m := typeOf _) (wpAny_typeOf_ref hx ?_)
  refine wpAny_bind (m := Builtin.ObjectAttr.find _ _ _) ?_
  unfold Builtin.ObjectAttr.find
  refine wpAny_bind (Mine.k_type x1 x2 (y := none) (by rw [typeLookup_type, builtinLookup_eq_fast]; kernel_rfl) ?_)
  rw [x3]
  refine wpAny_bind (m := Builtin.ObjectAttr.getOf _) (wpAny_specialOf (T := "member_descriptor") ⟨_, x4, rfl⟩ Mine.slotGet.lookup ?_)
  refine wpAny_bind (m := Builtin.ObjectAttr.dataDescriptor? _ _) ?_
  unfold Builtin.ObjectAttr.dataDescriptor?
  refine wpAny_bind (m := Builtin.ObjectAttr.takesStores _) ?_
  unfold Builtin.ObjectAttr.takesStores
  refine wpAny_bind (wpAny_specialOf (T := "member_descriptor") ⟨_, x4, rfl⟩ Mine.slotSet.lookup (wpAny_ite_true rfl (wpAny_pure (wpAny_ite_true rfl (wpAny_pure ?_)))))
  refine wpAny_bind (wpAny_rule (wpAny_pure ?_))
  refine wpAny_bind (Mine.k_type x1 x2 (y := none) (by rw [typeLookup_type, builtinLookup_eq_fast]; kernel_rfl) ?_)
  rw [x9 _ (by decide +kernel)]
  show wpAny _ _ (Builtin.ObjectAttr.bindWithHook _ _ _ _ _ none) _ _ _
  unfold Builtin.ObjectAttr.bindWithHook Builtin.ObjectAttr.bindTo
  rw [Around.under_plain rfl rfl]
  refine wpAny_bind (wpAny_holding (Mine.wp_room hA (by show A.depth ≤ 800; lia) (by show A.units + 1 ≤ 5000; lia) (Mine.k_get prog w ⟨h, #[], d, t + 1, os⟩ rfl a N bA dm x dx kt qt dt v _ _ x1 x4 hx fun h' tk k => ?_)))
  refine wpAny_pure ?_
  show wpAny _ _ (handedOut v) _ _ _
  rw [hv]
  exact wpAny_pure (hq h' tk k)
end
end

section
open PySem PySem.W PySem.W.X PyProof.Rows PySem.Spec PySem.Calls
set_option Elab.async false
set_option maxRecDepth 100000
section
variable {prog : Program} {w : World} {A : Around} {E : Value → Shared → Prop} {h : Heap} {d : Drawn} {t : Nat} {os : OsState} {a N cl x dx y dy : Addr} {v u : Value} {env : Env}
theorem Mine.k_attr {Q : Value → Shared → Prop} {nm : Str} {p p2 : Pos} (hK : Mine.KCls h a cl N) (hx : h.get? x = some (Mine.kObj a dx #[some v])) (hv : handedOut v = pure v) (hA : A.handled = none) (hA2 : A.depth ≤ 790) (hA3 : A.units + 5 ≤ 5000)
    (hn : ∀ Q' : Value → Shared → Prop, Q' (.ref x) ⟨h, #[], d, t, os⟩ → wpAny (model prog w) A (eval (.Name nm p) env) Q' E ⟨h, #[], d, t, os⟩)
    (hq : ∀ h' tk, (∀ b o, h.get? b = some o → h'.get? b = some o) → Q v ⟨h', #[], d, tk, os⟩) :
    wpAny (model prog w) A (eval (.Attribute (.Name nm p) "obj" p2) env) Q E ⟨h, #[], d, t, os⟩ := by
  rw [arm_eval_Attribute]
  refine wpAny_bind (m := attributeBase _ _ _ _) (hn _ ?_)
  refine wpAny_bind (wpAny_standAt (wpAny_bind (wpAny_holding ?_)))
  exact Mine.k_getattr hK hx hv hA hA2 hA3 fun h' tk k => wpAny_bind (wpAny_pure (wpAny_pure (hq h' tk k)))
theorem Mine.KCls.keeps {h h' : Heap} {a cl N : Addr} (x : Mine.KCls h a cl N) (kp : ∀ b o, h.get? b = some o → h'.get? b = some o) : Mine.KCls h' a cl N := by
  have kf : ∀ {f n nm q nA P}, Mine.FnK h nA P f cl n nm q → Mine.FnK h' nA P f cl n nm q := fun x => Mine.FnAt.kp x fun b o _ _ e => kp b o e
  obtain ⟨dm, bA, f2, f3, nA, P, dt, t, qt, mf, x1, x2, x3, x4, x5, x6, x7, x8, x9⟩ := x.ex
  exact ⟨dm, bA, f2, f3, nA, P, dt, t, qt, mf, kp _ _ x1, x2.keeps kp, x3, kp _ _ x4, x5, kf x6, x7, kf x8, x9⟩
noncomputable def Mine.MyCmp (prog : Program) (w : World) (os : OsState) (d : Drawn) (h : Heap) (n : Nat) (g : Addr) (v u : Value) (i : Int) : Prop :=
  ∀ (A : Around) (h1 : Heap) (tk : Nat) (Q : Value → Shared → Prop) (E : Value → Shared → Prop), Mine.Room A n → (∀ b o, h.get? b = some o → h1.get? b = some o) →
    (∀ h' tk' t, (∀ b o, h1.get? b = some o → h'.get? b = some o) → Q (.int i t) ⟨h', #[], d, tk', os⟩) → wpAny (model prog w) A (call (.ref g) [v, u]) Q E ⟨h1, #[], d, tk, os⟩
theorem Mine.k_ltcall {Q : Value → Shared → Prop} {f3 nA P g : Addr} {og : Obj} {fdg : FuncData} {n : Nat} {i : Int} (hK : Mine.KCls h a cl N) (hcl : h.IsCell cl (some (.ref g))) (hog : h.get? g = some og) (hfg : og.data = .func fdg) (hf : Mine.FnK h nA P f3 cl 3 "__lt__" "cmp_to_key.<locals>.K.__lt__")
    (hx : h.get? x = some (Mine.kObj a dx #[some v])) (hy : h.get? y = some (Mine.kObj a dy #[some u])) (hv : handedOut v = pure v) (hu : handedOut u = pure u) (hnl : h.NoLimit) (hR : Mine.Room A (n + 1))
    (hA2 : A.depth ≤ 780) (hA3 : A.units + 15 ≤ 5000)
    (hm : Mine.MyCmp prog w os d h n g v u i)
    (hq : ∀ h' tk, (∀ b o, h.get? b = some o → h'.get? b = some o) → Q (.bool (decide (i < 0))) ⟨h', #[], d, tk, os⟩) :
    wpAny (model prog w) A (call (.ref f3) [.ref x, .ref y]) Q E ⟨h, #[], d, t, os⟩ := by
  obtain ⟨n1, n2, doc, pm, cv, ctv, ⟨e1, e2⟩, e3⟩ := hf
  refine wpAny_call (codeAny_call_def (body := Mine.kBo 3) (binds := [("self", .ref x), ("other", .ref y)]) (by show A.depth < 1000; lia) e3 rfl hnl e2 rfl (BindsTo.of_eq (by rfl)) (show ∀ x ∈ (Mine.kFs 3).names, x.2 ≠ .cell by decide) ?_ (fun h2 ns2 k2 => ?_) rfl rfl rfl)
  · intro y hy
    simp only [List.mem_cons, List.not_mem_nil, or_false] at hy
    rcases hy with rfl | rfl <;> rfl
  · refine wpAny_execs_cons (wpAny_Return_some (wpAny_Compare1 (wpAny_Call_NameR ?_)))
    obtain ⟨oc, hc1, hc2⟩ := hcl
    refine wpAny_Name (wpAny_loadName_free rfl rfl (c := cl) rfl (v := .ref g) ⟨oc, k2 _ _ hc1, hc2⟩ ?_) rfl
    refine callWith_function (o := og) (fd := fdg) (Calls.evalArgs_plain (Calls.spliced_cons ?_))
    refine Mine.k_attr (hK.keeps k2) (k2 _ _ hx) hv hR.hh (by show A.depth + 1 ≤ 790; lia) (by show A.units + 3 + 5 ≤ 5000; lia) (fun Q' q => wpAny_Name (wpAny_loadName_local rfl rfl ns2 (v := .ref x) (by rfl) q) rfl) fun h3 tk3 k3 => ?_
    have k23 := fun b o e => k3 b o (k2 b o e)
    refine Calls.spliced_cons ?_
    refine Mine.k_attr (hK.keeps k23) (k23 _ _ hy) hu hR.hh (by show A.depth + 1 ≤ 790; lia) (by show A.units + 3 + 5 ≤ 5000; lia) (fun Q' q => wpAny_Name (wpAny_loadName_local rfl rfl (ns2.keeps k3) (v := .ref y) (by rfl) q) rfl) fun h4 tk4 k4 => ?_
    have k24 := fun b o e => k4 b o (k23 b o e)
    refine Calls.spliced_nil ⟨⟨k24 _ _ hog, hfg⟩, ?_⟩
    refine hm _ h4 _ _ _ hR.deeper k24 fun h5 tk5 ti k5 => ?_
    refine wpAny_mkInt (lt_int ?_)
    refine hq h5 _ fun b o e => k5 _ _ (k24 _ _ e)
theorem Mine.k_lt {Q : Bool → Shared → Prop} {g : Addr} {og : Obj} {fdg : FuncData} {n : Nat} {i : Int} (hK : Mine.KCls h a cl N) (hcl : h.IsCell cl (some (.ref g))) (hog : h.get? g = some og) (hfg : og.data = .func fdg)
    (hx : h.get? x = some (Mine.kObj a dx #[some v])) (hy : h.get? y = some (Mine.kObj a dy #[some u])) (hv : handedOut v = pure v) (hu : handedOut u = pure u) (hnl : h.NoLimit) (hR : Mine.Room A (n + 1))
    (hA2 : A.depth ≤ 780) (hA3 : A.units + 15 ≤ 5000)
    (hm : Mine.MyCmp prog w os d h n g v u i)
    (hq : ∀ h' tk, (∀ b o, h.get? b = some o → h'.get? b = some o) → Q (decide (i < 0)) ⟨h', #[], d, tk, os⟩) :
    wpAny (model prog w) A (keyLt' oneType' (.ref x) (.ref y)) Q E ⟨h, #[], d, t, os⟩ := by
  obtain ⟨dm, bA, f2, f3, nA, P, dt, kt, qt, mf, x1, x2, x3, x4, x5, x6, x7, x8, x9⟩ := id hK.ex
  obtain ⟨n1, n2, doc, pm, cv, ctv, e1, e3⟩ := id x8
  rw [keyLt'_oneType, oneLt'_eq]
  simp only [if_true]
  refine wpAny_bind (wpAny_cRoomFor (by show A.units < 9900; lia) ?_)
  have call : ∀ {Q' : Option Value → Shared → Prop}, (∀ h' tk, (∀ b o, h.get? b = some o → h'.get? b = some o) → Q' (some (.bool (decide (i < 0)))) ⟨h', #[], d, tk, os⟩) →
      wpAny (model prog w) A (callSpecialIfBound? (.ref x) "__lt__" [.ref y]) Q' E ⟨h, #[], d, t, os⟩ := by
    intro Q' hQ'
    simp only [callSpecialIfBound?, bindSpecialIfBound?]
    refine wpAny_holding (wpAny_bind (wpAny_bind ?_))
    unfold specialOf
    refine wpAny_bind (m := typeOf _) (wpAny_typeOf_ref hx ?_)
    refine Mine.k_type x1 x2 (y := some (.builtin "object.__lt__")) (by rw [typeLookup_type, builtinLookup_eq_fast]; kernel_rfl) ?_
    rw [x7]
    have fin : wpAny (model prog w) A (call (.ref f3) ([.ref x] ++ [.ref y]) >>= fun v => pure (some v)) Q' E ⟨h, #[], d, t, os⟩ :=
      wpAny_bind (Mine.k_ltcall hK hcl hog hfg x8 hx hy hv hu hnl hR hA2 hA3 hm fun h' tk k => wpAny_pure (hQ' h' tk k))
    have bs : ∀ {Q2 : Value × List Value → Shared → Prop} {E2 : Value → Shared → Prop}, Q2 (.ref f3, [.ref x]) ⟨h, #[], d, t, os⟩ → wpAny (model prog w) A (bindSpecial (.ref f3) (.ref x)) Q2 E2 ⟨h, #[], d, t, os⟩ := by
      intro Q2 E2 q
      unfold bindSpecial
      exact wpAny_bind (m := typeOf _) (wpAny_typeOf_ref e3 (wpAny_ite_true rfl (wpAny_pure q)))
    refine wpAny_bind (wpAny_askSetting (wpAny_ite ?_))
    split
    · exact wpAny_bind (bs (wpAny_pure (by exact fin)))
    · exact wpAny_tryCatch (wpAny_bind (bs (wpAny_pure (by exact fin))))
  refine wpAny_bind (call fun h' tk k => ?_)
  exact wpAny_bind (wpAny_truthy_bool (wpAny_pure (hq h' tk k)))
end
end

section
open PySem PySem.W PyProof.Rows
set_option Elab.async false
set_option linter.unusedVariables false
namespace Mine
noncomputable def Hold (n : Nat) (c : Nat → Nat → Bool) {α : Type} : KasT α → (α → Prop) → Prop
  | .ret a, R => R a
  | .ask i j k, R => i < n ∧ j < n ∧ Hold n c (k (c i j)) R
variable {n : Nat} {c : Nat → Nat → Bool}
theorem Hold.mono {α : Type} {R R' : α → Prop} (h : ∀ a, R a → R' a) : ∀ {t : KasT α}, Hold n c t R → Hold n c t R'
  | .ret a, x => h a x
  | .ask i j k, ⟨x, y, z⟩ => ⟨x, y, Hold.mono h (t := k (c i j)) z⟩
theorem Hold.bind {α β : Type} {f : α → KasT β} {R : β → Prop} : ∀ {t : KasT α}, Hold n c t (fun a => Hold n c (f a) R) → Hold n c (t.bind f) R
  | .ret a, x => x
  | .ask i j k, ⟨x, y, z⟩ => ⟨x, y, Hold.bind (t := k (c i j)) z⟩
noncomputable def Ok (n : Nat) (p : Array Nat) : Prop := p.Perm (List.toArray (List.range n))
theorem Ok.at {p : Array Nat} (h : Ok n p) (hn : 0 < n) (i : Nat) : p.getD i 0 < n := by
  by_cases hi : i < p.size
  · have : p.getD i 0 ∈ p := by
      simp only [Array.getD, hi, dif_pos]
      exact Array.getElem_mem hi
    have := (h.mem_iff (a := p.getD i 0)).mp this
    simpa using this
  · simp [Array.getD, hi, hn]
theorem Ok.rev {p : Array Nat} (h : Ok n p) (i j : Nat) : Ok n (kas_rev p i j) := (mirror_perm _ _ _ _).trans h
theorem asc_ok {p : Array Nat} (h : Ok n p) (hn : 0 < n) : ∀ (f m : Nat), Hold n c (kas_asc p f m) fun _ => True
  | 0, m => trivial
  | f + 1, m => ⟨h.at hn _, h.at hn _, by
      cases c (p.getD m 0) (p.getD (m - 1) 0)
      · exact asc_ok h hn f (m + 1)
      · trivial⟩
theorem desc_ok (hn : 0 < n) : ∀ (f : Nat) {p : Array Nat} (m q : Nat), Ok n p → Hold n c (kas_desc f p m q) fun r => Ok n r.1
  | 0, p, m, q, h => h
  | f + 1, p, m, q, h => ⟨h.at hn _, h.at hn _, by
      cases c (p.getD m 0) (p.getD (m - 1) 0)
      · refine ⟨h.at hn _, h.at hn _, ?_⟩
        cases c (p.getD (m - 1) 0) (p.getD m 0)
        · exact desc_ok hn f _ _ h
        · exact h
      · show Hold n c (if q > 0 then _ else _) _
        split
        · exact desc_ok hn f _ _ (h.rev _ _)
        · exact desc_ok hn f _ _ h⟩
theorem tail_ok {p : Array Nat} (h : Ok n p) (hn : 0 < n) (m k : Nat) : Hold n c (kas_tail3 m k p) fun r => Ok n r.2 :=
  Hold.bind (Hold.mono (fun a _ => h.rev _ _) (asc_ok (h.rev _ _) hn _ _))
theorem descPart_ok {p : Array Nat} (h : Ok n p) (hn : 0 < n) (m k : Nat) : Hold n c (kas_descPart m k p) fun r => Ok n r.2 := by
  refine Hold.bind (Hold.mono (fun r hr => ?_) (desc_ok hn _ _ _ h))
  show Hold n c (if r.2.2 > 0 then _ else _) _
  split
  · exact tail_ok (hr.rev _ _) hn _ _
  · exact tail_ok hr hn _ _
theorem count_ok {p : Array Nat} (h : Ok n p) (hn : 0 < n) (k : Nat) : Hold n c (kas_count k p) fun r => Ok n r.2 := by
  refine Hold.bind (Hold.mono (fun m _ => ?_) (asc_ok h hn _ _))
  show Hold n c (if (m == k) = true then _ else if m > 1 then _ else _) _
  split
  · exact h
  · split
    · refine ⟨h.at hn _, h.at hn _, ?_⟩
      cases c (p.getD 0 0) (p.getD (m - 1) 0)
      · exact descPart_ok (h.rev _ _) hn _ _
      · exact h
    · exact descPart_ok h hn _ _
theorem place_ok {p : Array Nat} (h : Ok n p) (hn : 0 < n) (k : Nat) : ∀ (f l r : Nat), Hold n c (kas_place p k f l r) fun _ => True
  | 0, l, r => trivial
  | f + 1, l, r => by
    show Hold n c (if l ≥ r then _ else _) _
    split
    · trivial
    · refine ⟨h.at hn _, h.at hn _, ?_⟩
      cases c (p.getD k 0) (p.getD ((l + r) / 2) 0)
      · exact place_ok h hn k f _ _
      · exact place_ok h hn k f _ _
theorem bin_ok (hn : 0 < n) : ∀ (f : Nat) {p : Array Nat} (k : Nat), Ok n p → Hold n c (kas_bin f p k) (Ok n)
  | 0, p, k, h => h
  | f + 1, p, k, h => Hold.bind (Hold.mono (fun l _ => bin_ok hn f _ ((bubble_perm _ _ _).trans h)) (place_ok h hn k _ _ _))
theorem sort_ok (hn : 0 < n) : Hold n c (kas_sort n) (Ok n) := by
  refine Hold.bind (Hold.mono (fun r hr => ?_) (count_ok (Array.Perm.refl _) hn n))
  show Hold n c (if r.1 < n then _ else _) _
  split
  · exact bin_ok hn _ _ hr
  · exact hr
theorem Hold.wp {cmp : Nat → Nat → (Bool → Shared → Prop) → Shared → Prop} {α : Type} {R : α → Prop} {Q : α → Shared → Prop} (I : Shared → Prop) (hc : ∀ i j s C, i < n → j < n → I s → (∀ s', I s' → C (c i j) s') → cmp i j C s)
    (hQ : ∀ a s, R a → I s → Q a s) : ∀ {t : KasT α} {s : Shared}, Hold n c t R → I s → t.kasWp cmp Q s
  | .ret a, s, h, hs => hQ a s h hs
  | .ask i j k, s, ⟨h1, h2, h3⟩, hs => hc i j s _ h1 h2 hs fun s' hs' => Hold.wp I hc hQ (t := k (c i j)) h3 hs'
end Mine
end

section
open PySem PySem.W PySem.W.X PyProof.Rows PySem.Spec PySem.Calls
set_option Elab.async false
set_option maxRecDepth 100000
theorem Mine.lu_abs {M : Model} {A : Around} {E : Value → Shared → Prop} {h : Heap} {g : Array GenState} {d : Drawn} {t : Nat} {os : OsState} {a : Addr} {xs : Array Value} {n : Nat} {f : Array Value → Array Value} {Q : Unit → Shared → Prop}
    (ho : h.get? a = some (seqObj "list" xs n)) (h1 : xs.size ≤ 1000) (h2 : (f xs).size ≤ 1000)
    (hq : ∀ h' c, h'.get? a = some (seqObj "list" (f xs) c) → Heap.SameBut a h h' → Q () ⟨h', g, d, t, os⟩) : wpAny M A (Builtin.List.listUpdate (.ref a) f) Q E ⟨h, g, d, t, os⟩ :=
  listUpdate_at ho rfl (hq _ _ (get?_update_seq ho f) (Heap.SameBut.update ..)) (by rw [sizeLine_eq]; lia) (by rw [sizeLine_eq]; lia)
noncomputable def Mine.Insts (h : Heap) (kc : Addr) (vs : List Value) (xs : List Value) : Prop :=
  ∀ (j : Nat) (x : Value), xs[j]? = some x → ∃ (b dx : Addr) (v : Value), x = .ref b ∧ vs[j]? = some v ∧ h.get? b = some (Mine.kObj kc dx #[some v])
theorem Mine.Insts.kp {h h' : Heap} {kc : Addr} {vs xs : List Value} {D : Addr} (x : Mine.Insts h kc vs xs) (hs : Heap.SameBut D h h') (hD : ∃ ys c, h.get? D = some (seqObj "list" ys c)) : Mine.Insts h' kc vs xs := by
  intro j y hy
  obtain ⟨b, dx, v, e1, e2, e3⟩ := x j y hy
  refine ⟨b, dx, v, e1, e2, (hs.2 b ?_).trans e3⟩
  rintro rfl
  obtain ⟨ys, c, e⟩ := hD
  rw [e] at e3; cases e3
theorem Mine.Insts.keeps {h h' : Heap} {kc : Addr} {vs xs : List Value} (x : Mine.Insts h kc vs xs) (k : ∀ b o, h.get? b = some o → h'.get? b = some o) : Mine.Insts h' kc vs xs := by
  intro j y hy
  obtain ⟨b, dx, v, e1, e2, e3⟩ := x j y hy
  exact ⟨b, dx, v, e1, e2, k _ _ e3⟩
structure Mine.SI (h0 : Heap) (kc D kS : Addr) (vs : List Value) (e1 : Nat) (xs : List Value) (h : Heap) : Prop where
  keep : ∀ b o, h0.get? b = some o → h.get? b = some o
  hD : h.get? D = some (seqObj "list" #[] e1)
  hS : ∃ e, h.get? kS = some (seqObj "list" xs.toArray e)
  ins : Mine.Insts h kc vs xs
theorem Mine.SI.keeps {h0 h h' : Heap} {kc D kS : Addr} {vs xs : List Value} {e1 : Nat} (x : Mine.SI h0 kc D kS vs e1 xs h) (k : ∀ b o, h.get? b = some o → h'.get? b = some o) : Mine.SI h0 kc D kS vs e1 xs h' :=
  ⟨fun b o e => k _ _ (x.keep b o e), k _ _ x.hD, x.hS.imp fun e q => k _ _ q, x.ins.keeps k⟩
section
variable {prog : Program} {w : World} {A : Around} {E : Value → Shared → Prop} {h h0 : Heap} {d : Drawn} {t : Nat} {os : OsState} {kc N cl g D kS : Addr} {vs : List Value} {e1 nn : Nat} {og : Obj} {fdg : FuncData} {ans : Nat → Nat → Int} {R : Array Nat → Prop}
structure Mine.SK (prog : Program) (w : World) (os : OsState) (d : Drawn) (h0 : Heap) (kc cl N g nn : Nat) (vs : List Value) (ans : Nat → Nat → Int) : Prop where
  K : Mine.KCls h0 kc cl N
  cell : h0.IsCell cl (some (.ref g))
  fn : ∃ og fdg, h0.get? g = some og ∧ og.data = .func fdg
  nl : h0.NoLimit
  out : ∀ v ∈ vs, handedOut v = pure v
  cmp : ∀ i j v u, vs[i]? = some v → vs[j]? = some u → Mine.MyCmp prog w os d h0 nn g v u (ans i j)
theorem Mine.k_tail {P : PySem.Fin → Shared → Prop} {st : SortSt} {p : Array Nat} {xs : List Value} (S : Mine.SI h0 kc D kS vs e1 xs h) (hDS : D ≠ kS) (h0D : h0.get? D = none) (h0S : h0.get? kS = none) (hl : xs.length = vs.length) (hz : vs.length ≤ 900) (hps : p.size = vs.length)
    (hst : (arrOf st).map (·.2) = (p.toList.map fun i => vs.getD i Value.none).toArray) (hf : failedOf st = none)
    (hq : ∀ h' c, (∀ b o, h0.get? b = some o → h'.get? b = some o) → h'.get? D = some (seqObj "list" (p.toList.map fun i => vs.getD i Value.none).toArray c) → P (.done (.ret .none)) ⟨h', #[], d, t, os⟩) :
    wpAny (model prog w) A (ksk_tail D false e1 (.ref kS) st) P E ⟨h, #[], d, t, os⟩ := by
  obtain ⟨e, hS⟩ := S.hS
  unfold ksk_tail
  dsimp only
  refine wpAny_bind (Mine.lu_abs hS (by rw [List.size_toArray]; lia) (Nat.zero_le _) fun h1 c1 g1 s1 => ?_)
  refine wpAny_bind (wpAny_letGo ?_)
  have hD1 : h1.get? D = some (seqObj "list" #[] e1) := (s1.2 D hDS).trans S.hD
  refine wpAny_bind (seqEpoch_at hD1 rfl ?_)
  refine wpAny_bind (Mine.lu_abs hD1 (Nat.zero_le _) ?_ fun h2 c2 g2 s2 => ?_)
  · rw [if_neg (by decide), hst, List.size_toArray, List.length_map, Array.length_toList, hps]; lia
  rw [hf]
  rw [if_neg (by decide), hst] at g2
  simp only [bne_self_eq_false, Bool.false_eq_true, if_false]
  refine wpAny_pure (hq h2 c2 (fun b o q => ?_) g2)
  have n1 : b ≠ D := fun z => by rw [z, h0D] at q; cases q
  have n2 : b ≠ kS := fun z => by rw [z, h0S] at q; cases q
  exact (s2.2 b n1).trans ((s1.2 b n2).trans (S.keep b o q))
theorem Mine.MyCmp.mono {h h' : Heap} {n : Nat} {g : Addr} {v u : Value} {i : Int} (x : Mine.MyCmp prog w os d h n g v u i) (k : ∀ b o, h.get? b = some o → h'.get? b = some o) : Mine.MyCmp prog w os d h' n g v u i :=
  fun A h1 tk Q E r k1 q => x A h1 tk Q E r (fun b o e => k1 _ _ (k _ _ e)) q
theorem Mine.item_at {xs vs : List Value} (hl : xs.length = vs.length) {i : Nat} (hi : i < vs.length) : kas_item (xs.toArray.zip vs.toArray) i = (xs[i]'(by lia), vs[i]) := by
  unfold kas_item
  have hz : (xs.toArray.zip vs.toArray).size = vs.length := by simp [hl]
  simp [Array.getD, hz, hi, hl]
theorem Mine.k_end {P : PySem.Fin → Shared → Prop} {xs : List Value} (K : Mine.SK prog w os d h0 kc cl N g nn vs ans) (S : Mine.SI h0 kc D kS vs e1 xs h) (hDS : D ≠ kS) (h0D : h0.get? D = none) (h0S : h0.get? kS = none) (hl : xs.length = vs.length) (hz : vs.length ≤ 60)
    (hR : Mine.Room A (nn + 1)) (hA2 : A.depth ≤ 780) (hA3 : A.units + 15 ≤ 5000) (hH : 2 ≤ vs.length → Mine.Hold vs.length (fun i j => decide (ans i j < 0)) (kas_sort vs.length) R) (hR1 : vs.length < 2 → R (List.toArray (List.range vs.length)))
    (hRs : ∀ p, R p → p.size = vs.length)
    (hq : ∀ p h' tk c, R p → (∀ b o, h0.get? b = some o → h'.get? b = some o) → h'.get? D = some (seqObj "list" (p.toList.map fun i => vs.getD i Value.none).toArray c) → P (.done (.ret .none)) ⟨h', #[], d, tk, os⟩) :
    wpAny (model prog w) A (ksk_end D false vs.toArray e1 (.ref kS) xs.toArray) P E ⟨h, #[], d, t, os⟩ := by
  have hzs : (xs.toArray.zip vs.toArray).size = vs.length := by simp [hl]
  unfold ksk_end
  dsimp only
  rw [if_neg (by decide)]
  by_cases h2 : vs.toArray.size < 2
  · rw [if_pos h2, if_pos h2]
    refine wpAny_bind (wpAny_pure ?_)
    rw [StateT.run_pure]
    refine wpAny_bind (wpAny_pure ?_)
    dsimp only
    rw [List.size_toArray] at h2
    refine Mine.k_tail S hDS h0D h0S hl (by lia) (p := List.toArray (List.range vs.length)) (by simp) ?_ rfl fun h' c k g => hq _ h' _ c (hR1 h2) k g
    show ((xs.toArray.zip vs.toArray).map (·.2)) = _
    apply Array.toList_inj.mp
    apply List.ext_getElem
    · simp [hl]
    · intro i q1 q2
      simp at q1 q2
      simp [q2]
  · rw [if_neg h2, if_neg h2]
    rw [List.size_toArray] at h2
    refine wpAny_bind (kas_kind (T := .ref kc) (by lia) (fun v hv => ?_) (by rfl) (by simp) ?_)
    · obtain ⟨j, hj, rfl⟩ := List.getElem_of_mem hv
      obtain ⟨b, dx, v, q1, q2, q3⟩ := S.ins j _ (List.getElem?_eq_getElem hj)
      rw [q1]
      exact fun A' Q' E' s' hk hq' => wpAny_typeOf_ref (hk _ _ q3) hq'
    have est : SortSt.mk' oneType' (xs.toArray.zip vs.toArray) #[] 7 none = kas_st oneType' (xs.toArray.zip vs.toArray) (List.toArray (List.range vs.length)) := by
      have e := kas_range (xs.toArray.zip vs.toArray)
      rw [hzs] at e
      show _ = SortSt.mk' oneType' ((List.toArray (List.range vs.length)).map (kas_item (xs.toArray.zip vs.toArray))) #[] 7 none
      rw [e]
    rw [if_neg (by decide), est]
    have ask : (kas_sort vs.length).kasWp (kas_cmp prog w A oneType' (xs.toArray.zip vs.toArray)) (fun p s' => R p ∧ ∃ h' tk, s' = ⟨h', #[], d, tk, os⟩ ∧ Mine.SI h0 kc D kS vs e1 xs h') ⟨h, #[], d, t, os⟩ := by
      refine Mine.Hold.wp (n := vs.length) (c := fun i j => decide (ans i j < 0)) (R := R) (fun s' => ∃ h' tk, s' = ⟨h', #[], d, tk, os⟩ ∧ Mine.SI h0 kc D kS vs e1 xs h') ?_ (fun p s' r q => ⟨r, q⟩) (hH (by lia)) ⟨h, t, rfl, S⟩
      rintro i j s' C hi hj ⟨h', tk, rfl, S'⟩ hC
      unfold kas_cmp
      rw [Mine.item_at hl hi, Mine.item_at hl hj]
      obtain ⟨b1, dx1, v1, q1, q2, q3⟩ := S'.ins i _ (List.getElem?_eq_getElem (by lia))
      obtain ⟨b2, dx2, v2, r1, r2, r3⟩ := S'.ins j _ (List.getElem?_eq_getElem (by lia))
      obtain ⟨og, fdg, f1, f2⟩ := K.fn
      obtain ⟨oc, c1, c2⟩ := K.cell
      dsimp only
      rw [q1, r1]
      exact Mine.k_lt (K.K.keeps S'.keep) ⟨oc, S'.keep _ _ c1, c2⟩ (S'.keep _ _ f1) f2 q3 r3 (K.out _ (List.mem_of_getElem? q2)) (K.out _ (List.mem_of_getElem? r2)) (K.nl.keeps S'.keep) hR hA2 hA3 ((K.cmp i j v1 v2 q2 r2).mono S'.keep)
        fun h3 tk3 k3 => hC _ ⟨h3, tk3, rfl, S'.keeps k3⟩
    have run := kas_runs (E := E) (Q := fun _ st' s' => ∃ p : Array Nat, p.size = vs.length ∧ arrOf st' = p.map (kas_item (xs.toArray.zip vs.toArray)) ∧ failedOf st' = none ∧ R p ∧ ∃ h' tk, s' = ⟨h', #[], d, tk, os⟩ ∧ Mine.SI h0 kc D kS vs e1 xs h')
      (by lia) (by lia) (fun p' st' s' a1 a2 a3 a4 => ⟨p', a1, a2, a3, a4.1, a4.2⟩) ask
    refine wpAny_bind (wpAny_mono run ?_ fun _ _ e => e)
    rintro ⟨⟨⟩, st'⟩ s' ⟨p, hp, har, hf, hRp, h', tk, rfl, S'⟩
    dsimp only
    refine Mine.k_tail S' hDS h0D h0S hl (by lia) (p := p) hp ?_ hf fun h3 c k g => hq p h3 _ c hRp k g
    apply Array.toList_inj.mp
    rw [har, Array.map_map, Array.toList_map]
    refine List.map_congr_left fun i _ => ?_
    show (kas_item (xs.toArray.zip vs.toArray) i).2 = _
    by_cases hi : i < vs.length
    · rw [Mine.item_at hl hi]
      simp [hi]
    · have : ¬ i < (xs.toArray.zip vs.toArray).size := by rw [hzs]; exact hi
      simp only [kas_item, Array.getD, this, dif_neg, not_false_iff]
      simp [List.getElem?_eq_none (Nat.le_of_not_lt hi)]
theorem Mine.k_rest {P : PySem.Fin → Shared → Prop} (K : Mine.SK prog w os d h0 kc cl N g nn vs ans) (S : Mine.SI h0 kc D kS vs e1 [] h) (hDS : D ≠ kS) (h0D : h0.get? D = none) (h0S : h0.get? kS = none) (hz : vs.length ≤ 60)
    (hR : Mine.Room A (nn + 1)) (hA2 : A.depth ≤ 780) (hA3 : A.units + 15 ≤ 5000) (hH : 2 ≤ vs.length → Mine.Hold vs.length (fun i j => decide (ans i j < 0)) (kas_sort vs.length) R) (hR1 : vs.length < 2 → R (List.toArray (List.range vs.length)))
    (hRs : ∀ p, R p → p.size = vs.length)
    (hq : ∀ p h' tk c, R p → (∀ b o, h0.get? b = some o → h'.get? b = some o) → h'.get? D = some (seqObj "list" (p.toList.map fun i => vs.getD i Value.none).toArray c) → P (.done (.ret .none)) ⟨h', #[], d, tk, os⟩) :
    wpAny (model prog w) A (ksk_rest D (.ref kc) false vs.toArray e1 (.ref kS)) P E ⟨h, #[], d, t, os⟩ := by
  unfold ksk_rest
  refine wpAny_bind (wpAny_rule ?_)
  first
    | rw [List.forIn_toArray]
    | (rw [← Array.forIn_toList]; simp only [List.toList_toArray])
    | rw [← Array.forIn_toList]
  refine wpAny_bind (ksk_fold (fun i s' => ∃ h' tk xs, s' = ⟨h', #[], d, tk, os⟩ ∧ xs.length = i ∧ Mine.SI h0 kc D kS vs e1 xs h') vs 0 _ ⟨h, t, [], rfl, rfl, S⟩ ?step ?done)
  case step =>
    rintro j v s' hv ⟨h', tk, xs, rfl, hl, S'⟩
    have hj : j < vs.length := (List.getElem?_eq_some_iff.mp hv).1
    refine wpAny_bind (wpAny_attempt (Mine.k_make (K.K.keeps S'.keep) (K.nl.keeps S'.keep) (by lia) fun x dx h2 tk2 k2 nx hx => ?_))
    have S2 := S'.keeps k2
    obtain ⟨e, hS⟩ := S2.hS
    dsimp only
    refine wpAny_bind (Mine.lu_abs hS (by rw [List.size_toArray]; lia) (by rw [Array.size_push, List.size_toArray]; lia) fun h3 c3 g3 s3 => ?_)
    refine wpAny_pure ⟨rfl, h3, _, xs ++ [.ref x], rfl, by rw [List.length_append, hl]; simp, ?_, (s3.2 D hDS).trans S2.hD, ⟨c3, ?_⟩, ?_⟩
    · intro b o q
      have n2 : b ≠ kS := fun z => by rw [z, h0S] at q; cases q
      exact (s3.2 b n2).trans (S2.keep b o q)
    · rw [g3]; simp
    · have I3 := S2.ins.kp s3 ⟨_, _, hS⟩
      intro i y hy
      rcases Nat.lt_or_ge i xs.length with hi | hi
      · rw [List.getElem?_append_left hi] at hy
        exact I3 i y hy
      · rw [List.getElem?_append_right hi] at hy
        have hi0 : i - xs.length = 0 := by
          cases q : i - xs.length with
          | zero => rfl
          | succ n => rw [q] at hy; simp at hy
        rw [hi0] at hy
        simp only [List.getElem?_cons_zero, Option.some.injEq] at hy
        subst hy
        have hij : i = j := by lia
        subst hij
        refine ⟨x, dx, v, rfl, hv, (s3.2 x ?_).trans hx⟩
        rintro rfl
        obtain ⟨e', he'⟩ := S'.hS
        rw [he'] at nx; cases nx
  case done =>
    rintro s' ⟨h', tk, xs, rfl, hl, S'⟩
    obtain ⟨e, hS⟩ := S'.hS
    refine wpAny_bind (listItems_at hS rfl ?_)
    exact Mine.k_end K S' hDS h0D h0S (by lia) hz hR hA2 hA3 hH hR1 hRs hq
theorem Mine.k_tree {P : PySem.Fin → Shared → Prop} {n0 : Nat} (K : Mine.SK prog w os d h0 kc cl N g nn vs ans) (keep : ∀ b o, h0.get? b = some o → h.get? b = some o) (hD : h.get? D = some (seqObj "list" vs.toArray n0)) (h0D : h0.get? D = none) (hz : vs.length ≤ 60)
    (hR : Mine.Room A (nn + 1)) (hA2 : A.depth ≤ 780) (hA3 : A.units + 15 ≤ 5000) (hH : 2 ≤ vs.length → Mine.Hold vs.length (fun i j => decide (ans i j < 0)) (kas_sort vs.length) R) (hR1 : vs.length < 2 → R (List.toArray (List.range vs.length)))
    (hRs : ∀ p, R p → p.size = vs.length)
    (hq : ∀ p h' tk c, R p → (∀ b o, h0.get? b = some o → h'.get? b = some o) → h'.get? D = some (seqObj "list" (p.toList.map fun i => vs.getD i Value.none).toArray c) → P (.done (.ret .none)) ⟨h', #[], d, tk, os⟩) :
    wpAny (model prog w) A (ksk_tree D (.ref kc) false) P E ⟨h, #[], d, t, os⟩ := by
  unfold ksk_tree
  refine wpAny_bind (listItems_at hD rfl ?_)
  refine wpAny_bind (Mine.lu_abs hD (by rw [List.size_toArray]; lia) (Nat.zero_le _) fun h1 e1 g1 s1 => ?_)
  refine wpAny_bind (seqEpoch_at g1 rfl ?_)
  refine wpAny_bind (m := newTuple _) (Mine.newObj_abs (show sizeOk (Data.seq _) by show vs.toArray.toList.toArray.size ≤ _; rw [sizeLine_eq]; simp; lia) rfl fun tA h2 g2 k2 n2 => ?_)
  refine wpAny_bind (m := newList _) (Mine.newObj_abs (show sizeOk (Data.seq _) by show (0 : Nat) ≤ _; lia) rfl fun kS h3 g3 k3 n3 => ?_)
  refine wpAny_holding ?_
  have k13 : ∀ b o, h1.get? b = some o → h3.get? b = some o := fun b o e => k3 _ _ (k2 _ _ e)
  have hDS : D ≠ kS := Mine.ne_of_new ⟨_, k2 _ _ g1⟩ n3
  have kp : ∀ b o, h0.get? b = some o → h3.get? b = some o := fun b o e => by
    have n1 : b ≠ D := fun z => by rw [z, h0D] at e; cases e
    exact k13 _ _ ((s1.2 b n1).trans (keep b o e))
  have h0S : h0.get? kS = none := by
    cases q : h0.get? kS with
    | none => rfl
    | some o =>
      have n1 : kS ≠ D := hDS.symm
      have := k2 _ _ ((s1.2 kS n1).trans (keep _ _ q))
      rw [this] at n3; cases n3
  exact Mine.k_rest K ⟨kp, k13 _ _ g1, ⟨_, g3⟩, fun j x hx => by simp at hx⟩ hDS h0D h0S hz hR hA2 hA3 hH hR1 hRs hq
theorem Mine.k_sorted {Q : Value → Shared → Prop} {l : Addr} (K : Mine.SK prog w os d h kc cl N g nn vs ans) (hl : h.IsList l vs.toArray) (hz : vs.length ≤ 60)
    (hR : Mine.Room A.in1.in1 (nn + 1)) (hA2 : A.depth ≤ 780) (hA3 : A.units + 17 ≤ 5000) (hH : 2 ≤ vs.length → Mine.Hold vs.length (fun i j => decide (ans i j < 0)) (kas_sort vs.length) R) (hR1 : vs.length < 2 → R (List.toArray (List.range vs.length)))
    (hRs : ∀ p, R p → p.size = vs.length)
    (hq : ∀ D p h' tk c, R p → (∀ b o, h.get? b = some o → h'.get? b = some o) → h.get? D = none → h'.get? D = some (seqObj "list" (p.toList.map fun i => vs.getD i Value.none).toArray c) → Q (.ref D) ⟨h', #[], d, tk, os⟩) :
    wpAny (model prog w) A (call (.builtin "sorted") [.ref l] [("key", .ref kc)]) Q E ⟨h, #[], d, t, os⟩ := by
  refine call_function_entry_kw kind_sorted plain_sorted entry_sorted (ksk_s1 _ _) ?_
  unfold Builtin.«sorted»
  refine wpAny_bind (m := checkCount "sorted" 1 1 _) (wpAny_pure ?_)
  refine wpAny_bind (collect_list hl ?_ (by rw [sizeLine_eq]; lia))
  have keep : ∀ b o, h.get? b = some o → ((h.push (seqObj "list" #[] 0)).update h.objs.size (Obj.mapSeq (· ++ vs.toArray))).get? b = some o := fun b o q => by
    have hlt : b < h.objs.size := Heap.lt_size q
    rw [Heap.get?_update_ne _ _ _ _ (Nat.ne_of_lt hlt), Heap.get?_push_ne _ _ _ (Nat.ne_of_lt hlt)]
    exact q
  generalize ((h.push (seqObj "list" #[] 0)).update h.objs.size (Obj.mapSeq (· ++ vs.toArray))) = h1 at keep ⊢
  refine wpAny_bind (m := newList _) (Mine.newObj_abs (show sizeOk (Data.seq _) by show vs.toArray.size ≤ _; rw [sizeLine_eq]; simp; lia) rfl fun D h2 g2 k2 n2 => ?_)
  have h0D : h.get? D = none := Mine.get_none keep n2
  refine wpAny_bind (wpAny_holding (wpAny_call_entry_kw slot_list_sort ⟨_, g2, rfl⟩ entry_list_sort ?body (ksk_l1 _ _)))
  case body =>
    show wpAny (model prog w) A.in1.in1 (Builtin.«list.sort» ⟨[.ref D], [(Str.ofString "key", .ref kc)]⟩) _ _ _
    rw [ksk_t1]
    refine Mine.k_tree (D := D) K (fun b o e => k2 _ _ (keep b o e)) g2 h0D hz hR hA2 (by show A.units + 1 + 1 + 15 ≤ 5000; lia) hH hR1 hRs fun p h' tk c r k g => ⟨_, rfl, ?_⟩
    exact wpAny_pure ⟨_, rfl, hq D p h' tk c r k h0D g⟩
end
end

section
set_option Elab.async false
set_option linter.unusedVariables false
set_option linter.unusedSimpArgs false
set_option maxRecDepth 100000
namespace Mine
open PySem PySem.W PyProof.Rows PySem.Calls
section
variable {G : Gx} {n : Nat} {P : Pred} {f : Addr} {fd : FuncData} {e : Expr} {ns : List Str} {ds : List D} {pas : Mu} {R : D → Mu → Prop}
structure LamOk (fd : FuncData) (e : Expr) (ns : List Str) (k : Nat) : Prop where
  body : fd.body = .expr e
  bind : ∀ (vs : List Value), vs.length = k → bindArgs fd ⟨vs, []⟩ = pure (ns.zip vs)
  nd : ns.Nodup
  kind : fd.scope.kind = .function
  co : fd.scope.isCoroutine = false
  gen : fd.scope.isGenerator = false
  gl : fd.globals = mainGlobals
  bu : fd.builtins = builtinsNs
noncomputable def RoL (ro : Mu) : Pred := fun K F => ∀ p ∈ ro, ∃ o ds vs, p.2 = .list ds ∧ K p.1 = some o ∧ LstO o vs ∧ RepL F vs ds
theorem RoL.mon {ro : Mu} : (RoL ro).Mon := fun K K' F F' h gK gF p hp => let ⟨o, ds, vs, h1, h2, h3, h4⟩ := h p hp; ⟨o, ds, vs, h1, gK _ _ h2, h3, h4.mono gF⟩
noncomputable abbrev lamCx (G : Gx) (A : Around) (fd : FuncData) (f L : Addr) (n : Nat) (P : Pred) (ro : Mu) : Cx := { fnCx G A fd f L n P with ro := ro }
theorem call_lam (hmon : P.Mon) (ok : LamOk fd e ns ds.length) (hf : ∀ K F, Fle G.hb.get? F → P K F → FnF F f fd) (hcell : ∀ x ∈ fd.scope.names, x.2 ≠ .cell) (hloc : ∀ x ∈ ns, fd.scope.names.lookup x = some .local) (cv : List (Str × D))
    (hcv : ∀ K F, P K F → (∀ x ∈ fd.closure, ∃ o v, K x.2 = some o ∧ o.data = .cell v) ∧ ∀ x d, cv.lookup x = some d → ∃ c o v, fd.scope.names.lookup x = some .free ∧ fd.closure.lookup x = some c ∧ K c = some o ∧ o.data = .cell (some v) ∧ Rep F v d)
    (hpw : fd.closure.Pairwise fun x y => x.2 ≠ y.2) (ro : Mu) (hro : ∀ K F, P K F → RoL ro K F)
    (hb : ∀ A L, Room A (n + 1) → EvX (lamCx G A fd f L n P ro) { vars := ns.zip ds ++ cv, mu := pas } e R) : CallSem G (n + 1) P f pas ds R := by
  refine ⟨fun K F hbs hp => ?_, fun A K F s vs Q E hr hp X r hQ => ?_⟩
  · obtain ⟨⟨o, h1, h2⟩, _⟩ := hf K F hbs hp
    exact ⟨fd, o, h1, h2⟩
  · obtain ⟨⟨o, h1, h2⟩, c, oc, cvs, t, h3, h4, h5, h6⟩ := hf K F X.base hp
    have hl := r.length
    refine wpAny_call (kla_callFunE (prog := G.prog) (w := G.w) (by have := hr.dp; lia) (X.frz _ _ h1) h2 ok.co ok.gen ok.body ⟨c, oc, cvs, t, h3, X.frz _ _ h4, h5, h6⟩ ?_)
    rw [ok.bind vs hl]
    refine wpAny_pure (wpAny_newFunctionEnv hcell (fun x hx => hloc _ (by obtain ⟨a, b⟩ := x; exact (List.of_mem_zip hx).1)) (fun h₀ hns hsb => ⟨X.nl.fresh _ hsb, ?_⟩) ok.kind)
    have hk : ∀ b o, s.heap.get? b = some o → h₀.get? b = some o := fun b o e => hsb.extBut b o (Nat.ne_of_lt (Heap.lt_size e)) (Heap.get?_push_of_some _ e)
    have ns0 := hns
    have freshL : ∀ o, s.heap.get? s.heap.objs.size ≠ some o := fun o e => Nat.lt_irrefl _ (Heap.lt_size e)
    obtain ⟨hc1, hc2⟩ := hcv K F hp
    refine kla_codeExpr (hb A s.heap.objs.size hr K F _ (fun v s' => match (Except.ok (Flow.ret v) : Result) with | .ok (.ret v) => Q v s' | .ok _ => False | .error e => E e s') _ ?_ fun F' v s' d mu hR X' g r' => hQ F' v s' d mu hR X'.am g r')
    refine ⟨⟨ok.kind, ok.gl, ok.bu, hr.deeper, .head _, hpw, fun x hx e => ?_, hmon⟩, (X.grow (t := s.toks + (ns.zip vs).length) hk (Fle.refl _) (fun _ _ e => .inl e) fun a o e => hk _ _ (X.frz _ _ e)), fun a ha => ?_, fun x hx => ?_, ⟨_, ns0, fun x d e => ?_⟩, fun p hp ha => ?_, (fun p hq => ?_), hp⟩
    · obtain ⟨o', v', q1, q2⟩ := hc1 x hx
      have e' : x.2 = s.heap.objs.size := e
      exact freshL _ (e' ▸ X.keep _ _ q1)
    · obtain rfl : a = s.heap.objs.size := by simpa [lamCx, fnCx] using ha
      obtain ⟨oL, es, ep, eL, _⟩ := ns0
      exact ⟨X.fresh, X.freshK, oL, eL⟩
    · obtain ⟨o', v', q1, q2⟩ := hc1 x hx
      exact ⟨⟨v', o', hk _ _ (X.keep _ _ q1), q2⟩, .inr ⟨o', q1⟩⟩
    · have : ∀ {l r : List (Str × D)}, (l ++ r).lookup x = some d → l.lookup x = some d ∨ (l.lookup x = none ∧ r.lookup x = some d) := fun {l r} h => by
        induction l with
        | nil => exact .inr ⟨rfl, h⟩
        | cons a l ih =>
          rw [List.cons_append, List.lookup_cons] at h
          rw [List.lookup_cons]
          cases hb : x == a.1 with
          | true => rw [hb] at h; exact .inl h
          | false => rw [hb] at h; exact ih h
      rcases this e with e | ⟨_, e⟩
      · obtain ⟨v, q1, q2⟩ := lookup_zip r e
        refine ⟨v, ?_, q2⟩
        unfold VarAt
        rw [show (lamCx G A fd f s.heap.objs.size n P ro).env.kindOf x = some .local from hloc x (List.of_mem_zip q1).1]
        exact lookup_rev ok.nd q1
      · obtain ⟨c', o', v, q1, q2, q3, q4, q5⟩ := hc2 x d e
        refine ⟨v, ?_, q5⟩
        unfold VarAt
        rw [show (lamCx G A fd f s.heap.objs.size n P ro).env.kindOf x = some .free from q1]
        exact ⟨c', q2, o', hk _ _ (X.keep _ _ q3), q4⟩
    · obtain ⟨o', ho'⟩ := (X.mus p hp).1.some
      have : p.1 = s.heap.objs.size := by simpa [lamCx, fnCx] using ha
      rw [this] at ho'
      exact freshL _ ho'
    · obtain ⟨o, ds, vs, h1, h2, h3, h4⟩ := hro _ _ hp p hq
      refine ⟨?_, o, h2⟩
      rw [h1]
      exact ⟨o, vs, hk _ _ (X.keep _ _ h2), h3, h4⟩
theorem CallSem.mycmp {g : Addr} {v u : Value} {d1 d2 : D} {i : Int} {F : Fz} {s : Shared} {K : Fz} {mu : Mu} (hm : P.Mon) (hc : CallSem G n P g [] [d1, d2] (Pure (.int i))) (X : Am G K mu F s) (hP : P (full F s.heap []) F) (h1 : Rep F v d1) (h2 : Rep F u d2) (hg : G.s0.gens = #[]) :
    MyCmp G.prog G.w s.os s.drawn s.heap n g v u i := by
  intro A h3 tk Q E hr hk hQ
  have X0 : Am G (full F s.heap []) [] F s := X.leave (pas := []) (oth := mu) rfl
  have X1 : Am G (full F s.heap []) [] F ⟨h3, #[], s.drawn, tk, s.os⟩ := by
    have := X0.grow (F' := F) (h' := h3) (t := tk) hk (Fle.refl _) (fun _ _ e => .inl e) fun a o e => hk _ _ (X.frz _ _ e)
    rw [show s.gens = #[] from X.gens.trans hg] at this
    exact this
  have X2 : Am G (full F h3 []) [] F ⟨h3, #[], s.drawn, tk, s.os⟩ := X1.leave (pas := []) (oth := []) rfl
  have hP2 : P (full F h3 []) F := hm _ _ _ _ hP (fun a o e => by
    obtain ⟨q1, q2, q3⟩ := full_some e
    exact full_of q1 q2 (hk _ _ q3)) (Fle.refl _)
  refine hc.sem A _ F _ [v, u] Q E hr hP2 X2 (.cons h1 (.cons h2 .nil)) fun F' v' s' d mu hR X3 gF r => ?_
  obtain ⟨rfl, rfl⟩ := hR
  obtain ⟨t, rfl⟩ := r.int_inv
  obtain ⟨h4, g4, d4, t4, o4⟩ := s'
  have e1 : g4 = #[] := X3.gens.trans hg
  have e2 : d4 = s.drawn := X3.drawn.trans X.drawn.symm
  have e3 : o4 = s.os := X3.os.trans X.os.symm
  subst e1 e2 e3
  refine hQ h4 t4 t fun b o e => ?_
  cases q : F b with
  | some ob =>
    have : h3.get? b = some ob := X2.frz _ _ q
    rw [this] at e; cases e
    exact X3.frz _ _ (gF _ _ q)
  | none => exact X3.keep _ _ (full_of q (by simp) e)
end
end Mine
end

section
set_option Elab.async false
set_option linter.unusedVariables false
set_option linter.unusedSimpArgs false
set_option maxRecDepth 100000
namespace Mine
open PySem PySem.W PyProof.Rows PySem.Calls
theorem Rep.out {F : Fz} {v : Value} {d : D} (h : Rep F v d) : handedOut v = pure v := by
  cases h <;> rfl
noncomputable def permL (ds : List D) (p : Array Nat) : List D := p.toList.map fun i => ds.getD i .none
theorem RepL.perm {F : Fz} {vs : List Value} {ds : List D} (r : RepL F vs ds) : ∀ (l : List Nat), RepL F (l.map fun i => vs.getD i .none) (l.map fun i => ds.getD i .none)
  | [] => .nil
  | i :: l => .cons (by
      by_cases hi : i < ds.length
      · obtain ⟨v, h1, h2⟩ := r.get (List.getElem?_eq_getElem hi)
        simp only [List.getD_eq_getElem?_getD, h1, List.getElem?_eq_getElem hi, Option.getD_some]
        exact h2
      · have h1 := r.length
        have e1 : ds[i]? = none := List.getElem?_eq_none (Nat.le_of_not_lt hi)
        have e2 : vs[i]? = none := List.getElem?_eq_none (by lia)
        simp only [List.getD_eq_getElem?_getD, e1, e2, Option.getD_none]
        exact .none) (RepL.perm r l)
end Mine
end

section
set_option Elab.async false
set_option linter.unusedVariables false
set_option linter.unusedSimpArgs false
set_option maxRecDepth 100000
namespace Mine
open PySem PySem.W PyProof.Rows PySem.Calls
theorem Mo.turnAll {C : Cx} {K F F' : Fz} {σ : St} {s : Shared} {h' : Heap} {ch ch' rest : Mu} {t : Nat} (X : Mo C K σ F s) (hσ : σ.mu = ch ++ rest) (hk : ∀ b o, b ∉ ch.map (·.1) → s.heap.get? b = some o → h'.get? b = some o) (hF : Fle F F')
    (hn : ∀ b o, F' b = some o → F b = some o ∨ s.heap.get? b = none) (hf : ∀ b o, F' b = some o → h'.get? b = some o) (hc : ∀ p ∈ ch', p.2.At F' h' p.1 ∧ F' p.1 = none ∧ (p.1 ∈ ch.map (·.1) ∨ s.heap.get? p.1 = none)) (nd' : (ch'.map (·.1)).Nodup) :
    Mo C K (σ.setMu (ch' ++ rest)) F' { s with heap := h', toks := t } := by
  have A := X.am
  rw [hσ] at A
  have nd := A.nd
  rw [List.map_append, List.nodup_append] at nd
  obtain ⟨nd1, nd2, nd3⟩ := nd
  have Fn : ∀ b o, s.heap.get? b = some o → F b = none → F' b = none := fun b o e f => by
    cases q : F' b with
    | none => rfl
    | some o' =>
      rcases hn b o' q with h | h
      · rw [f] at h; cases h
      · rw [e] at h; cases h
  have hch : ∀ b, b ∈ ch.map (·.1) → K b = none ∧ b ∉ C.priv := fun b hb => by
    obtain ⟨p, hp, rfl⟩ := List.mem_map.mp hb
    exact ⟨(A.mus p (List.mem_append_left _ hp)).2.2, X.pmu p (by rw [hσ]; exact List.mem_append_left _ hp)⟩
  have hK : ∀ b o, K b = some o → h'.get? b = some o := fun b o e => hk b o (fun q => by rw [(hch b q).1] at e; cases e) (X.am.keep _ _ e)
  refine X.with ⟨X.am.ok, fun a o e => hF _ _ (X.am.base _ _ e), hf, fun a o e => Fn _ _ (X.am.keep _ _ e) (X.am.dis _ _ e), hK, fun p hp => ?_, ?_, X.am.gens, X.am.drawn, X.am.os⟩ (fun b hb => ?_) hF fun p hp hq => ?_
  · rcases List.mem_append.mp hp with hp | hp
    · obtain ⟨h1, h2, h3⟩ := hc p hp
      refine ⟨h1, h2, ?_⟩
      rcases h3 with h3 | h3
      · exact (hch _ h3).1
      · cases q : K p.1 with
        | none => rfl
        | some o => rw [X.am.keep _ _ q] at h3; cases h3
    · obtain ⟨h1, h2, h3⟩ := A.mus p (List.mem_append_right _ hp)
      obtain ⟨o, ho⟩ := h1.some
      have hnc : p.1 ∉ ch.map (·.1) := fun q => nd3 _ q _ (List.mem_map_of_mem hp) rfl
      exact ⟨h1.mono hF fun o e => hk _ _ hnc e, Fn _ _ ho h2, h3⟩
  · rw [List.map_append, List.nodup_append]
    refine ⟨nd', nd2, fun a ha b hb e => ?_⟩
    subst e
    obtain ⟨p, hp, rfl⟩ := List.mem_map.mp ha
    rcases (hc p hp).2.2 with q | q
    · exact nd3 _ q _ hb rfl
    · obtain ⟨r, hr, e⟩ := List.mem_map.mp hb
      obtain ⟨o, ho⟩ := (A.mus r (List.mem_append_right _ hr)).1.some
      rw [e, q] at ho; cases ho
  · obtain ⟨h1, h2, o, ho⟩ := X.priv b hb
    exact ⟨Fn _ _ ho h1, (hk b o (fun q => (hch b q).2 hb) ho).trans ho.symm⟩
  · rcases List.mem_append.mp hp with hp | hp
    · rcases (hc p hp).2.2 with q | q
      · exact (hch _ q).2 hq
      · obtain ⟨_, _, o, ho⟩ := X.priv _ hq
        rw [ho] at q; cases q
    · exact X.pmu p (by rw [hσ]; exact List.mem_append_right _ hp) hq
noncomputable def Fz.news (F : Fz) (h h' : Heap) (ex : Addr → Prop) [DecidablePred ex] : Fz := fun b => if (F b).isSome then F b else if (h.get? b).isNone ∧ ¬ ex b then h'.get? b else none
section
variable {F : Fz} {h h' : Heap} {ex : Addr → Prop} [DecidablePred ex]
theorem Fz.news_le : Fle F (F.news h h' ex) := fun a o e => by unfold Fz.news; rw [e]; rfl
theorem Fz.news_new {a : Addr} {o : Obj} (e : F.news h h' ex a = some o) : F a = some o ∨ h.get? a = none := by
  unfold Fz.news at e
  split at e
  · exact .inl e
  · split at e
    · rename_i q; exact .inr (by simpa using q.1)
    · cases e
theorem Fz.news_at {a : Addr} {o : Obj} (hF : ∀ b o, F b = some o → h'.get? b = some o) (e : F.news h h' ex a = some o) : h'.get? a = some o := by
  unfold Fz.news at e
  split at e
  · exact hF _ _ e
  · split at e
    · exact e
    · cases e
theorem Fz.news_of {a : Addr} {o : Obj} (hF : ∀ b o, F b = some o → h'.get? b = some o) (e : h'.get? a = some o) (hn : (h.get? a = none ∧ ¬ ex a) ∨ ∃ o, F a = some o) : F.news h h' ex a = some o := by
  unfold Fz.news
  split
  · rename_i q
    obtain ⟨o', e'⟩ := Option.isSome_iff_exists.mp q
    rw [hF _ _ e'] at e; cases e; exact e'
  · rename_i q
    rcases hn with ⟨n1, n2⟩ | ⟨o', n⟩
    · rw [if_pos ⟨by rw [n1]; rfl, n2⟩]; exact e
    · rw [n] at q; exact absurd rfl q
theorem Fz.news_none {a : Addr} (hF : F a = none) (hx : ex a ∨ ∃ o, h.get? a = some o) : F.news h h' ex a = none := by
  unfold Fz.news
  rw [hF, if_neg (by simp)]
  rw [if_neg]
  rintro ⟨q1, q2⟩
  rcases hx with hx | ⟨o, hx⟩
  · exact q2 hx
  · rw [hx] at q1; cases q1
end
noncomputable def FRec (F : Fz) (v : Value) (q : Str) : Prop := ∃ c o vs t, v = .ref c ∧ F c = some o ∧ o.data = .fields vs ∧ vs[1]? = some (.str q t)
noncomputable def FHd (F : Fz) (c P : Addr) : Prop := ∃ o vs file tf flags tg inF text tt, F c = some o ∧ o.cls = .type "code" ∧ o.data = .fields vs ∧ vs[11]? = some (.ref P) ∧ vs.getD 11 .none = .ref P ∧ vs.getD 18 .none = .str file tf ∧
    vs.getD 7 .none = .int flags tg ∧ vs.getD 9 .none = .bool inF ∧ vs.getD 10 .none = .int text tt ∧ c ≠ P
noncomputable def TabQ (qf : Nat → Str) : MO := .fobj fun F o => ∃ ps, o = tabObj ps ∧ TriplesOk ps.toList ∧ ∀ pos v, codeAmong pos ps.toList = some v → FRec F v (qf pos.line)
noncomputable def TabP : Option (Addr × Addr) → MO
  | none => .fobj fun _ o => ∃ ps, o = tabObj ps ∧ TriplesOk ps.toList ∧ codeAmong kPos ps.toList = none
  | some q => .fobj fun F o => ∃ ps, o = tabObj ps ∧ TriplesOk ps.toList ∧ codeAmong kPos ps.toList = some (.ref q.1) ∧ FHd F q.1 q.2
noncomputable def TabB : Option (Addr × Addr) → Mu
  | none => []
  | some q => [(q.2, TabQ qf)]
section
variable {M : Model} {A : Around} {E : Value → Shared → Prop} {s : Shared} {name qual : Str} {params : Arguments} {body : Expr} {scope : Scope} {env : Env} {c P : Addr} {ps : Array Value} {pos : Pos} {firstLine : Nat} {mg : Str → Option Value}
  {clos : List (Str × Addr)} {Q : Value → Shared → Prop}
theorem kla_any {Fc : Addr → Prop} (hcl : closureFor scope env = pure clos) (hge0 : env.globals = mainGlobals) (hg : s.heap.Ns mainGlobals mg) (hcode : env.code = .ref c) (C : CodeHd s.heap c P) (hP : s.heap.get? P = some (tabObj ps)) (ht : TriplesOk ps.toList)
    (hgood : ∀ pos v, codeAmong pos ps.toList = some v → (∃ c2, v = .ref c2 ∧ Fc c2) ∧ s.heap.CodeRec v qual) (hgP : mainGlobals ≠ P) (hb : s.heap.BuiltinsAt mg P) (hFP : ¬ Fc P)
    (h : ∀ c' ctv g h' tk ps', s.heap.get? g = none → h'.get? g = some (kla_obj name qual params body scope clos ((mg "__name__").getD .none) c' ctv) → (∀ b o, b ≠ P → s.heap.get? b = some o → h'.get? b = some o) → h'.CodeRec (.ref c') qual → (s.heap.get? c' = none ∨ Fc c') →
      h'.get? P = some (tabObj ps') → TriplesOk ps'.toList → (∀ pos v, codeAmong pos ps'.toList = some v → (∃ c2, v = .ref c2 ∧ (s.heap.get? c2 = none ∨ Fc c2)) ∧ h'.CodeRec v qual) → Q (.ref g) { s with heap := h', toks := tk }) :
    wpAny M A (makeFunction name qual params (.expr body) scope env [] [] [] pos firstLine) Q E s := by
  cases hf : codeAmong pos ps.toList with
  | some cv =>
    obtain ⟨⟨c2, rfl, h2⟩, h3⟩ := hgood pos cv hf
    refine kla_makeFunctionHit hcl hge0 hg hcode C hP ht hf hb fun ctv h' tk hk hsz => ?_
    have hk2 : ∀ o b o', s.heap.get? b = some o' → (h'.push o).get? b = some o' := fun o b o' e => Heap.get?_push_of_some _ (hk b o' e)
    have hr : ∀ o v, s.heap.CodeRec v qual → (h'.push o).CodeRec v qual := fun o v ⟨c, o2, vs, t, e1, e2, e3⟩ => ⟨c, o2, vs, t, e1, hk2 _ _ _ e2, e3⟩
    exact h c2 ctv h'.objs.size _ tk ps (Heap.get?_none_of_le hsz) (Heap.get?_push_size _ rfl) (fun b o _ e => hk2 _ b o e) (hr _ _ h3) (.inr h2) (hk2 _ _ _ hP) ht fun pos v e => ⟨(hgood pos v e).1.imp fun c q => ⟨q.1, .inr q.2⟩, hr _ _ (hgood pos v e).2⟩
  | none =>
    refine kla_makeFunction hcl hge0 hg hcode C hP ht hf hgP hb fun c' ctv h' tk hx hge hlt hrec htb => ?_
    have hk2 : ∀ o b o', b ≠ P → s.heap.get? b = some o' → (h'.push o).get? b = some o' := fun o b o' n e => Heap.get?_push_of_some _ (hx b o' n e)
    have nc : s.heap.get? c' = none := Heap.get?_none_of_le hge
    refine h c' ctv h'.objs.size _ tk _ (Heap.get?_none_of_le (Nat.le_trans hge (Nat.le_of_lt hlt))) (Heap.get?_push_size _ rfl) (hk2 _) (hrec.push _) (.inl nc) (Heap.get?_push_of_some _ htb) (by rw [Array.toList_append]; exact TriplesOk_snoc _ _ _ _ ht) fun pos' v e => ?_
    rw [Array.toList_append] at e
    rcases Mine.codeAmong_snoc' _ ht e with q | ⟨q1, q2⟩
    · obtain ⟨⟨c2, rfl, h2⟩, c3, o3, vs3, t3, e1, e2, e3, e4⟩ := hgood pos' v q
      refine ⟨⟨c2, rfl, .inr h2⟩, c3, o3, vs3, t3, e1, hk2 _ _ _ ?_ e2, e3, e4⟩
      rintro rfl
      cases e1
      exact hFP h2
    · subst q1
      exact ⟨⟨c', rfl, .inl nc⟩, hrec.push _⟩
end
section
variable {C : Cx} {σ : St}
theorem FRec.mono {F F' : Fz} {v : Value} {q : Str} (x : FRec F v q) (g : Fle F F') : FRec F' v q := let ⟨c, o, vs, t, e1, e2, e3⟩ := x; ⟨c, o, vs, t, e1, g _ _ e2, e3⟩
theorem FHd.hd {F : Fz} {h : Heap} {c P : Addr} (x : FHd F c P) (hf : ∀ b o, F b = some o → h.get? b = some o) : CodeHd h c P := let ⟨o, vs, file, tf, flags, tg, inF, text, tt, e, r⟩ := x; ⟨o, vs, file, tf, flags, tg, inF, text, tt, hf _ _ e, r⟩
theorem FHd.mono {F F' : Fz} {c P : Addr} (x : FHd F c P) (g : Fle F F') : FHd F' c P := let ⟨o, vs, file, tf, flags, tg, inF, text, tt, e, r⟩ := x; ⟨o, vs, file, tf, flags, tg, inF, text, tt, g _ _ e, r⟩
theorem EvX.keyedG {J : Type} {oP : Option (Addr × Addr)} {e body : Expr} {params : Arguments} {lsc : Scope} {p1 p2 p3 p4 p5 lp : Pos} {ds : J → List D} {fa c1 P1 cL PL : Addr} {doc pm cdv ct : Value} {an : Option Addr} {ms : Str → Option Value} {rest : J → Mu} {clos : List (Str × Addr)} {ans : J → Nat → Nat → Int} {R : J → Array Nat → Prop} {n : Nat}
    (hs1 : C.env.kindOf "sorted" = some .globalImplicit) (hs2 : C.G.mg "sorted" = none) (hs3 : C.G.mb "sorted" = some (.builtin "sorted"))
    (hc1 : C.env.kindOf "cmp_to_key" = some .globalImplicit) (hc2 : C.G.mg "cmp_to_key" = some (.ref fa))
    (he : EvX C σ e fun d mu => ∃ j, d = .list (ds j) ∧ mu.Perm ((PL, TabQ fun _ => C.env.qual ++ "<lambda>") :: (P1, TabP oP) :: (TabB oP ++ rest j))) (hz : ∀ j, (ds j).length ≤ 60) (hgens : C.G.s0.gens = #[])
    (H : KPre C.G.hb C.G.mg C.G.mb ms fa c1 P1 doc pm cdv ct an) (hL : C.env.code = .ref cL) (hLd : CodeHd C.G.hb cL PL) (hcl : closureFor lsc C.env = pure clos) (hdef : defaultsOf params C.env = ([], []))
    (hrm : n + 3 ≤ C.rm) (hdp : C.A.depth ≤ 700) (hun : C.A.units ≤ 4000)
    (hlam : ∀ j mu gl c' ctv, ∃ PP : Pred, PP.Mon ∧ (∀ K F s, Mo C K (σ.setMu (mu ++ rest j)) F s → FnF F gl (kla_fn "<lambda>" (C.env.qual ++ "<lambda>") params body lsc clos ((C.G.mg "__name__").getD .none) (.ref c') ctv) → PP (full F s.heap []) F) ∧
      ∀ i k d1 d2, (ds j)[i]? = some d1 → (ds j)[k]? = some d2 → CallSem C.G n PP gl [] [d1, d2] (Pure (.int (ans j i k))))
    (hH : ∀ j, 2 ≤ (ds j).length → Hold (ds j).length (fun i k => decide (ans j i k < 0)) (kas_sort (ds j).length) (R j)) (hR1 : ∀ j, (ds j).length < 2 → R j (List.toArray (List.range (ds j).length))) (hRs : ∀ j p, R j p → p.size = (ds j).length) (hst : starEach [e] C.env = (false, eval e C.env) :: starEach [] C.env := by rfl) :
    EvX C σ (.Call (.Name "sorted" p1) [e] [⟨some "key", .Call (.Name "cmp_to_key" p2) [.Lambda params body lsc lp] [] p3, p4⟩] p5) (fun d mu => ∃ j c P Da p, R j p ∧ d = .ref Da ∧ mu = (Da, .list (permL (ds j) p)) :: (P1, TabP (some (c, P))) :: (PL, TabQ fun _ => C.env.qual ++ "<lambda>") :: (P, TabQ qf) :: rest j) := fun K F s Q E X hQ => by
  show wpAny _ _ (do callWith p5 (← eval (.Name "sorted" p1) C.env) [] (backTo p5 (starEach [e] C.env)) (backToKw p5 (keywordEach [⟨some "key", .Call (.Name "cmp_to_key" p2) [.Lambda params body lsc lp] [] p3, p4⟩] C.env))) Q E s
  have hb0 : backTo p5 (starEach [e] C.env) = (false, eval e C.env) :: backTo p5 (starEach [] C.env) := by rw [hst]; rfl
  refine wpAny_bind (bName X hs1 hs2 hs3 (callWith_kw ?_ hb0 (by rw [hb0]; rfl)))
  refine wpAny_items_cons (he K F s _ E X fun F1 v0 s1 d1 mu1 hj X1 g1 r2 => wpAny_items_nil ?_) hst
  obtain ⟨j, rfl, hσ⟩ := hj
  obtain ⟨l, ol, vs, rfl, hl1, ⟨hl2, ln, rfl⟩, rvs⟩ := r2.list_inv
  refine evalAll_cons (wpAny_bind ?_)
  refine wpAny_Call_NameR (gName X1 hc1 hc2 ?_)
  obtain ⟨of, hf1, hf2⟩ := H.fn
  refine callWith_function (o := of) (fd := fdN 1 "cmp_to_key" "cmp_to_key" .none .none doc pm an (.ref c1) ct) (Calls.evalArgs_plain (Calls.spliced_cons ?_))
  have hsb : ∀ b o, C.G.hb.get? b = some o → s1.heap.get? b = some o := fun b o e => X1.am.frz _ _ (X1.am.base _ _ e)
  have X1p : Mo C K (σ.setMu _) F1 s1 := X1.perm hσ.symm
  obtain ⟨oL, F0, gL, hPL, ps, rfl, htL, hvL⟩ := (X1p.am.mus (PL, TabQ fun _ => C.env.qual ++ "<lambda>") (.head _)).1
  have hPLF : F1 PL = none := (X1p.am.mus _ (.head _)).2.1
  have hgP : mainGlobals ≠ PL := by
    rintro rfl
    obtain ⟨o, es, ep, e, q, _⟩ := H.nsg.keeps hsb
    rw [hPL] at e; cases e; cases q
  refine kla_eval hdef (kla_any (mg := C.G.mg) (ps := ps) (Fc := fun c => ∃ o, F1 c = some o) hcl X1.ok.gl (H.nsg.keeps hsb) hL (hLd.keeps hsb) hPL htL (fun pos v e => ?_) hgP ?_ (fun ⟨o, q⟩ => by rw [hPLF] at q; cases q) fun c' ctv gl h' tk ps' ng hgl hx hrec hnc htb ht' hv' => ?_)
  · obtain ⟨c, o, vs, t, e1, e2, e3⟩ := hvL pos v e
    exact ⟨⟨c, e1, o, gL _ _ e2⟩, c, o, vs, t, e1, X1.am.frz _ _ (gL _ _ e2), e3⟩
  · obtain ⟨bm, ob, b1, b2, b3, b4, b5, b6⟩ := H.bm
    exact ⟨bm, ob, b1, b2, b3, (fun q => by rw [q] at b4; rw [hsb _ _ b4] at hPL; cases hPL; cases b5), hsb _ _ b4, b5, b6⟩
  · obtain ⟨hp1, gg1, dd1, tt1, oo1⟩ := s1
    have hgg : gg1 = #[] := X1.am.gens.trans hgens
    subst hgg
    have fz1 : ∀ b o, F1 b = some o → h'.get? b = some o := fun b o e => hx b o (fun q => by rw [q, hPLF] at e; cases e) (X1.am.frz _ _ e)
    have gF : Fle F1 (F1.news hp1 h' fun _ => False) := Fz.news_le
    have fz2 : ∀ b o, (F1.news hp1 h' fun _ => False) b = some o → h'.get? b = some o := fun b o e => Fz.news_at fz1 e
    have nw2 : ∀ b o, (F1.news hp1 h' fun _ => False) b = some o → F1 b = some o ∨ hp1.get? b = none := fun b o e => Fz.news_new e
    have in2 : ∀ b o, h'.get? b = some o → (hp1.get? b = none ∨ ∃ o, F1 b = some o) → (F1.news hp1 h' fun _ => False) b = some o := fun b o e q => Fz.news_of fz1 e (q.imp (fun q => ⟨q, fun z => z⟩) id)
    have no2 : ∀ b, F1 b = none → (∃ o, hp1.get? b = some o) → (F1.news hp1 h' fun _ => False) b = none := fun b q z => Fz.news_none q (.inr z)
    generalize F1.news hp1 h' (fun _ => False) = F2 at *
    have rc2 : ∀ v q, h'.CodeRec v q → (∀ c, v = .ref c → hp1.get? c = none ∨ ∃ o, F1 c = some o) → FRec F2 v q := fun v q ⟨c, o, vs, t, e1, e2, e3⟩ z => ⟨c, o, vs, t, e1, in2 _ _ e2 (z c e1), e3⟩
    have X2 : Mo C K (σ.setMu ([(PL, TabQ fun _ => C.env.qual ++ "<lambda>")] ++ ((P1, TabP oP) :: (TabB oP ++ rest j)))) F2 ⟨h', #[], dd1, tk, oo1⟩ := X1p.turnAll (ch := [(PL, TabQ fun _ => C.env.qual ++ "<lambda>")]) rfl (fun b o n e => hx b o (by simpa using n) e) gF nw2 fz2 (fun p hp => by
      obtain rfl := List.mem_singleton.mp hp
      exact ⟨⟨_, F2, Fle.refl _, htb, ps', rfl, ht', fun pos v e => rc2 _ _ (hv' pos v e).2 fun c q => by
        obtain ⟨c2, q1, q2⟩ := (hv' pos v e).1
        rw [q] at q1; cases q1; exact q2⟩, no2 _ hPLF ⟨_, hPL⟩, .inl (.head _)⟩) (by simp)
    have hFn : FnF F2 gl (kla_fn "<lambda>" (C.env.qual ++ "<lambda>") params body lsc clos ((C.G.mg "__name__").getD .none) (.ref c') ctv) := by
      obtain ⟨c3, o3, vs3, t3, e1, e2, e3, e4⟩ := rc2 _ _ hrec (fun c q => by cases q; exact hnc)
      exact ⟨⟨_, in2 _ _ hgl (.inl ng), rfl⟩, c3, o3, vs3, t3, e1, e2, e3, e4⟩
    have X2p := X2.perm (mu' := (P1, TabP oP) :: (TabB oP ++ (PL, TabQ fun _ => C.env.qual ++ "<lambda>") :: rest j)) (by
      show List.Perm _ ((PL, _) :: (P1, _) :: (TabB oP ++ rest j))
      exact (List.Perm.cons _ List.perm_middle).trans (List.Perm.swap ..))
    have hsb2 : ∀ b o, C.G.hb.get? b = some o → h'.get? b = some o := fun b o q => X2p.am.frz _ _ (X2p.am.base _ _ q)
    have hP1F : F2 P1 = none := (X2p.am.mus _ (.head _)).2.1
    have old : ∀ c P, oP = some (c, P) → FHd F2 c P ∧ F2 P = none ∧ P ≠ P1 ∧ ∃ ps2, h'.get? P = some (tabObj ps2) ∧ TriplesOk ps2.toList ∧ ∀ pos v, codeAmong pos ps2.toList = some v → FRec F2 v (qf pos.line) := by
      rintro c P rfl
      obtain ⟨o, F3, g3, h1, ps1, rfl, h2, h3, h4⟩ := (X2p.am.mus (P1, TabP (some (c, P))) (.head _)).1
      obtain ⟨oB, F4, g4, k1, ps2, rfl, k2, k3⟩ := (X2p.am.mus (P, TabQ qf) (.tail _ (.head _))).1
      have nd : ((P1, TabP (some (c, P))) :: ((P, TabQ qf) :: ((PL, TabQ fun _ => C.env.qual ++ "<lambda>") :: rest j))).map (·.1) |>.Nodup := X2p.am.nd
      rw [List.map_cons, List.nodup_cons] at nd
      exact ⟨h4.mono g3, (X2p.am.mus (P, TabQ qf) (.tail _ (.head _))).2.1, fun z => nd.1 (by rw [← z]; simp), ps2, k1, k2, fun pos v e => (k3 pos v e).mono g4⟩
    have hP1 : ∃ ps1, h'.get? P1 = some (tabObj ps1) ∧ TriplesOk ps1.toList ∧ OPre h' P1 ps1 kPos qf oP := by
      cases oP with
      | none =>
        obtain ⟨o, F3, g3, h1, ps1, rfl, h2, h3⟩ := (X2p.am.mus (P1, TabP none) (.head _)).1
        exact ⟨ps1, h1, h2, h3⟩
      | some q =>
        obtain ⟨o, F3, g3, h1, ps1, rfl, h2, h3, h4⟩ := (X2p.am.mus (P1, TabP (some q)) (.head _)).1
        obtain ⟨o1, o2, o3, ps2, k1, k2, k3⟩ := old q.1 q.2 rfl
        refine ⟨ps1, h1, h2, h3, o1.hd X2p.am.frz, o3, ps2, k1, k2, fun pos v e => ?_⟩
        obtain ⟨c, o, vs, t, e1, e2, e3⟩ := k3 pos v e
        refine ⟨⟨c, e1, ?_⟩, ⟨c, o, vs, t, e1, X2p.am.frz _ _ e2, e3⟩, fun c2 e4 => .inr ⟨ps2, pos, k1, e⟩⟩
        rintro rfl
        rw [o2] at e2; cases e2
    obtain ⟨ps1, hP1, htP1, hO⟩ := hP1
    refine Calls.spliced_nil ⟨⟨hsb2 _ _ hf1, hf2⟩, ?_⟩
    refine cmpk oP C.G.prog C.G.w C.A ⟨h', #[], dd1, tk, oo1⟩ fa c1 P1 gl ps1 C.G.mg C.G.mb ms doc pm cdv ct an E _ X.ok.rm.hh (by lia) (by lia) rfl (H.keeps hsb2) hP1 htP1 hO fun a N cl c P h3 tk3 k1 k2 k3 k4 k5 kt => ?_
    have hPF2 : F2 P = none := by
      rcases kt.newP with q | q
      · cases z : F2 P with
        | none => rfl
        | some o => rw [fz2 _ _ z] at q; cases q
      · exact (old c P q).2.1
    have fz3' : ∀ b o, F2 b = some o → h3.get? b = some o := fun b o e => k5 b o (fun z => by rw [z, hP1F] at e; cases e) (fun z => by rw [z, hPF2] at e; cases e) (fz2 _ _ e)
    have g3 : Fle F2 (F2.news h' h3 (· = P)) := Fz.news_le
    have fz3 : ∀ b o, (F2.news h' h3 (· = P)) b = some o → h3.get? b = some o := fun b o e => Fz.news_at fz3' e
    have nw3 : ∀ b o, (F2.news h' h3 (· = P)) b = some o → F2 b = some o ∨ h'.get? b = none := fun b o e => Fz.news_new e
    have in3 : ∀ b o, h3.get? b = some o → ((h'.get? b = none ∧ b ≠ P) ∨ ∃ o, F2 b = some o) → (F2.news h' h3 (· = P)) b = some o := fun b o e q => Fz.news_of fz3' e q
    have no3 : ∀ b, F2 b = none → (b = P ∨ ∃ o, h'.get? b = some o) → (F2.news h' h3 (· = P)) b = none := fun b q z => Fz.news_none q z
    generalize F2.news h' h3 (· = P) = F3 at *
    obtain ⟨psT, t1, t2, t3⟩ := kt.top
    obtain ⟨psB, u1, u2, u3⟩ := kt.body
    have X3 : Mo C K (σ.setMu ([(P1, TabP (some (c, P))), (P, TabQ qf)] ++ ((PL, TabQ fun _ => C.env.qual ++ "<lambda>") :: rest j))) F3 ⟨h3, #[], dd1, tk3, oo1⟩ := X2p.turnAll (ch := (P1, TabP oP) :: TabB oP) rfl (fun b o n e => by
      rw [List.map_cons, List.mem_cons, not_or] at n
      refine k5 b o n.1 (fun z => ?_) e
      rcases kt.newP with q | q
      · rw [← z, e] at q; cases q
      · exact n.2 (by rw [q, z]; exact .head _)) g3 nw3 fz3 (fun p hp => by
      simp only [List.mem_cons, List.not_mem_nil, or_false] at hp
      rcases hp with rfl | rfl
      · refine ⟨⟨_, F3, Fle.refl _, t1, psT, rfl, t2, t3, ?_⟩, no3 _ hP1F (.inr ⟨_, hP1⟩), .inl (.head _)⟩
        obtain ⟨o, vs, file, tf, flags, tg, inF, text, tt, q1, q2, q3, q4, q5, q6, q7, q8, q9, q10⟩ := kt.hd
        refine ⟨o, vs, file, tf, flags, tg, inF, text, tt, in3 _ _ q1 ?_, q2, q3, q4, q5, q6, q7, q8, q9, q10⟩
        rcases kt.newC with q | q
        · exact .inl ⟨q, q10⟩
        · obtain ⟨o', _, _, _, _, _, _, _, _, z, _⟩ := (old c P q).1
          exact .inr ⟨o', z⟩
      · refine ⟨⟨_, F3, Fle.refl _, u1, psB, rfl, u2, fun pos v e => ?_⟩, no3 _ hPF2 (.inl rfl), ?_⟩
        · obtain ⟨⟨c2, e1, e2⟩, ⟨c3, o, vs, t, e3, e4, e5⟩, e6⟩ := u3 pos v e
          rw [e1] at e3; cases e3
          refine ⟨c2, o, vs, t, e1, in3 _ _ e4 ?_, e5⟩
          rcases e6 c2 e1 with q | ⟨ps0, pos0, q1, q2⟩
          · exact .inl ⟨q, e2⟩
          · rcases kt.newP with q | q
            · rw [q1] at q; cases q
            · obtain ⟨_, _, _, ps2, z1, z2, z3⟩ := old c P q
              rw [q1] at z1; cases z1
              obtain ⟨c4, o4, _, _, w1, w2, _⟩ := z3 pos0 v q2
              rw [e1] at w1; cases w1
              exact .inr ⟨o4, w2⟩
        · rcases kt.newP with q | q
          · exact .inr q
          · exact .inl (by rw [q]; exact .tail _ (.head _))) (by
      rw [List.map_cons, List.nodup_cons]
      exact ⟨fun z => kt.ne (List.mem_singleton.mp z).symm, by simp⟩)
    have X3 := X3.perm (mu' := [(P1, TabP (some (c, P))), (PL, TabQ fun _ => C.env.qual ++ "<lambda>"), (P, TabQ qf)] ++ rest j) (List.Perm.cons _ (List.Perm.swap ..))
    have X3 : Mo C K (σ.setMu ([(P1, TabP (some (c, P))), (PL, TabQ fun _ => C.env.qual ++ "<lambda>"), (P, TabQ qf)] ++ rest j)) F3 ⟨h3, #[], dd1, tk3, oo1⟩ := X3
    refine wpAny_bind (wpAny_standAt (wpAny_pure (evalAll_nil ?_)))
    obtain ⟨PP, pm1, pm2, pm3⟩ := hlam j [(P1, TabP (some (c, P))), (PL, TabQ fun _ => C.env.qual ++ "<lambda>"), (P, TabQ qf)] gl c' ctv
    have hlen := rvs.length
    have gF3 := gF.trans g3
    have rv2 : RepL F3 vs (ds j) := rvs.mono gF3
    have hFn3 := hFn.mono g3
    have hzj := hz j
    obtain ⟨⟨lo, hlo1, hlo2⟩, _⟩ := id hFn3
    refine k_sorted (R := R j) (ans := ans j) (nn := n) (kc := a) (cl := cl) (N := N) (g := gl) (vs := vs) ⟨k1, k2, ⟨lo, _, X3.am.frz _ _ hlo1, hlo2⟩, X3.am.nl, fun v hv => ?_, fun i k v u hi hj => ?_⟩ ⟨_, X3.am.frz _ _ (gF3 _ _ hl1), rfl, _, rfl⟩ (by lia)
      ((X.ok.rm.mono hrm).in1.in1) (by lia) (by lia) (by rw [hlen]; exact hH j) (by rw [hlen]; exact hR1 j) (by rw [hlen]; exact hRs j) fun Da p h4 tk4 c4 hRp k6 k7 k8 => ?_
    · obtain ⟨i, hi, rfl⟩ := List.getElem_of_mem hv
      obtain ⟨d, q1, q2⟩ := rv2.get' (List.getElem?_eq_getElem hi)
      exact q2.out
    · obtain ⟨d1, q1, q2⟩ := rv2.get' hi
      obtain ⟨d2, q3, q4⟩ := rv2.get' hj
      exact CallSem.mycmp pm1 (pm3 i k d1 d2 q1 q3) X3.am (pm2 K F3 _ X3 hFn3) q2 q4 hgens
    · have X4 := X3.addMu (t := tk4) (mo := .list (permL (ds j) p)) k6 k7 ⟨_, p.toList.map fun i => vs.getD i .none, k8, ⟨by rw [List.length_map, Array.length_toList, hRs j p hRp]; lia, _, rfl⟩, rv2.perm _⟩
      exact hQ F3 (.ref Da) _ (.ref Da) _ ⟨j, c, P, Da, p, hRp, rfl, rfl⟩ X4 (g1.trans gF3) (.ref Da)
end
end Mine
end

section
/-! merging of rows, in plain Lean -/
namespace Mine

noncomputable def free (rows : List (List Int)) (c : Int) : Bool := rows.all fun r => !decide (c ∈ r.tail)
noncomputable def pick (rows : List (List Int)) : Option Int := (rows.filterMap List.head?).find? (free rows)
noncomputable def strip1 (c : Int) (r : List Int) : List Int := if r.head? = some c then r.tail else r
noncomputable def strip (c : Int) (rows : List (List Int)) : List (List Int) := rows.map (strip1 c)
noncomputable def c3 : Nat → List (List Int) → List Int × List (List Int)
  | 0, rows => ([], rows)
  | n + 1, rows => match pick rows with
    | none => ([], rows)
    | some c => (c :: (c3 n (strip c rows)).1, (c3 n (strip c rows)).2)
noncomputable def total (rows : List (List Int)) : Nat := (rows.map List.length).sum

theorem strip_total {c : Int} : ∀ {rows : List (List Int)}, total (strip c rows) ≤ total rows
  | [] => Nat.le_refl _
  | r :: rows => by
    have ih := strip_total (c := c) (rows := rows)
    unfold total strip at ih ⊢
    simp only [List.map_cons, List.sum_cons]
    have : (strip1 c r).length ≤ r.length := by
      unfold strip1
      split
      · simp
      · exact Nat.le_refl _
    lia
theorem strip_lt {c : Int} : ∀ {rows : List (List Int)}, c ∈ rows.filterMap List.head? → total (strip c rows) < total rows
  | [], h => by simp at h
  | [] :: rows, h => by
    have ih := strip_lt (c := c) (rows := rows) (by simpa using h)
    simpa [total, strip, strip1] using ih
  | (x :: r) :: rows, h => by
    have h1 := strip_total (c := c) (rows := rows)
    unfold total strip at h1 ⊢
    simp only [List.map_cons, List.sum_cons]
    by_cases e : x = c
    · subst e
      simp [strip1, -List.map_map]; lia
    · have ih := strip_lt (c := c) (rows := rows) (by simpa [Ne.symm e] using h)
      unfold total strip at ih
      simp [strip1, e, -List.map_map]; lia
theorem pick_mem {rows : List (List Int)} {c : Int} (h : pick rows = some c) : c ∈ rows.filterMap List.head? := List.mem_of_find?_eq_some h
theorem pick_free {rows : List (List Int)} {c : Int} (h : pick rows = some c) : free rows c = true := List.find?_some h

theorem c3_fuel : ∀ {n m : Nat} {rows : List (List Int)}, total rows ≤ n → total rows ≤ m → c3 n rows = c3 m rows
  | 0, 0, _, _, _ => rfl
  | 0, m + 1, rows, h, _ => by
    have : pick rows = none := by
      cases e : pick rows with
      | none => rfl
      | some c => have := strip_lt (pick_mem e); lia
    simp [c3, this]
  | n + 1, 0, rows, _, h => by
    have : pick rows = none := by
      cases e : pick rows with
      | none => rfl
      | some c => have := strip_lt (pick_mem e); lia
    simp [c3, this]
  | n + 1, m + 1, rows, h1, h2 => by
    unfold c3
    cases e : pick rows with
    | none => rfl
    | some c =>
      have := strip_lt (pick_mem e)
      simp only
      rw [c3_fuel (n := n) (m := m) (by lia) (by lia)]
noncomputable def mrg (rows : List (List Int)) : List Int × List (List Int) := c3 (total rows) rows
theorem mrg_some {rows : List (List Int)} {c : Int} (h : pick rows = some c) : mrg rows = (c :: (mrg (strip c rows)).1, (mrg (strip c rows)).2) := by
  unfold mrg
  have hl := strip_lt (pick_mem h)
  obtain ⟨k, hk⟩ : ∃ k, total rows = k + 1 := ⟨total rows - 1, by lia⟩
  rw [hk, c3, h]
  simp only
  rw [c3_fuel (n := k) (m := total (strip c rows)) (by lia) (Nat.le_refl _)]
theorem mrg_none {rows : List (List Int)} (h : pick rows = none) : mrg rows = ([], rows) := by
  unfold mrg
  cases total rows with
  | zero => rfl
  | succ k => rw [c3, h]
theorem pick_filter (rows : List (List Int)) : pick (rows.filter fun r => !r.isEmpty) = pick rows := by
  have h1 : (rows.filter fun r => !r.isEmpty).filterMap List.head? = rows.filterMap List.head? := by
    induction rows with
    | nil => rfl
    | cons r rows ih => cases r <;> simp [ih, List.filterMap_cons]
  have h2 : free (rows.filter fun r => !r.isEmpty) = free rows := by
    clear h1
    funext c
    unfold free
    induction rows with
    | nil => rfl
    | cons r rows ih =>
      cases r with
      | nil => simp [ih]
      | cons x r => simp [ih]
  unfold pick
  rw [h1, h2]
end Mine
end

section
set_option Elab.async false
set_option linter.unusedVariables false
set_option linter.unusedSimpArgs false
set_option maxRecDepth 100000
namespace Mine
open PySem PySem.W PyProof.Rows PySem.Calls

noncomputable abbrev Prs := List (Addr × List Int)
noncomputable def ent (prs : Prs) : Mu := prs.map fun p => (p.1, MO.list (zs p.2))
noncomputable def refs (prs : Prs) : List D := prs.map fun p => D.ref p.1
noncomputable def rowsOf (prs : Prs) : List (List Int) := prs.map (·.2)
noncomputable def ne (p : Addr × List Int) : Bool := !p.2.isEmpty
noncomputable def stripP (c : Int) (prs : Prs) : Prs := prs.map fun p => (p.1, strip1 c p.2)
theorem ent_mem {prs : Prs} {p : Addr × List Int} (h : p ∈ prs) : (p.1, MO.list (zs p.2)) ∈ ent prs := List.mem_map.mpr ⟨p, h, rfl⟩
theorem ent_append (a b : Prs) : ent (a ++ b) = ent a ++ ent b := List.map_append
theorem zs_isEmpty (l : List Int) : (zs l).isEmpty = l.isEmpty := by cases l <;> rfl

section
variable {C : Cx}
theorem compOk0 {scope : Scope} (h1 : closureFor scope C.env = pure []) (h2 : scope.kind = .function) (h3 : ∀ y ∈ scope.names, y.2 = .local → scope.names.lookup y.1 = some .local) (h4 : ∀ y ∈ scope.names, y.2 ≠ .cell) : CompOk C scope [] :=
  ⟨h1, h2, h3, fun x c h => (nomatch h), fun x h => (nomatch h), List.Pairwise.nil, fun y _ hm => h4 _ hm rfl⟩
end

theorem filter_nil_all {cur : Prs} (h : cur.filter ne = []) : ∀ p ∈ cur, p.2 = [] := fun p hp => by
  have := List.filter_eq_nil_iff.mp h p hp
  simpa [ne] using this
theorem pick_all_nil {rows : List (List Int)} (h : ∀ r ∈ rows, r = []) : pick rows = none := by
  have : rows.filterMap List.head? = [] := by
    rw [List.filterMap_eq_nil_iff]
    intro r hr
    rw [h r hr]; rfl
  unfold pick
  rw [this]; rfl
theorem all_nil_eq {cur prs : Prs} (h : ∀ p ∈ cur, p.2 = []) (ha : cur.map (·.1) = prs.map (·.1)) : cur = prs.map fun p => (p.1, []) := by
  induction cur generalizing prs with
  | nil => cases prs with
    | nil => rfl
    | cons _ _ => simp at ha
  | cons p cur ih =>
    cases prs with
    | nil => simp at ha
    | cons q prs =>
      simp only [List.map_cons, List.cons.injEq] at ha ⊢
      refine ⟨?_, ih (fun p hp => h p (.tail _ hp)) ha.2⟩
      have := h p (.head _)
      obtain ⟨a, b⟩ := p
      simp only at this ha
      rw [this, ha.1]
theorem rowsOf_filter (cur : Prs) : rowsOf (cur.filter ne) = (rowsOf cur).filter fun r => !r.isEmpty := by
  unfold rowsOf
  induction cur with
  | nil => rfl
  | cons p cur ih =>
    rw [List.filter_cons, List.map_cons, List.filter_cons]
    by_cases h : ne p = true
    · rw [if_pos h, List.map_cons, ih, if_pos (show (!p.2.isEmpty) = true from h)]
    · rw [if_neg h, ih, if_neg (show ¬(!p.2.isEmpty) = true from h)]
theorem refs_isEmpty (prs : Prs) : (refs prs).isEmpty = prs.isEmpty := by cases prs <;> rfl
theorem heads_ne {S : Prs} (h : ∀ p ∈ S, ne p = true) : (rowsOf S).filterMap List.head? = S.map fun p => p.2.headD 0 := by
  induction S with
  | nil => rfl
  | cons p S ih =>
    have h1 := h p (.head _)
    obtain ⟨a, l⟩ := p
    cases l with
    | nil => simp [ne] at h1
    | cons x l =>
      have := ih fun p hp => h p (.tail _ hp)
      unfold rowsOf at this ⊢
      simp [this]

theorem refs_get {S : Prs} {k : Nat} {d : D} (h : (refs S)[k]? = some d) : ∃ p, S[k]? = some p ∧ d = .ref p.1 := by
  rw [refs, List.getElem?_map] at h
  obtain ⟨p, h1, h2⟩ := Option.map_eq_some_iff.mp h
  exact ⟨p, h1, h2.symm⟩
theorem head_get {l : List Int} (h : l ≠ []) : (zs l)[(0 : Int).toNat]? = some (.int (l.headD 0)) := by
  cases l with
  | nil => exact absurd rfl h
  | cons x l => rfl
theorem ne_nil {p : Addr × List Int} (h : ne p = true) : p.2 ≠ [] := fun e => by simp [ne, e] at h
theorem find_first {α : Type} {q : α → Bool} : ∀ {l : List α} {k : Nat} {x : α}, l[k]? = some x → q x = true → (∀ i, i < k → ∀ y, l[i]? = some y → q y = false) → l.find? q = some x
  | a :: l, 0, x, h, hq, _ => by
    simp only [List.getElem?_cons_zero, Option.some.injEq] at h
    subst h
    simp [hq]
  | a :: l, k + 1, x, h, hq, hp => by
    have h0 := hp 0 (Nat.succ_pos k) a rfl
    rw [List.find?_cons, h0]
    exact find_first (k := k) (by simpa using h) hq fun i hi y hy => hp (i + 1) (by lia) y (by simpa using hy)
theorem find_none {α : Type} {q : α → Bool} {l : List α} (h : ∀ i, i < l.length → ∀ y, l[i]? = some y → q y = false) : l.find? q = none := by
  rw [List.find?_eq_none]
  intro x hx
  obtain ⟨i, hi, rfl⟩ := List.getElem_of_mem hx
  rw [h i hi _ (List.getElem?_eq_getElem hi)]
  simp
theorem pick_at {S : Prs} (hS : ∀ p ∈ S, ne p = true) {k : Nat} {p : Addr × List Int} (hk : S[k]? = some p) (h1 : free (rowsOf S) (p.2.headD 0) = true) (h2 : ∀ i, i < k → ∀ p, S[i]? = some p → free (rowsOf S) (p.2.headD 0) = false) : pick (rowsOf S) = some (p.2.headD 0) := by
  unfold pick
  rw [heads_ne hS]
  refine find_first (k := k) (by rw [List.getElem?_map, hk]; rfl) h1 fun i hi y hy => ?_
  rw [List.getElem?_map] at hy
  obtain ⟨q, hq, rfl⟩ := Option.map_eq_some_iff.mp hy
  exact h2 i hi q hq
theorem pick_not {S : Prs} (hS : ∀ p ∈ S, ne p = true) (h2 : ∀ i, i < S.length → ∀ p, S[i]? = some p → free (rowsOf S) (p.2.headD 0) = false) : pick (rowsOf S) = none := by
  unfold pick
  rw [heads_ne hS]
  refine find_none fun i hi y hy => ?_
  rw [List.getElem?_map] at hy
  obtain ⟨q, hq, rfl⟩ := Option.map_eq_some_iff.mp hy
  exact h2 i (by simpa using hi) q hq
theorem free_iff {S : Prs} {c : Int} : free (rowsOf S) c = true ↔ ∀ (j : Nat) (p : Addr × List Int), S[j]? = some p → c ∉ p.2.tail := by
  unfold free rowsOf
  rw [List.all_map, List.all_eq_true]
  constructor
  · intro h j p hj
    have := h p (List.mem_of_getElem? hj)
    simpa using this
  · intro h p hp
    obtain ⟨j, hj, rfl⟩ := List.getElem_of_mem hp
    simpa using h j S[j] (List.getElem?_eq_getElem hj)
theorem filter_split {S1 : Prs} {p : Addr × List Int} : ∀ {post : Prs}, post.filter ne = p :: S1 → ∃ a b, post = a ++ p :: b ∧ (∀ q ∈ a, ne q = false) ∧ ne p = true ∧ b.filter ne = S1
  | [], h => by cases h
  | q :: post, h => by
    rw [List.filter_cons] at h
    by_cases hq : ne q = true
    · rw [if_pos hq] at h
      obtain ⟨rfl, rfl⟩ := List.cons.inj h
      exact ⟨[], post, rfl, by simp, hq, rfl⟩
    · rw [if_neg hq] at h
      obtain ⟨a, b, rfl, h1, h2, h3⟩ := filter_split h
      exact ⟨q :: a, b, rfl, List.forall_mem_cons.mpr ⟨by simpa using hq, h1⟩, h2, h3⟩
theorem stripP_empty {c : Int} : ∀ {a : Prs}, (∀ q ∈ a, ne q = false) → stripP c a = a
  | [], _ => rfl
  | q :: a, h => by
    have h1 := h q (.head _)
    obtain ⟨x, l⟩ := q
    cases l with
    | nil => rw [stripP, List.map_cons]; exact congrArg _ (stripP_empty fun q hq => h q (.tail _ hq))
    | cons y l => simp [ne] at h1
theorem stripP_append {c : Int} (a b : Prs) : stripP c (a ++ b) = stripP c a ++ stripP c b := List.map_append
theorem stripP_filter {c : Int} (cur : Prs) : (stripP c (cur.filter ne)).filter ne = (stripP c cur).filter ne := by
  induction cur with
  | nil => rfl
  | cons p cur ih =>
    rw [List.filter_cons]
    by_cases h : ne p = true
    · rw [if_pos h]
      show (List.filter ne ((p.1, strip1 c p.2) :: stripP c (cur.filter ne))) = List.filter ne ((p.1, strip1 c p.2) :: stripP c cur)
      rw [List.filter_cons, List.filter_cons, ih]
    · rw [if_neg h]
      have he : p.2 = [] := by simpa [ne] using h
      show _ = List.filter ne ((p.1, strip1 c p.2) :: stripP c cur)
      rw [List.filter_cons, ih, if_neg]
      simp [ne, he, strip1]
theorem rowsOf_strip (c : Int) (cur : Prs) : rowsOf (stripP c cur) = strip c (rowsOf cur) := by
  unfold rowsOf stripP strip
  rw [List.map_map, List.map_map]; rfl
theorem zs_snoc (l : List Int) (c : Int) : zs l ++ [.int c] = zs (l ++ [c]) := by simp [zs]

section
variable {G : Gx} {f : Addr} {name qual : Str} {dV kV doc pm cdv ct : Value} {an : Option Addr}
noncomputable abbrev mgCx (G : Gx) (A : Around) (name qual : Str) (doc pm cdv ct : Value) (an : Option Addr) (f L : Addr) (n : Nat) (P : Pred) : Cx := fnCx G A (fdN 4 name qual .none .none doc pm an cdv ct) f L n P

theorem mrg_body {A : Around} {L : Addr} {n : Nat} {P : Pred} {prs : Prs} (hz : prs.length ≤ 1000) (hz2 : ∀ p ∈ prs, p.2.length ≤ 1000) (hok : ∀ r ∈ (mrg (rowsOf prs)).2, r = []) (hol : (mrg (rowsOf prs)).1.length ≤ 1000) :
    WP (mgCx G A name qual doc pm cdv ct an f L n P) { vars := [("sequences", .list (refs prs))], mu := ent prs } (bo 4)
      (Fin fun d mu => d = .list (zs (mrg (rowsOf prs)).1) ∧ mu = ent (prs.map fun p => (p.1, []))) := by
  refine WP.setX (.inl rfl) (EvN.list (ds := []) EvL.nil (by simp)) ?_
  rintro d mu ⟨fa, rfl, rfl⟩
  refine WP.while (fun n σ => ∃ (cur sub : Prs) (done : List Int), n = total (rowsOf cur) ∧ cur.map (·.1) = prs.map (·.1) ∧ sub.filter ne = cur.filter ne ∧ (∀ p ∈ sub, p ∈ cur) ∧ sub.length ≤ 1000 ∧ (∀ p ∈ cur, p.2.length ≤ 1000) ∧
    done ++ (mrg (rowsOf cur)).1 = (mrg (rowsOf prs)).1 ∧ (mrg (rowsOf cur)).2 = (mrg (rowsOf prs)).2 ∧ σ.mu = (fa, .list (zs done)) :: ent cur ∧ σ.v "result" = some (.ref fa) ∧ σ.v "sequences" = some (.list (refs sub))) (total (rowsOf prs))
    ⟨prs, prs, [], rfl, rfl, rfl, fun _ h => h, hz, hz2, rfl, rfl, rfl, rfl, rfl⟩ ?_
  rintro n σ ⟨cur, sub, done, rfl, hadr, hsub, hmem, hsz, hsz2, hout, hrest, hmu, hres, hseq⟩
  refine ⟨true, EvT.bool Ev.bool, fun _ => ?_, fun h => (nomatch h)⟩
  refine WP.setC rfl (EvC.plain (scope := _) sub (fun p => .ref p.1) ne (fun p => .ref p.1) (compOk0 rfl rfl (by decide) (by decide)) (.inl rfl) (Ev.name hseq) ItD.list (by lia) fun L p hp => ⟨?_, fun _ => Ev.name rfl⟩) ?_
  · exact EvT.cast (EvT.list (Ev.name rfl) (Items.ro (ds := zs p.2) (List.mem_append_left _ (hmu ▸ List.mem_cons_of_mem _ (ent_mem (hmem p hp)))))) (by unfold ne; rw [zs_isEmpty])
  rintro d mu ⟨sa, rfl, rfl⟩
  refine WP.frz [("sequences", .list (refs (cur.filter ne))), ("result", .ref fa)] (mu := (fa, .list (zs done)) :: ent cur) (by rw [← hmu]; rfl) (List.forall_mem_cons.mpr ⟨.inr ⟨rfl, by rw [← hsub]; rfl⟩, List.forall_mem_cons.mpr ⟨.inl hres, by simp⟩⟩) ?_
  have hS : ∀ p ∈ cur.filter ne, p ∈ cur ∧ ne p = true := fun p hp => List.mem_filter.mp hp
  have hpk : pick (rowsOf (cur.filter ne)) = pick (rowsOf cur) := by rw [rowsOf_filter, pick_filter]
  generalize hSd : cur.filter ne = S at hS hpk
  refine WP.ifs (EvT.not (EvT.list (Ev.name (d := .list (refs S)) rfl) Items.list)) (fun hb => ?_) (fun hb => ?_)
  · have hS0 : S = [] := by
      rw [refs_isEmpty] at hb
      cases S with
      | nil => rfl
      | cons _ _ => simp at hb
    have hall := filter_nil_all (hSd.trans hS0)
    have hpn := pick_all_nil (rows := rowsOf cur) (fun r hr => by
      obtain ⟨p, hp, rfl⟩ := List.mem_map.mp hr
      exact hall p hp)
    have hm := mrg_none hpn
    refine WP.frz [("result", .list (zs done))] (mu := ent cur) rfl (List.forall_mem_cons.mpr ⟨.inr ⟨rfl, rfl⟩, by simp⟩) (WP.ret (Ev.name rfl) ⟨?_, ?_⟩)
    · rw [← hout, hm]; simp
    · exact congrArg ent (all_nil_eq hall hadr)
  refine WP.nil ?_
  show WP _ _ _ _
  have hS1 : S ≠ [] := fun e => by subst e; simp at hb; exact hb rfl
  obtain ⟨c, hc⟩ : ∃ c, pick (rowsOf cur) = some c := by
    cases e : pick (rowsOf cur) with
    | some c => exact ⟨c, rfl⟩
    | none =>
      exfalso
      have hm := mrg_none e
      rw [hm] at hrest
      obtain ⟨p, hp⟩ := List.exists_mem_of_ne_nil S hS1
      have := hok p.2 (by rw [← hrest]; exact List.mem_map_of_mem (hS p hp).1)
      have h2 := (hS p hp).2
      rw [ne, this] at h2
      simp at h2
  have hcs := mrg_some hc
  have hSne : ∀ p ∈ S, ne p = true := fun p hp => (hS p hp).2
  have hdl : done.length < 100000 := by
    have : done.length ≤ (mrg (rowsOf prs)).1.length := by rw [← hout, List.length_append]; lia
    lia
  -- the choice
  refine WP.for (d := .list (refs S)) (ds := refs S) (fun k σ => σ.mu = (fa, .list (zs done)) :: ent cur ∧ σ.v "sequences" = some (.list (refs S)) ∧ σ.v "result" = some (.ref fa) ∧ ∀ i, i < k → ∀ p, S[i]? = some p → free (rowsOf S) (p.2.headD 0) = false)
    (Ev.name rfl) (.inl rfl) ⟨rfl, rfl, rfl, fun i hi => absurd hi (Nat.not_lt_zero i)⟩ (fun d σ => σ.set "s1" d) (fun _ _ _ => rfl) (fun _ _ => rfl) (fun d σ => Asg.local rfl) (fun k d σ hk hI => ?_) (fun σ hI => ?_)
  · obtain ⟨h1, h2, h3, h4⟩ := hI
    obtain ⟨p, hp, rfl⟩ := refs_get hk
    have hpS := List.mem_of_getElem? hp
    have hpm : (p.1, MO.list (zs p.2)) ∈ σ.mu := by rw [h1]; exact .tail _ (ent_mem (hS p hpS).1)
    refine WP.set (.inl rfl) (Ev.idx (d := .ref p.1) (Ev.name rfl) (Items.mu hpm) Ev.int (by decide) (head_get (ne_nil (hSne p hpS)))) ?_
    refine WP.for (d := .list (refs S)) (ds := refs S) (fun j σ => σ.mu = (fa, .list (zs done)) :: ent cur ∧ σ.v "sequences" = some (.list (refs S)) ∧ σ.v "result" = some (.ref fa) ∧ σ.v "candidate" = some (.int (p.2.headD 0)) ∧ ∀ i, i < j → ∀ q, S[i]? = some q → p.2.headD 0 ∉ q.2.tail)
      (Ev.name h2) (.inl rfl) ⟨h1, h2, h3, rfl, fun i hi => absurd hi (Nat.not_lt_zero i)⟩ (fun d σ => σ.set "s2" d) (fun _ _ _ => rfl) (fun _ _ => rfl) (fun d σ => Asg.local rfl) (fun j d σ hj hJ => ?_) (fun σ hJ => ?_)
    · obtain ⟨j1, j2, j3, j4, j5⟩ := hJ
      obtain ⟨q, hq, rfl⟩ := refs_get hj
      have hqS := List.mem_of_getElem? hq
      have hqm : (q.1, MO.list (zs q.2)) ∈ σ.mu := by rw [j1]; exact .tail _ (ent_mem (hS q hqS).1)
      refine WP.ifs (EvT.cmp (Ev.name (d := .int (p.2.headD 0)) j4) (Ev.cast (d' := .list (zs q.2.tail)) (Ev.of_new (EvN.from (n := 1) (Ev.name (d := .ref q.1) rfl) (Items.mu hqm) Ev.int)) (by rw [← List.map_drop, List.drop_one])) (Cm.in Items.list)) (fun hb => ?_) (fun hb => ?_)
      · refine WP.set (.inl rfl) Ev.none (WP.brk (WP.nil ⟨j1, j2, j3, fun i hi r hr => ?_⟩))
        by_cases hik : i < k
        · exact h4 i hik r hr
        · have : i = k := by lia
          subst this
          rw [hp] at hr; cases hr
          cases hf : free (rowsOf S) (p.2.headD 0) with
          | false => rfl
          | true => exact absurd (of_decide_eq_true hb) (free_iff.mp hf j q hq)
      · refine WP.nil (WP.nil ⟨j1, j2, j3, j4, fun i hi r hr => ?_⟩)
        by_cases hij : i < j
        · exact j5 i hij r hr
        · have : i = j := by lia
          subst this
          rw [hq] at hr; cases hr
          exact of_decide_eq_false hb
    · obtain ⟨j1, j2, j3, j4, j5⟩ := hJ
      have hfree : free (rowsOf S) (p.2.headD 0) = true := free_iff.mpr fun j q hq => j5 j (by rw [refs, List.length_map]; exact (List.getElem?_eq_some_iff.mp hq).1) q hq
      have hcp : p.2.headD 0 = c := by
        have := pick_at hSne hp hfree h4
        rw [hpk, hc] at this
        exact (Option.some.inj this).symm
      rw [hcp] at j4
      refine WP.brk ?_
      refine WP.ifs (Ev.isNone (Ev.name j4) (.inr ⟨c, rfl⟩)) (fun h => nomatch h) (fun _ => WP.nil ?_)
      refine WP.exprX (EvX.append (ds := zs done) (e := .int c) (mu' := (fa, .list (zs done ++ [.int c])) :: ent cur) (Ev.name j3) (Ev.name j4) (by rw [j1]; exact MuSet.head) (by simpa using hdl)) ?_
      rintro d mu ⟨rfl, rfl⟩
      -- the heads are struck
      refine WP.for (d := .list (refs S)) (ds := refs S) (fun k σ => ∃ pre post : Prs, cur = pre ++ post ∧ k = (pre.filter ne).length ∧ σ.mu = (fa, .list (zs (done ++ [c]))) :: (ent (stripP c pre) ++ ent post) ∧ σ.v "sequences" = some (.list (refs S)) ∧ σ.v "result" = some (.ref fa) ∧ σ.v "candidate" = some (.int c))
        (Ev.name j2) (.inl rfl) ⟨[], cur, rfl, rfl, by rw [← zs_snoc]; rfl, j2, j3, j4⟩ (fun d σ => σ.set "seq" d) (fun _ _ _ => rfl) (fun _ _ => rfl) (fun d σ => Asg.local rfl) (fun k d σ hk hK => ?_) (fun σ hK => ?_)
      · obtain ⟨pre, post, k1, k2, k3, k4, k5, k6⟩ := hK
        obtain ⟨q, hq, rfl⟩ := refs_get hk
        have hsp : S = pre.filter ne ++ post.filter ne := by rw [← hSd, k1, List.filter_append]
        obtain ⟨S1, hS1'⟩ : ∃ S1, post.filter ne = q :: S1 := by
          rw [hsp, k2, List.getElem?_append_right (Nat.le_refl _), Nat.sub_self] at hq
          cases hpf : post.filter ne with
          | nil => rw [hpf] at hq; simp at hq
          | cons a b => rw [hpf] at hq; simp at hq; exact ⟨b, by rw [hq]⟩
        obtain ⟨a, b, rfl, ha, hqn, hb1⟩ := filter_split hS1'
        have hqm : (q.1, MO.list (zs q.2)) ∈ σ.mu := by
          rw [k3]
          exact .tail _ (List.mem_append_right _ (ent_mem (by simp)))
        have hfin : ∀ σ' : St, σ'.mu = (fa, .list (zs (done ++ [c]))) :: (ent (stripP c pre) ++ (ent a ++ (q.1, MO.list (zs (strip1 c q.2))) :: ent b)) → σ'.v "sequences" = some (.list (refs S)) → σ'.v "result" = some (.ref fa) → σ'.v "candidate" = some (.int c) →
            ∃ pre post : Prs, cur = pre ++ post ∧ k + 1 = (pre.filter ne).length ∧ σ'.mu = (fa, .list (zs (done ++ [c]))) :: (ent (stripP c pre) ++ ent post) ∧ σ'.v "sequences" = some (.list (refs S)) ∧ σ'.v "result" = some (.ref fa) ∧ σ'.v "candidate" = some (.int c) := fun σ' e1 e2 e3 e4 => by
          refine ⟨pre ++ (a ++ [q]), b, by rw [k1]; simp, ?_, ?_, e2, e3, e4⟩
          · rw [List.filter_append, List.filter_append, List.length_append, ← k2, List.filter_eq_nil_iff.mpr fun x hx => by simp [ha x hx]]
            simp [hqn]
          · rw [e1, stripP_append, stripP_append, stripP_empty ha, ent_append, ent_append]
            simp [stripP, ent]
        refine WP.ifs (EvT.cmp (Ev.idx (d := .ref q.1) (Ev.name rfl) (Items.mu hqm) Ev.int (by decide) (head_get (ne_nil hqn))) (Ev.name k6) Cm.eq) (fun hb => ?_) (fun hb => ?_)
        · obtain ⟨x, l, hxl⟩ : ∃ x l, q.2 = x :: l := List.exists_cons_of_ne_nil (ne_nil hqn)
          have hx : x = c := by rw [hxl] at hb; simpa using hb
          refine WP.del0 (a := q.1) (e := .int x) (ds := zs l) (mu' := (fa, .list (zs (done ++ [c]))) :: (ent (stripP c pre) ++ (ent a ++ (q.1, MO.list (zs l)) :: ent b))) (Ev.name rfl) Ev.int ?_ (WP.nil (WP.nil (hfin _ ?_ k4 k5 k6)))
          · show MuSet σ.mu _ _ _ _
            rw [k3, ent_append]
            have : ent (q :: b) = (q.1, MO.list (.int x :: zs l)) :: ent b := by unfold ent; rw [List.map_cons, hxl]; rfl
            rw [this]
            exact .tail (.right (.right .head))
          · rw [hxl]; simp [strip1, hx]; rfl
        · refine WP.nil (WP.nil (hfin _ ?_ k4 k5 k6))
          show σ.mu = _
          have : strip1 c q.2 = q.2 := by
            unfold strip1
            rw [if_neg]
            intro e
            obtain ⟨x, l, hxl⟩ : ∃ x l, q.2 = x :: l := List.exists_cons_of_ne_nil (ne_nil hqn)
            rw [hxl] at e hb
            simp at e
            simp [e] at hb
          rw [this, k3, ent_append]
          rfl
      · obtain ⟨pre, post, k1, k2, k3, k4, k5, k6⟩ := hK
        have hpost : ∀ q ∈ post, ne q = false := by
          have : S.length = (pre.filter ne).length + (post.filter ne).length := by rw [← hSd, k1, List.filter_append, List.length_append]
          rw [refs, List.length_map] at k2
          have h0 : post.filter ne = [] := List.eq_nil_of_length_eq_zero (by lia)
          intro q hq
          simpa using List.filter_eq_nil_iff.mp h0 q hq
        refine WP.nil (WP.nil ⟨total (rowsOf (stripP c cur)), ?_, stripP c cur, stripP c S, done ++ [c], rfl, ?_, ?_, ?_, ?_, ?_, ?_, ?_, ?_, k5, ?_⟩)
        · rw [rowsOf_strip]; exact strip_lt (pick_mem hc)
        · rw [← hadr, stripP, List.map_map]; rfl
        · rw [← hSd]; exact stripP_filter cur
        · intro q hq
          obtain ⟨q', hq', rfl⟩ := List.mem_map.mp hq
          exact List.mem_map.mpr ⟨q', (hS q' hq').1, rfl⟩
        · rw [stripP, List.length_map, ← hSd, ← hsub]; exact Nat.le_trans (List.length_filter_le _ _) hsz
        · intro q hq
          obtain ⟨q', hq', rfl⟩ := List.mem_map.mp hq
          have := hsz2 q' hq'
          show (strip1 c q'.2).length ≤ 1000
          unfold strip1
          split
          · rw [List.length_tail]; lia
          · exact this
        · rw [rowsOf_strip, ← hout, hcs]; simp
        · rw [rowsOf_strip, ← hrest, hcs]
        · rw [k3, k1, stripP_append, stripP_empty hpost, ent_append]
        · rw [k4, stripP, refs, refs, List.map_map]; rfl
  · obtain ⟨h1, h2, h3, h4⟩ := hI
    exfalso
    have := pick_not hSne fun i hi => h4 i (by rw [refs, List.length_map]; exact hi)
    rw [hpk, hc] at this
    cases this
theorem mrg_sem {n : Nat} {P : Pred} {prs : Prs} (hmon : P.Mon) (hF : FnF G.hb.get? f (fdN 4 name qual .none .none doc pm an cdv ct)) (hz : prs.length ≤ 1000) (hz2 : ∀ p ∈ prs, p.2.length ≤ 1000) (hok : ∀ r ∈ (mrg (rowsOf prs)).2, r = []) (hol : (mrg (rowsOf prs)).1.length ≤ 1000) :
    CallSem G (n + 1) P f (ent prs) [.list (refs prs)] (fun d mu => d = .list (zs (mrg (rowsOf prs)).1) ∧ mu = ent (prs.map fun p => (p.1, []))) := by
  refine call_fn (fd := fdN 4 name qual .none .none doc pm an cdv ct) (ns := ["sequences"]) (body := bo 4) hmon ⟨rfl, fun s vs hb h => ?_, by decide, rfl, rfl, rfl, rfl, rfl⟩ (fun K F hb _ => hF.mono hb) (show ∀ x ∈ (sc 4).names, _ by decide) (show ∀ x ∈ (["sequences"] : List Str), (sc 4).names.lookup x = _ by decide) [] (fun K F _ => ⟨fun x hx => (nomatch hx), fun x d h => (nomatch h)⟩) List.Pairwise.nil (by simp) fun A L hr => ?_
  · match vs, h with
    | [a], _ => exact BindsTo.of_eq rfl
  · exact mrg_body hz hz2 hok hol
end
end Mine
end

section
set_option Elab.async false
set_option linter.unusedVariables false
set_option linter.unusedSimpArgs false
set_option maxRecDepth 100000
namespace Mine
open PySem PySem.W PyProof.Rows PySem.Calls
theorem Ev.neg1 {C : Cx} {σ : St} {k : Nat} {p p' : Pos} : Ev C σ (.UnaryOp .USub (.Constant (.int 1) k p) p') (.int (-1)) := fun K F s Q E X hQ => by
  refine wpAny_UnaryOp (wpAny_Constant_int ?_)
  exact neg_int (hQ F _ _ ((X.toks _).toks _) (Fle.refl _) (.int _ _))
theorem zs_take (l : List Int) (n : Nat) : (zs l).take n = zs (l.take n) := by simp [zs, List.map_take]
theorem zs_set (l : List Int) (n : Nat) (x : Int) : (zs l).set n (.int x) = zs (l.set n x) := by simp [zs, List.map_set]
theorem zs_append (l m : List Int) : zs l ++ zs m = zs (l ++ m) := by simp [zs]
theorem zs_length (l : List Int) : (zs l).length = l.length := by simp [zs]
theorem zs_get (l : List Int) {i : Nat} (h : i < l.length) : (zs l)[i]? = some (.int (l.getD i 0)) := by simp [zs, h]
structure Bt (G : Gx) : Prop where
  len : G.mg "len" = none ∧ G.mb "len" = some (.builtin "len")
  sum : G.mg "sum" = none ∧ G.mb "sum" = some (.builtin "sum")
  min : G.mg "min" = none ∧ G.mb "min" = some (.builtin "min")
  sorted : G.mg "sorted" = none ∧ G.mb "sorted" = some (.builtin "sorted")
  range : G.mg "range" = none ∧ G.mb "range" = some (.type "range")
  list : G.mg "list" = none ∧ G.mb "list" = some (.type "list")
noncomputable def nats (n : Nat) : List Int := (List.range n).map fun i : Nat => (i : Int)
theorem rints_nats (n : Nat) : rints 0 n = zs (nats n) := by simp [rints, zs, nats]
section
variable {C : Cx} {σ : St}
theorem compOkF {scope : Scope} {cl : List (Str × Addr)} (h1 : closureFor scope C.env = pure cl) (h2 : scope.kind = .function) (h3 : ∀ y ∈ scope.names, y.2 = .local → scope.names.lookup y.1 = some .local) (h4 : ∀ x ∈ cl, C.env.cells.lookup x.1 = some x.2) (h5 : cl.Pairwise fun x y => x.1 ≠ y.1) (h6 : ∀ y ∈ scope.names, y.2 ≠ .cell) : CompOk C scope cl :=
  ⟨h1, h2, h3, fun x c h => h4 (x, c) (mem_of_lookup h), fun x h => mem_of_lookup (h4 x h), h5, fun y _ hm => h6 _ hm rfl⟩
theorem Ev.len {x : Str} {p pos : Pos} {e : Expr} {d : D} {ds : List D} {k : Int} (hb : BN C "len" (.builtin "len")) (he : Ev C σ e d) (hi : Items C σ d ds) (hk : (ds.length : Int) = k) (hs : starEach [e] C.env = [(false, eval e C.env)] := by rfl) : Ev C σ (.Call (.Name "len" p) [e] [] pos) (.int k) :=
  hk ▸ Ev.of_just (EvX.call1 (.inl ⟨_, rfl⟩) hb he (C1.len hi) hs)
theorem Ev.range {p pos : Pos} {e : Expr} {n : Int} (hb : BN C "range" (.type "range")) (he : Ev C σ e (.int n)) (hs : starEach [e] C.env = [(false, eval e C.env)] := by rfl) : Ev C σ (.Call (.Name "range" p) [e] [] pos) (.rng 0 n) :=
  Ev.of_just (EvX.call1 (.inr ⟨_, rfl⟩) hb he C1.range hs)
end
theorem CallSem.pure {G : Gx} {n : Nat} {P : Pred} {f : Addr} {pas : Mu} {ds : List D} {d : D} (h : CallSem G n P f pas ds (fun d' _ => d' = d)) : CallSem G n P f pas ds (Pure d) :=
  ⟨h.fn, fun A K F s vs Q E hr hp X r hQ => h.sem A K F s vs Q E hr hp X r fun F' v s' d' mu hd X' g r' => hQ F' v s' d' [] ⟨hd, rfl⟩ (X'.sub (fun p hp => nomatch hp) List.nodup_nil) g r'⟩
noncomputable def pairUp (as : List Addr) (gs : List (List Int)) : Prs := as.zip gs
theorem pair_ent : ∀ {as : List Addr} {gs : List (List Int)}, zipMu as (gs.map zs) = ent (pairUp as gs)
  | [], _ => by simp [zipMu, ent, pairUp]
  | _ :: _, [] => by simp [zipMu, ent, pairUp]
  | a :: as, g :: gs => by
    have ih := pair_ent (as := as) (gs := gs)
    simp only [zipMu, ent, pairUp, List.map_cons, List.zipWith_cons_cons, List.zip_cons_cons] at ih ⊢
    rw [ih]
theorem pair_refs : ∀ {as : List Addr} {gs : List (List Int)}, as.length = gs.length → as.map D.ref = refs (pairUp as gs)
  | [], [], _ => rfl
  | a :: as, g :: gs, h => by
    have ih := pair_refs (as := as) (gs := gs) (by simpa using h)
    simp only [refs, pairUp, List.map_cons, List.zip_cons_cons] at ih ⊢
    rw [ih]
theorem pair_rows : ∀ {as : List Addr} {gs : List (List Int)}, as.length = gs.length → rowsOf (pairUp as gs) = gs
  | [], [], _ => rfl
  | a :: as, g :: gs, h => by
    have ih := pair_rows (as := as) (gs := gs) (by simpa using h)
    simp only [rowsOf, pairUp, List.map_cons, List.zip_cons_cons] at ih ⊢
    rw [ih]
theorem filter_tr {α : Type} (l : List α) : l.filter (fun _ => true) = l := List.filter_eq_self.mpr (by simp)
theorem OpX.mono {C : Cx} {σ : St} {f : Value → Value → Sem Value} {d1 d2 : D} {R R' : D → Mu → Prop} (h : OpX C σ f d1 d2 R) (hR : ∀ d mu, R d mu → R' d mu) : OpX C σ f d1 d2 R' := fun K F s v1 v2 Q E X r1 r2 hQ => h K F s v1 v2 Q E X r1 r2 fun F' v s' d mu r => hQ F' v s' d mu (hR _ _ r)
noncomputable def zss (es : List (List Int)) : List D := es.map fun e => .list (zs e)
noncomputable abbrev PT : Pred := fun _ _ => True
theorem PT.mon : Pred.Mon PT := fun _ _ _ _ _ _ _ => trivial
end Mine
end

section
set_option Elab.async false
set_option linter.unusedVariables false
set_option linter.unusedSimpArgs false
namespace Mine
open PySem PySem.W PyProof.Rows PySem.Calls
section
variable {C : Cx} {σ : St}
theorem EvX.appendX {o elt : Expr} {apos pos : Pos} {a : Addr} {ds : List D} {R : D → Mu → Prop} {R' : Mu → Prop} (ho : Ev C σ o (.ref a)) (hm0 : (a, MO.list ds) ∈ σ.mu) (he : EvX C σ elt R) (hm : ∀ e mu1, R e mu1 → ∃ mu', MuSet mu1 a (.list ds) (.list (ds ++ [e])) mu' ∧ R' mu') (hl : ds.length < 100000)
    (hbase : attributeBase o "append" C.env (eval o C.env) = eval o C.env := by rfl)
    (hfew : ((backTo pos (starEach [elt] C.env)).all (fun x => !x.1) && (backToKw pos (keywordEach [] C.env)).all (fun x => x.1.isSome) && decide (([elt] : List Expr).length + ([] : List Keyword).length + (if ([] : List Keyword).isEmpty then 0 else 1) < 30)) = true := by rfl)
    (hline : (apos.endLine == pos.line) = true := by rfl) (htrees : backTo pos (starEach [elt] C.env) = [(false, eval elt C.env)] := by rfl) :
    EvX C σ (.Call (.Attribute o "append" apos) [elt] [] pos) (fun d mu => d = .none ∧ R' mu) := fun K F s Q E X hQ => by
  refine wpAny_Call_method (T := "list") (id := "list.append") hbase hfew hline PySem.F.plainAttrs_list PySem.F.slot_list_append PySem.F.type_list_append (ho K F s _ E X fun F1 v s1 X1 g1 r1 => ?_)
  cases r1.ref_inv
  obtain ⟨vs, n, h1, h2, h3⟩ := (X1.am.mus _ hm0).1.isL
  refine ⟨⟨_, h1, rfl⟩, fun b hb => by cases hb; exact ⟨_, h1, rfl⟩, ?_⟩
  rw [htrees]
  refine P.append_list (he K F1 s1 _ E X1 fun F2 w s2 e mu1 hR X2 g2 r2 => ?_)
  obtain ⟨mu', hm1, hm2⟩ := hm e mu1 hR
  obtain ⟨vs', n', k1, k2, k3⟩ := (X2.am.mus _ hm1.mem).1.isL
  have hl2 := k2.length
  refine ⟨vs'.toArray, n', by rw [List.size_toArray]; exact fitsSz (by lia), k1, ?_⟩
  exact hQ F2 _ _ _ _ ⟨rfl, hm2⟩ (X2.upd (t := s2.toks) hm1 k1 (ws := vs' ++ [w]) (by simp) (by simp; lia) (k2.append (.cons r2 .nil))) (g1.trans g2) .none
noncomputable abbrev EvD (C : Cx) (σ : St) (e : Expr) (d : D) (mu : Mu) : Prop := EvX C σ e fun d' mu' => d' = d ∧ mu' = mu
noncomputable def EvLX (C : Cx) (σ : St) (es : List Expr) (ds : List D) (mu : Mu) : Prop :=
  ∀ (pos : Pos) (K F : Fz) (s : Shared) (Q : List Value → Shared → Prop) (E : Value → Shared → Prop), Mo C K σ F s →
    (∀ F' vs s', Mo C K (σ.setMu mu) F' s' → Fle F F' → RepL F' vs ds → Q vs s') → wpAny C.G.M C.A (spliced (backTo pos (starEach es C.env))) Q E s
theorem EvLX.of {es : List Expr} {ds : List D} (h : EvL C σ es ds) : EvLX C σ es ds σ.mu := h
theorem EvLX.cons {e : Expr} {es : List Expr} {d : D} {ds : List D} {mu1 mu : Mu} (h : EvD C σ e d mu1) (hr : EvLX C (σ.setMu mu1) es ds mu) (he : starEach (e :: es) C.env = (false, eval e C.env) :: starEach es C.env := by rfl) : EvLX C σ (e :: es) (d :: ds) mu := fun pos K F s Q E X hQ =>
  wpAny_items_cons (h K F s _ E X fun F1 v s1 d' mu' ⟨e1, e2⟩ X1 g1 r1 => by
    subst e1 e2
    exact hr pos K F1 s1 _ E X1 fun F2 vs s2 X2 g2 r2 => hQ F2 _ s2 X2 (g1.trans g2) (.cons (r1.mono g2) r2)) he
theorem EvX.callX {x : Str} {p pos : Pos} {e : Expr} {es : List Expr} {f : Addr} {ds : List D} {n : Nat} {P : Pred} {d : D} {mu : Mu} (hf : Ev C σ (.Name x p) (.ref f)) (he : EvLX C σ (e :: es) ds mu) (hc : CallSem C.G n P f [] ds (Pure d)) (hn : n ≤ C.rm)
    (hm : P.Mon) (hP : ∀ K F s σ, Mo C K σ F s → P (full F s.heap []) F) (hs : starEach (e :: es) C.env = (false, eval e C.env) :: starEach es C.env := by rfl) :
    EvD C σ (.Call (.Name x p) (e :: es) [] pos) d mu := fun K F s Q E X hQ => by
  refine wpAny_Call_NameR (hf K F s _ E X fun F1 v s1 X1 g1 r1 => ?_)
  cases r1.ref_inv
  obtain ⟨fd, o, ho, hd⟩ := hc.fn _ F1 X1.am.base (hP K F1 s1 _ X1)
  have hev := he pos K F1 s1
  rw [hs] at hev ⊢
  refine callWith_function (o := o) (fd := fd) (Calls.evalArgs_plain (hev _ E X1 fun F2 vs s2 X2 g2 r2 => ?_))
  refine ⟨⟨X2.am.frz _ _ (g2 _ _ ho), hd⟩, ?_⟩
  refine hc.sem C.A _ F2 s2 _ Q E (X.ok.rm.mono hn) (hP K F2 s2 _ X2) (X2.am.leave (pas := []) rfl) r2 fun F' v' s' d' mu' hR A' g' r' => ?_
  obtain ⟨rfl, rfl⟩ := hR
  have B := X2.back (pas := []) (oth := mu) rfl A' g'
  exact hQ F' v' s' _ _ ⟨rfl, rfl⟩ B ((g1.trans g2).trans g') r'
theorem EvD.tupIdx {value slice : Expr} {p : Pos} {x : D} {ds : List D} {k : Int} {mu : Mu} (hv : EvD C σ value (.tup ds) mu) (hs : Ev C (σ.setMu mu) slice (.int k)) (h0 : 0 ≤ k) (hx : ds[k.toNat]? = some x)
    (ho : ∀ a t, subscripted slice false (.ref a) (.int k t) = operate [.ref a, .int k t] (getItem (.ref a) (.int k t)) := by intro _ _; with_unfolding_all rfl) : EvD C σ (.Subscript value slice p) x mu := fun K F s Q E X hQ => by
  refine Subscript_ (hv K F s _ E X fun F1 v1 s1 d1 mu1 ⟨e1, e2⟩ X1 g1 r1 => ?_)
  subst e1 e2
  refine hs K F1 s1 _ E X1 fun F2 v2 s2 X2 g2 r2 => ?_
  obtain ⟨a, vs, n, rfl, h1, h2, h3⟩ := tup_at X2 (r1.mono g2)
  obtain ⟨t, rfl⟩ := r2.int_inv
  obtain ⟨v, hv, hr⟩ := h2.get hx
  have hlt : k.toNat < ds.length := (List.getElem?_eq_some_iff.mp hx).1
  have hl := h2.length
  exact item_tupleT (l := vs) (j := k.toNat) ⟨_, h1, rfl, _, rfl⟩ (by lia) (by lia) (seqIndex_of h0 (by lia)) hv (hQ F2 v s2 _ _ ⟨rfl, rfl⟩ X2 (g1.trans g2) hr) (ho a t)
noncomputable def EvTX (C : Cx) (σ : St) (e : Expr) (b : Bool) (mu : Mu) : Prop :=
  ∀ (K F : Fz) (s : Shared) (Q : Bool → Shared → Prop) (E : Value → Shared → Prop), Mo C K σ F s → (∀ F' s', Mo C K (σ.setMu mu) F' s' → Fle F F' → Q b s') → wpAny C.G.M C.A (isTrue e C.env (eval e C.env)) Q E s
theorem EvTX.cmp {l r : Expr} {op : CmpOp} {p : Pos} {d1 d2 : D} {b : Bool} {mu : Mu} (hl : EvD C σ l d1 mu) (hr : Ev C (σ.setMu mu) r d2) (ho : CmpSem C (σ.setMu mu) op d1 d2 b) (hm : behindInMarks op r = false := by with_unfolding_all rfl) :
    EvTX C σ (.Compare l [op] [r] p) b mu := fun K F s Q E X hQ =>
  wpAny_isTrue_Compare1 (hl K F s _ E X fun F1 v1 s1 d' mu' ⟨e1, e2⟩ X1 g1 r1 => by
    subst e1 e2
    exact hr K F1 s1 _ E X1 fun F2 v2 s2 X2 g2 r2 =>
      ho K F2 s2 v1 v2 _ E X2 (r1.mono g2) r2 fun F3 v s3 X3 g3 r3 => by
        cases r3.bool_inv
        exact wpAny_truthy_bool (hQ F3 s3 X3 ((g1.trans g2).trans g3))) hm
theorem EvTX.cast {e : Expr} {b b' : Bool} {mu : Mu} (h : EvTX C σ e b mu) (hb : b = b') : EvTX C σ e b' mu := hb ▸ h
theorem WP.ifsX {test : Expr} {b : Bool} {mu : Mu} {body orelse ss : List Stmt} {pos : Pos} {Φ : Out → St → Prop} (ht : EvTX C σ test b mu)
    (h1 : b = true → WP C (σ.setMu mu) body fun o σ' => match o with | .next => WP C σ' ss Φ | o => Φ o σ') (h2 : b = false → WP C (σ.setMu mu) orelse fun o σ' => match o with | .next => WP C σ' ss Φ | o => Φ o σ') : WP C σ (.If test body orelse pos :: ss) Φ :=
  WP.cons fun K F s Q E X hQ => wpAny_If (ht K F s _ E X fun F' s' X' g => by
    have fin : ∀ f o F2 s2 σ2, OutIs F2 f o → Mo C K σ2 F2 s2 → Fle F' F2 → (match o with | .next => WP C σ2 ss Φ | o => Φ o σ2) → Q f s2 := fun f o F2 s2 σ2 ho X2 g2 r => hQ f o F2 s2 σ2 ho X2 (g.trans g2) r
    cases b with
    | true => exact h1 rfl K F' s' Q E X' fin
    | false => exact h2 rfl K F' s' Q E X' fin)
end
end Mine
end

section
set_option linter.unusedVariables false
set_option linter.unusedSimpArgs false
namespace Mine
noncomputable abbrev Tb := List (List Int)
noncomputable def lastI (r : List Int) : Int := r.getD (r.length - 1) 0
noncomputable def spotI (r : List Int) (x : Int) : Nat := (r.filter fun y => decide (y < x)).length
noncomputable def insR : Tb → Int → Tb × Nat
  | [], x => ([[x]], 0)
  | r :: rs, x => if x < lastI r then (r.set (spotI r x) x :: (insR rs (r.getD (spotI r x) 0)).1, (insR rs (r.getD (spotI r x) 0)).2 + 1) else ((r ++ [x]) :: rs, 0)
noncomputable def markAt (ms : Tb) (p : Nat) (step : Int) : Tb := if p = ms.length then ms ++ [[step]] else ms.set p (ms.getD p [] ++ [step])
noncomputable def insP (t : Tb × Tb) (x : Int) : Tb × Tb := ((insR t.1 x).1, markAt t.2 (insR t.1 x).2 (total t.1 : Nat))
structure InsOk (t : Tb × Tb) : Prop where
  ne : ∀ r ∈ t.1, r ≠ []
  len : t.2.length = t.1.length
  z1 : t.1.length ≤ 60
  z2 : ∀ r ∈ t.1, r.length ≤ 60
  z3 : ∀ r ∈ t.2, r.length ≤ 60
theorem spotI_lt {r : List Int} {x : Int} (h : x < lastI r) (hne : r ≠ []) : spotI r x < r.length := by
  have hm : lastI r ∈ r := by
    unfold lastI
    have : r.length - 1 < r.length := by
      have := List.length_pos_iff.mpr hne; lia
    rw [List.getD_eq_getElem?_getD, List.getElem?_eq_getElem this]
    exact List.getElem_mem _
  unfold spotI
  rw [← List.countP_eq_length_filter]
  refine Nat.lt_of_le_of_ne List.countP_le_length fun e => ?_
  have := (List.countP_eq_length.mp e) _ hm
  simp at this; lia
noncomputable def upR : Tb → Int → Tb × Int
  | [], x => ([], x)
  | r :: rs, x => (r.set (spotI r (upR rs x).2 - 1) (upR rs x).2 :: (upR rs x).1, r.getD (spotI r (upR rs x).2 - 1) 0)
noncomputable def upOk : Tb → Int → Prop
  | [], _ => True
  | r :: rs, x => upOk rs x ∧ 1 ≤ spotI r (upR rs x).2
noncomputable def whereI (ms : Tb) (step : Int) : Nat := ms.findIdx fun m => lastI m == step
noncomputable def undoP (s : (Tb × Tb) × List Int) (step : Int) : (Tb × Tb) × List Int :=
  (((upR (s.1.1.take (whereI s.1.2 step)) (lastI (s.1.1.getD (whereI s.1.2 step) []))).1 ++ (s.1.1.getD (whereI s.1.2 step) []).dropLast :: s.1.1.drop (whereI s.1.2 step + 1),
    s.1.2.set (whereI s.1.2 step) (s.1.2.getD (whereI s.1.2 step) []).dropLast), (upR (s.1.1.take (whereI s.1.2 step)) (lastI (s.1.1.getD (whereI s.1.2 step) []))).2 :: s.2)
structure UndoOk (s : (Tb × Tb) × List Int) (step : Int) : Prop where
  len : s.1.1.length = s.1.2.length
  lt : whereI s.1.2 step < s.1.2.length
  ne : ∀ i m, i ≤ whereI s.1.2 step → s.1.2[i]? = some m → m ≠ []
  ne2 : ∀ r, s.1.1[whereI s.1.2 step]? = some r → r ≠ []
  up : upOk (s.1.1.take (whereI s.1.2 step)) (lastI (s.1.1.getD (whereI s.1.2 step) []))
  z1 : s.1.1.length ≤ 60
  z2 : ∀ r ∈ s.1.1, r.length ≤ 60
  z3 : ∀ r ∈ s.1.2, r.length ≤ 60
  z4 : s.2.length ≤ 60
theorem spotI_le (r : List Int) (x : Int) : spotI r x ≤ r.length := List.length_filter_le _ _
theorem upR_snoc : ∀ (pre : Tb) (r : List Int) (x : Int), upR (pre ++ [r]) x = ((upR pre (r.getD (spotI r x - 1) 0)).1 ++ [r.set (spotI r x - 1) x], (upR pre (r.getD (spotI r x - 1) 0)).2)
  | [], r, x => rfl
  | a :: pre, r, x => by
    show upR (a :: (pre ++ [r])) x = _
    rw [upR, upR_snoc pre r x]
    rfl
theorem upOk_snoc : ∀ (pre : Tb) (r : List Int) (x : Int), upOk (pre ++ [r]) x → 1 ≤ spotI r x ∧ upOk pre (r.getD (spotI r x - 1) 0)
  | [], r, x, h => ⟨h.2, trivial⟩
  | a :: pre, r, x, h => by
    have h' : upOk (pre ++ [r]) x ∧ 1 ≤ spotI a (upR (pre ++ [r]) x).2 := h
    obtain ⟨h1, h2⟩ := upOk_snoc pre r x h'.1
    refine ⟨h1, h2, ?_⟩
    have := h'.2
    rwa [upR_snoc] at this
noncomputable def colI (t : Tb) (c : Nat) : List Int := (t.filter fun r => decide (c < r.length)).map fun r => r.getD c 0
noncomputable def colsI (t : Tb) : Tb := (List.range (t.getD 0 []).length).map (colI t)
noncomputable def listsI (t : Tb) : Tb := t ++ (colsI t).map List.reverse
noncomputable def rskW (w : List Int) : Tb × Tb := w.foldl insP ([], [])
noncomputable def undoW (s : (Tb × Tb) × List Int) (steps : List Int) : (Tb × Tb) × List Int := steps.foldl undoP s
noncomputable def natI (n : Nat) : List Int := (List.range n).map fun i : Nat => (i : Int)
noncomputable def rankI (drawn : List Int) (p : Int) : List Int := (natI drawn.length).filter fun q => decide (drawn.getD q.toNat 0 < drawn.getD p.toNat 0) || (drawn.getD q.toNat 0 == drawn.getD p.toNat 0 && decide (q < p))
noncomputable def ranksI (drawn : List Int) : List Int := (natI drawn.length).map fun p => ((rankI drawn p).length : Int)
noncomputable def upI (t : Tb) : Tb := t.reverse ++ (colsI t).map List.reverse
structure TabOk (t : Tb) : Prop where
  ne : t ≠ []
  z1 : t.length ≤ 30
  z2 : ∀ r ∈ t, r.length ≤ 60
  z3 : (colsI t).length ≤ 30
  ln : ∀ r ∈ listsI t, r ≠ [] ∧ r.length ≤ 60
  mg : ∀ ls : Tb, ls.Perm (listsI t) → (∀ r ∈ (mrg ls).2, r = []) ∧ (mrg ls).1.length ≤ 60 ∧ (rskW (mrg ls).1).1 = t
noncomputable def UndoRun (s : (Tb × Tb) × List Int) (steps : List Int) : Prop := ∀ k x, steps[k]? = some x → UndoOk (undoW s (steps.take k)) x
structure Law3 (drawn : List Int) (order : List Int) : Prop where
  e1 : rskW order = ((rskW (ranksI drawn)).2, (rskW (ranksI drawn)).1)
  e2 : (rskW (ranksI drawn).reverse).1 = colsI (rskW (ranksI drawn)).1
  t1 : TabOk (rskW (ranksI drawn)).1
  t2 : TabOk (rskW (ranksI drawn)).2
  u1 : ∀ r ∈ (mrg (upI (rskW (ranksI drawn)).1)).2, r = []
  u2 : (mrg (upI (rskW (ranksI drawn)).1)).1 = (rskW (ranksI drawn)).1.reverse.flatten
  u3 : (rskW (ranksI drawn)).1.flatten.length ≤ 60
  v1 : UndoRun (((rskW (ranksI drawn)).1, (rskW (ranksI drawn)).2), []) (natI drawn.length).reverse
  v2 : (undoW (((rskW (ranksI drawn)).1, (rskW (ranksI drawn)).2), []) (natI drawn.length).reverse).2 = ranksI drawn
  w1 : UndoRun (((rskW (ranksI drawn)).1, (rskW (ranksI drawn)).1), []) (natI drawn.length).reverse
  w2 : ∀ tw, tw = (undoW (((rskW (ranksI drawn)).1, (rskW (ranksI drawn)).1), []) (natI drawn.length).reverse).2 → tw.length ≤ 60 ∧ (∀ x ∈ tw, 0 ≤ x ∧ x.toNat < tw.length) ∧ (tw.map fun x => tw.getD x.toNat 0) = natI drawn.length ∧ rskW tw = ((rskW (ranksI drawn)).1, (rskW (ranksI drawn)).1)
end Mine
end

section
set_option Elab.async false
set_option linter.unusedVariables false
set_option linter.unusedSimpArgs false
set_option maxRecDepth 100000
namespace Mine
open PySem PySem.W PyProof.Rows PySem.Calls
theorem ent_set {prs : Prs} {k : Nat} {p : Addr × List Int} {r : List Int} (h : prs[k]? = some p) : MuSet (ent prs) p.1 (.list (zs p.2)) (.list (zs r)) (ent (prs.set k (p.1, r))) := by
  obtain ⟨hk, rfl⟩ := List.getElem?_eq_some_iff.mp h
  refine ⟨ent (prs.take k), ent (prs.drop (k + 1)), ?_, ?_⟩
  · have : prs = prs.take k ++ prs[k] :: prs.drop (k + 1) := by rw [List.getElem_cons_drop, List.take_append_drop]
    conv => lhs; rw [this]
    rw [ent_append]; rfl
  · rw [List.set_eq_take_append_cons_drop, if_pos hk, ent_append]; rfl
theorem refs_set {prs : Prs} {k : Nat} {p : Addr × List Int} {r : List Int} (h : prs[k]? = some p) : refs (prs.set k (p.1, r)) = refs prs := by
  unfold refs
  rw [List.map_set]
  refine List.ext_getElem? fun i => ?_
  rw [List.getElem?_set]
  split
  · rename_i e; subst e
    rw [List.getElem?_map, h]
    obtain ⟨hk, _⟩ := List.getElem?_eq_some_iff.mp h
    simp [hk]
  · rfl
theorem refs_at {prs : Prs} {k : Nat} {p : Addr × List Int} (h : prs[k]? = some p) : (refs prs)[((k : Nat) : Int).toNat]? = some (.ref p.1) := by
  rw [Int.toNat_natCast, refs, List.getElem?_map, h]; rfl
theorem refs_len (prs : Prs) : (refs prs).length = prs.length := List.length_map _
theorem rows_set {prs : Prs} {k : Nat} {a : Addr} {r : List Int} : rowsOf (prs.set k (a, r)) = (rowsOf prs).set k r := by
  unfold rowsOf; rw [List.map_set]
theorem rows_at {prs : Prs} {k : Nat} {p : Addr × List Int} (h : prs[k]? = some p) : (rowsOf prs)[k]? = some p.2 := by
  unfold rowsOf; rw [List.getElem?_map, h]; rfl
theorem rows_len (prs : Prs) : (rowsOf prs).length = prs.length := List.length_map _
theorem zs_getL (l : List Int) {i : Nat} (h : i < l.length) : (zs l)[((i : Nat) : Int).toNat]? = some (.int (l.getD i 0)) := by rw [Int.toNat_natCast]; exact zs_get l h
theorem copies {C : Cx} {σ : St} {e : Expr} {scope : Scope} {px p1 p2 p3 : Pos} {t : Tb} {pos : Pos} (hs1 : closureFor scope C.env = pure []) (hs2 : scope.kind = .function) (hs3 : ∀ y ∈ scope.names, y.2 = .local → scope.names.lookup y.1 = some .local) (hs4 : ∀ y ∈ scope.names, y.2 ≠ .cell) (hs5 : scope.names.lookup ("row" : Str) = some .local)
    (he : Ev C σ e (.list (zss t))) (hz : t.length ≤ 1000) (hs : ∀ x, foldedSetIterable e C.env x = pure x := by intro _; rfl) :
    EvC C σ (.Subscript (.Name "row" p1) (.Slice none none none p2) p3) [⟨.Name "row" px, e, [], 0⟩] scope pos (FreshL σ (t.map zs)) := by
  refine EvC.mono (EvC.fresh (scope := scope) t (fun r => .list (zs r)) (fun _ => true) zs (compOk0 hs1 hs2 hs3 hs4) (.inl hs5) he ItD.list (by lia) (fun L nm a ha => ⟨rfl, fun _ => EvN.copy (d := .list (zs a)) (Ev.name rfl) Items.list⟩) hs) fun d mu h => ?_
  rw [filter_tr] at h; exact h
theorem prs_split (l : Prs) : refs l = (l.map (·.1)).map .ref ∧ ent l = zipMu (l.map (·.1)) ((rowsOf l).map zs) ∧ (l.map (·.1)).length = ((rowsOf l).map zs).length := by
  refine ⟨by simp [refs], ?_, by simp [rowsOf]⟩
  unfold ent rowsOf zipMu
  induction l with
  | nil => rfl
  | cons x l ih => simp only [List.map_cons, List.zipWith_cons_cons]; rw [ih]
theorem WP.freeze2 {C : Cx} {σ : St} {ss : List Stmt} {Φ : Out → St → Prop} {a b : Addr} {prs qrs : Prs} {x y : Str} (more : List (Str × D)) (hxy : x ≠ y) (h1 : σ.mu = (a, .list (refs prs)) :: (b, .list (refs qrs)) :: (ent prs ++ ent qrs))
    (v1 : σ.v x = some (.ref a)) (v2 : σ.v y = some (.ref b)) (v3 : ∀ p ∈ more, σ.v p.1 = some p.2) (h : WP C { vars := (x, .list (zss (rowsOf prs))) :: (y, .list (zss (rowsOf qrs))) :: more, mu := [] } ss Φ) : WP C σ ss Φ := by
  refine WP.perm (mu' := (a, .list (refs prs)) :: (ent prs ++ ((b, .list (refs qrs)) :: ent qrs))) (by rw [h1]; exact List.Perm.cons _ List.perm_middle) ?_
  refine WP.freezeL (a := a) (as := prs.map (·.1)) (gs := (rowsOf prs).map zs) (mu := (b, .list (refs qrs)) :: ent qrs) (vars := (x, .list (zss (rowsOf prs))) :: (y, .ref b) :: more) (prs_split prs).2.2 (by rw [(prs_split prs).1, (prs_split prs).2.1]; rfl) (fun z e hz => ?_) ?_
  · have := mem_of_lookup hz
    simp only [List.mem_cons, Prod.mk.injEq] at this
    rcases this with ⟨rfl, rfl⟩ | ⟨rfl, rfl⟩ | h'
    · exact .inr ⟨v1, by rw [List.map_map]; rfl⟩
    · exact .inl v2
    · exact .inl (v3 _ h')
  refine WP.freezeL (a := b) (as := qrs.map (·.1)) (gs := (rowsOf qrs).map zs) (mu := []) (vars := (x, .list (zss (rowsOf prs))) :: (y, .list (zss (rowsOf qrs))) :: more) (prs_split qrs).2.2 (by rw [(prs_split qrs).1, (prs_split qrs).2.1, List.append_nil]) (fun z e hz => ?_) h
  rw [List.lookup_cons] at hz
  rw [List.lookup_cons]
  by_cases zx : z = x
  · subst zx; rw [beq_self_eq_true] at hz ⊢; exact .inl hz
  · rw [beq_eq_false_iff_ne.mpr zx] at hz ⊢
    rw [List.lookup_cons] at hz
    rw [List.lookup_cons]
    by_cases zy : z = y
    · subst zy; rw [beq_self_eq_true] at hz ⊢; cases hz; exact .inr ⟨rfl, by rw [List.map_map]; rfl⟩
    · rw [beq_eq_false_iff_ne.mpr zy] at hz ⊢; exact .inl hz
section
variable {G : Gx} {f : Addr} {name qual : Str} {dV kV doc pm cdv ct : Value} {an : Option Addr}
noncomputable abbrev inCx (G : Gx) (A : Around) (name qual : Str) (doc pm cdv ct : Value) (an : Option Addr) (f L : Addr) (n : Nat) (P : Pred) : Cx := fnCxC G A (fdN 6 name qual .none .none doc pm an cdv ct) f L n P
structure InsI (t0 : Tb) (x0 : Int) (cur : Tb) (k : Nat) (x : Int) : Prop where
  le : k ≤ cur.length
  len : cur.length = t0.length
  eq : insR t0 x0 = (cur.take k ++ (insR (cur.drop k) x).1, k + (insR (cur.drop k) x).2)
  ne : ∀ r ∈ cur, r ≠ []
  z : ∀ r ∈ cur, r.length ≤ 60
theorem drop_at {cur : Tb} {k : Nat} {r : List Int} (h : cur[k]? = some r) : cur.drop k = r :: cur.drop (k + 1) := by
  obtain ⟨hk, rfl⟩ := List.getElem?_eq_some_iff.mp h
  exact (List.getElem_cons_drop ..).symm
theorem set_split {cur : Tb} {k : Nat} {r : List Int} (h : k < cur.length) : cur.set k r = cur.take k ++ r :: cur.drop (k + 1) := by rw [List.set_eq_take_append_cons_drop, if_pos h]
theorem InsI.step {t0 cur : Tb} {x0 x : Int} {k : Nat} {r : List Int} (h : InsI t0 x0 cur k x) (hr : cur[k]? = some r) (hx : x < lastI r) : InsI t0 x0 (cur.set k (r.set (spotI r x) x)) (k + 1) (r.getD (spotI r x) 0) := by
  have hk := (List.getElem?_eq_some_iff.mp hr).1
  have hm := List.mem_of_getElem? hr
  have hl : (cur.take k).length = k := by simp; lia
  refine ⟨by simp; lia, by simp [h.len], ?_, fun q hq => ?_, fun q hq => ?_⟩
  · rw [h.eq, drop_at hr, insR, if_pos hx, set_split hk]
    have e1 : (cur.take k ++ r.set (spotI r x) x :: cur.drop (k + 1)).take (k + 1) = cur.take k ++ [r.set (spotI r x) x] := by
      rw [List.take_append, hl, List.take_of_length_le (by lia)]
      simp [show k + 1 - k = 1 by lia]
    have e2 : (cur.take k ++ r.set (spotI r x) x :: cur.drop (k + 1)).drop (k + 1) = cur.drop (k + 1) := by
      rw [List.drop_append, hl, List.drop_of_length_le (by lia)]
      simp [show k + 1 - k = 1 by lia]
    rw [e1, e2]
    simp; lia
  · rcases List.mem_or_eq_of_mem_set hq with hq | rfl
    · exact h.ne _ hq
    · have := h.ne _ hm
      intro e
      have e := congrArg List.length e
      rw [List.length_set] at e
      exact this (List.eq_nil_of_length_eq_zero e)
  · rcases List.mem_or_eq_of_mem_set hq with hq | rfl
    · exact h.z _ hq
    · rw [List.length_set]; exact h.z _ hm
theorem InsI.stop {t0 cur : Tb} {x0 x : Int} {k : Nat} {r : List Int} (h : InsI t0 x0 cur k x) (hr : cur[k]? = some r) (hx : ¬ x < lastI r) : insR t0 x0 = (cur.set k (r ++ [x]), k) := by
  have hk := (List.getElem?_eq_some_iff.mp hr).1
  rw [h.eq, drop_at hr, insR, if_neg hx, set_split hk]
  simp
theorem InsI.past {t0 cur : Tb} {x0 x : Int} {k : Nat} (h : InsI t0 x0 cur k x) (hk : k = cur.length) : insR t0 x0 = (cur ++ [[x]], k) := by
  rw [h.eq, hk]
  simp [insR]
theorem ins_tail {A : Around} {L : Addr} {n : Nat} {P : Pred} {cur qrs : Prs} {k : Nat} {x step : Int} {a b : Addr} {p q : Addr × List Int} {σ : St} {o1 o2 : Tb} (hp : cur[k]? = some p) (hq : qrs[k]? = some q) (h1 : σ.mu = (a, .list (refs cur)) :: (b, .list (refs qrs)) :: (ent cur ++ ent qrs))
    (v1 : σ.v "rows" = some (.ref a)) (v2 : σ.v "marks" = some (.ref b)) (v3 : σ.v "step" = some (.int step)) (v4 : σ.v "place" = some (.int k)) (v5 : σ.v "number" = some (.int x)) (hz : p.2.length ≤ 60) (hz2 : q.2.length ≤ 60)
    (e1 : rowsOf (cur.set k (p.1, p.2 ++ [x])) = o1) (e2 : rowsOf (qrs.set k (q.1, q.2 ++ [step])) = o2) :
    WP (inCx G A name qual doc pm cdv ct an f L n P) σ ((bo 6).drop 6) (Fin (fun d _ => d = .tup [.list (zss o1), .list (zss o2)])) := by
  have i1 : Items (inCx G A name qual doc pm cdv ct an f L n P) σ (.ref a) (refs cur) := Items.mu (by rw [h1]; exact .head _)
  refine WP.exprX (EvX.append (a := p.1) (ds := zs p.2) (e := .int x) (mu' := (a, .list (refs cur)) :: (b, .list (refs qrs)) :: (ent (cur.set k (p.1, p.2 ++ [x])) ++ ent qrs)) (Ev.idx (Ev.name v1) i1 (Ev.name v4) (by lia) (refs_at hp)) (Ev.name v5) ?_ (by rw [zs_length]; lia)) ?_
  · rw [h1, zs_snoc]
    exact .tail (.tail (.left (ent_set hp)))
  rintro d mu ⟨rfl, rfl⟩
  refine WP.exprX (EvX.append (a := q.1) (ds := zs q.2) (e := .int step) (mu' := (a, .list (refs cur)) :: (b, .list (refs qrs)) :: (ent (cur.set k (p.1, p.2 ++ [x])) ++ ent (qrs.set k (q.1, q.2 ++ [step])))) (Ev.idx (d := .ref b) (Ev.name v2) (Items.mu (.tail _ (.head _))) (Ev.name v4) (by lia) (refs_at hq)) (Ev.name v3) ?_ (by rw [zs_length]; lia)) ?_
  · rw [zs_snoc]
    exact .tail (.tail (.right (ent_set hq)))
  rintro d mu ⟨rfl, rfl⟩
  rw [← refs_set (r := p.2 ++ [x]) hp, ← refs_set (r := q.2 ++ [step]) hq]
  generalize cur.set k (p.1, p.2 ++ [x]) = cur' at *
  generalize qrs.set k (q.1, q.2 ++ [step]) = qrs' at *
  refine WP.freeze2 (x := "rows") (y := "marks") [] (by decide) rfl v1 v2 (fun p hp => nomatch hp) ?_
  rw [e1, e2]
  exact WP.ret (Ev.tuple (EvL.cons (Ev.name rfl) (EvL.cons (Ev.name rfl) EvL.nil)) (by simp)) rfl
end
end Mine
end

section
set_option Elab.async false
set_option linter.unusedVariables false
set_option linter.unusedSimpArgs false
set_option maxRecDepth 100000
namespace Mine
open PySem PySem.W PyProof.Rows PySem.Calls
theorem lastI_at {r : List Int} (h : r ≠ []) : (zs r)[((-1 : Int) + (zs r).length).toNat]? = some (.int (lastI r)) := by
  have hl := List.length_pos_iff.mpr h
  rw [zs_length, show ((-1 : Int) + r.length).toNat = r.length - 1 by lia]
  exact zs_get r (by lia)
theorem neg1C {C : Cx} {σ : St} {k : Nat} {p p' : Pos} : Ev C σ (.UnaryOp .USub (.Constant (.int 1) k p) p') (.int (-1)) := Ev.neg1
theorem perm_two {α : Type} (x y s t : α) (u v : List α) : (x :: y :: (u ++ [s] ++ (v ++ [t]))).Perm (t :: s :: x :: y :: (u ++ v)) := by
  have h1 : (u ++ [s] ++ (v ++ [t])).Perm (t :: s :: (u ++ v)) := by
    rw [← List.append_assoc]
    refine (List.perm_append_singleton t _).trans (List.Perm.cons t ?_)
    rw [List.append_assoc]
    exact List.perm_middle
  exact ((h1.cons y).cons x).trans (List.perm_append_comm (l₁ := [x, y]) (l₂ := [t, s]) |>.append_right (u ++ v))
section
variable {G : Gx} {f : Addr} {name qual : Str} {dV kV doc pm cdv ct : Value} {an : Option Addr}
structure InsSt (a b : Addr) (cur qrs : Prs) (k : Nat) (x step : Int) (σ : St) : Prop where
  mu : σ.mu = (a, .list (refs cur)) :: (b, .list (refs qrs)) :: (ent cur ++ ent qrs)
  v1 : σ.v "rows" = some (.ref a)
  v2 : σ.v "marks" = some (.ref b)
  v3 : σ.v "step" = some (.int step)
  v4 : σ.v "place" = some (.int k)
  v5 : σ.v "number" = some (.int x)
theorem cellN {A : Around} {L : Addr} {n : Nat} {P : Pred} : Stores (inCx G A name qual doc pm cdv ct an f L n P) "number" := .inr ⟨rfl, L + 1, rfl, .tail _ (.head _)⟩
theorem ins_loop {A : Around} {L : Addr} {n : Nat} {P : Pred} {t : Tb × Tb} {x0 step : Int} {a b : Addr} {prs qrs : Prs} {σ : St} (B : Bt G) (OK : InsOk t) (hp : rowsOf prs = t.1) (hq : rowsOf qrs = t.2) (hst : step = (total t.1 : Nat)) (S : InsSt a b prs qrs 0 x0 step σ) :
    WP (inCx G A name qual doc pm cdv ct an f L n P) σ ((bo 6).drop 4) (Fin (fun d _ => d = .tup [.list (zss (insP t x0).1), .list (zss (insP t x0).2)])) := by
  refine WP.while (fun m σ => ∃ cur k x, m = cur.length - k ∧ InsI t.1 x0 (rowsOf cur) k x ∧ refs cur = refs prs ∧ InsSt a b cur qrs k x step σ) prs.length ⟨prs, 0, x0, rfl, ⟨by lia, by rw [hp], by simp [hp], by rw [hp]; exact OK.ne, by rw [hp]; exact OK.z2⟩, rfl, S⟩ ?_
  rintro m σ ⟨cur, k, x, rfl, I, hrf, S⟩
  have hcl : cur.length = t.1.length := by rw [← I.len, rows_len]
  have hql : qrs.length = t.2.length := by rw [← hq, rows_len]
  have hz1 := OK.z1
  have hol := OK.len
  have hle := I.le
  rw [rows_len] at hle
  have iR : Items (inCx G A name qual doc pm cdv ct an f L n P) σ (.ref a) (refs cur) := Items.mu (by rw [S.mu]; exact .head _)
  have hlen : ∀ {q1 q2 q3}, Ev (inCx G A name qual doc pm cdv ct an f L n P) σ (.Call (.Name "len" q1) [.Name "rows" q2] [] q3) (.int cur.length) := fun {q1 q2 q3} => Ev.len (x := "len") ⟨rfl, B.len.1, B.len.2, rfl⟩ (Ev.name S.v1) iR (by rw [refs_len])
  by_cases hk : k < cur.length
  · obtain ⟨p, hpk⟩ : ∃ p, cur[k]? = some p := ⟨_, List.getElem?_eq_getElem hk⟩
    have hpm := List.mem_of_getElem? hpk
    have hr := rows_at hpk
    have hne := I.ne _ (List.mem_of_getElem? hr)
    have hpz := I.z _ (List.mem_of_getElem? hr)
    have hpmu : (p.1, MO.list (zs p.2)) ∈ σ.mu := by rw [S.mu]; exact .tail _ (.tail _ (List.mem_append_left _ (ent_mem hpm)))
    refine ⟨true && decide (x < lastI p.2), EvT.and (EvT.cast (EvT.cmp (Ev.name S.v4) hlen Cm.lt) (by simp; lia)) (fun _ => EvT.cmp (Ev.idxNeg (Ev.idx (Ev.name S.v1) iR (Ev.name S.v4) (by lia) (refs_at hpk)) (Items.mu hpmu) neg1C (by lia) (by have := List.length_pos_iff.mpr hne; rw [zs_length]; lia) (lastI_at hne)) (Ev.name S.v5) Cm.gt), fun hb => ?_, fun hb => ?_⟩
    · have hx : x < lastI p.2 := by simpa using hb
      have hs := spotI_lt hx hne
      refine WP.keep [("rows", .ref a), ("marks", .ref b), ("step", .int step), ("place", .int k), ("number", .int x)] ?_ ?_
      · intro q hq
        simp only [List.mem_cons, List.not_mem_nil, or_false] at hq
        rcases hq with rfl | rfl | rfl | rfl | rfl
        · exact S.v1
        · exact S.v2
        · exact S.v3
        · exact S.v4
        · exact S.v5
      rw [S.mu] at hpmu ⊢
      have iR2 : ∀ vars, Items (inCx G A name qual doc pm cdv ct an f L n P) { vars := vars, mu := (a, MO.list (refs cur)) :: (b, MO.list (refs qrs)) :: (ent cur ++ ent qrs) } (.ref a) (refs cur) := fun vars => Items.mu (.head _)
      refine WP.set (x := "spot") (d := .int (spotI p.2 x : Nat)) (.inl rfl) (Ev.len (x := "len") ⟨rfl, B.len.1, B.len.2, rfl⟩ (Ev.of_new (EvC.ev (EvC.plain (scope := _) p.2 D.int (fun y => decide (y < x)) D.int (compOkF rfl rfl (by decide) (fun x hx => by obtain rfl := List.mem_singleton.mp hx; rfl) (List.pairwise_singleton _ _) (by decide)) (.inl rfl) (Ev.idx (d := .ref a) (Ev.name rfl) (iR2 _) (Ev.name (d := .int k) rfl) (by lia) (refs_at hpk)) (.inl (Items.mu hpmu)) (by lia)
        fun L' y hy => ⟨EvT.cmp (Ev.name (d := .int y) rfl) (Ev.name (d := .int x) rfl) Cm.lt, fun _ => Ev.name rfl⟩))) Items.list (by rw [List.length_map]; rfl)) ?_
      refine WP.set (x := "bumped") (d := .int (p.2.getD (spotI p.2 x) 0)) (.inl rfl) (Ev.idx (d := .ref p.1) (Ev.idx (d := .ref a) (Ev.name rfl) (iR2 _) (Ev.name (d := .int k) rfl) (by lia) (refs_at hpk)) (Items.mu hpmu) (Ev.name rfl) (by lia) (zs_getL _ hs)) ?_
      refine WP.setItem (a := p.1) (k := (spotI p.2 x : Nat)) (d := .int x) (ds := zs p.2) (mu' := (a, .list (refs cur)) :: (b, .list (refs qrs)) :: (ent (cur.set k (p.1, p.2.set (spotI p.2 x) x)) ++ ent qrs)) (Ev.name rfl) (Ev.idx (d := .ref a) (Ev.name rfl) (iR2 _) (Ev.name (d := .int k) rfl) (by lia) (refs_at hpk)) (Ev.name rfl) (by lia) (by rw [Int.toNat_natCast, zs_length]; exact hs) ?_ ?_
      · rw [Int.toNat_natCast, zs_set]
        exact .tail (.tail (.left (ent_set hpk)))
      refine WP.set (x := "number") (d := .int (p.2.getD (spotI p.2 x) 0)) cellN (Ev.name rfl) ?_
      refine WP.set (x := "place") (d := .int (k + 1 : Nat)) (.inl rfl) (Ev.cast (Ev.bin (Ev.name (d := .int k) rfl) Ev.int Op.add) (by congr 1)) (WP.nil ?_)
      refine ⟨cur.length - (k + 1), by lia, cur.set k (p.1, p.2.set (spotI p.2 x) x), k + 1, _, by rw [List.length_set], by rw [rows_set]; exact I.step hr hx, (refs_set hpk).trans hrf, ?_, rfl, rfl, rfl, rfl, rfl⟩
      rw [refs_set hpk]; rfl
    · have hx : ¬ x < lastI p.2 := by simpa using hb
      have hI := I.stop hr hx
      refine WP.ifs (b := false) (EvT.cast (EvT.cmp (Ev.name S.v4) hlen Cm.eq) (by simp; lia)) (fun h => nomatch h) fun _ => WP.nil ?_
      obtain ⟨q, hqk⟩ : ∃ q, qrs[k]? = some q := ⟨_, List.getElem?_eq_getElem (by lia)⟩
      refine ins_tail hpk hqk S.mu S.v1 S.v2 S.v3 S.v4 S.v5 hpz (OK.z3 _ (by rw [← hq]; exact List.mem_of_getElem? (rows_at hqk))) ?_ ?_
      · rw [rows_set]; exact (congrArg Prod.fst hI).symm
      · rw [rows_set]
        unfold insP markAt
        rw [hI]
        have e : t.2.getD k [] = q.2 := by rw [List.getD_eq_getElem?_getD, ← hq, rows_at hqk]; rfl
        dsimp only
        rw [if_neg (by lia), e, hq, hst]
  · obtain rfl : k = cur.length := by lia
    refine ⟨false && false, EvT.and (EvT.cast (EvT.cmp (Ev.name S.v4) hlen Cm.lt) (decide_eq_false (Int.lt_irrefl _))) (fun h => nomatch h), (fun h => nomatch h), fun _ => ?_⟩
    have hI := I.past (rows_len cur).symm
    refine WP.ifs (b := true) (EvT.cast (EvT.cmp (Ev.name S.v4) hlen Cm.eq) (by simp)) (fun _ => ?_) fun h => nomatch h
    refine WP.exprX (EvX.appendX (a := a) (ds := refs cur) (R := NewL σ []) (R' := fun mu => ∃ na, mu = (na, .list (zs [])) :: (a, .list (refs cur ++ [.ref na])) :: (b, .list (refs qrs)) :: (ent cur ++ ent qrs)) (Ev.name S.v1) (by rw [S.mu]; exact .head _) (EvN.list EvL.nil (by simp)) ?_ (by rw [refs_len]; lia)) ?_
    · rintro e mu1 ⟨na, rfl, rfl⟩
      exact ⟨_, by rw [S.mu]; exact .tail .head, na, rfl⟩
    rintro d mu ⟨rfl, na, rfl⟩
    refine WP.exprX (EvX.appendX (a := b) (ds := refs qrs) (R := fun d mu => ∃ nb, d = .ref nb ∧ mu = (nb, .list []) :: (na, .list (zs [])) :: (a, .list (refs cur ++ [.ref na])) :: (b, .list (refs qrs)) :: (ent cur ++ ent qrs))
      (R' := fun mu => ∃ nb, mu = (nb, .list (zs [])) :: (na, .list (zs [])) :: (a, .list (refs cur ++ [.ref na])) :: (b, .list (refs qrs ++ [.ref nb])) :: (ent cur ++ ent qrs)) (Ev.name S.v2) (.tail _ (.tail _ (.head _))) (EvN.list EvL.nil (by simp)) ?_ (by rw [refs_len]; lia)) ?_
    · rintro e mu1 ⟨nb, rfl, rfl⟩
      exact ⟨_, .tail (.tail (.tail .head)), nb, rfl⟩
    rintro d mu ⟨rfl, nb, rfl⟩
    refine WP.nil (WP.perm (mu' := (a, .list (refs (cur ++ [(na, [])]))) :: (b, .list (refs (qrs ++ [(nb, [])]))) :: (ent (cur ++ [(na, [])]) ++ ent (qrs ++ [(nb, [])]))) ?_ ?_)
    · simp only [refs, ent, List.map_append, List.map_cons, List.map_nil, St.setMu]
      exact perm_two _ _ _ _ _ _
    refine ins_tail (cur := cur ++ [(na, [])]) (qrs := qrs ++ [(nb, [])]) (k := cur.length) (p := (na, [])) (q := (nb, [])) (x := x) (step := step) (by simp) (by rw [show cur.length = qrs.length by lia]; simp) rfl S.v1 S.v2 S.v3 S.v4 S.v5 (by simp) (by simp) ?_ ?_
    · rw [rows_set]
      have : (rowsOf (cur ++ [(na, [])])).set cur.length ([] ++ [x]) = rowsOf cur ++ [[x]] := by
        simp [rowsOf]
      rw [this]; exact (congrArg Prod.fst hI).symm
    · rw [rows_set]
      unfold insP markAt
      rw [hI]
      dsimp only
      rw [if_pos (by lia), hst, ← hq, show cur.length = qrs.length by lia]
      simp [rowsOf]
theorem ins_body {A : Around} {L : Addr} {n : Nat} {P : Pred} {t : Tb × Tb} {x0 : Int} (B : Bt G) (OK : InsOk t) :
    WP (inCx G A name qual doc pm cdv ct an f L n P) { vars := [("pair", .tup [.list (zss t.1), .list (zss t.2)]), ("number", .int x0)], mu := [] } (bo 6) (Fin (fun d _ => d = .tup [.list (zss (insP t x0).1), .list (zss (insP t x0).2)])) := by
  have hz1 := OK.z1
  have hol := OK.len
  refine WP.setC rfl (copies (t := t.1) rfl rfl (by decide) (by decide) rfl (Ev.tupIdx (ds := [.list (zss t.1), .list (zss t.2)]) (Ev.name rfl) Ev.int (by lia) rfl) (by lia)) ?_
  rintro d mu ⟨a, as, ha, rfl, rfl⟩
  refine WP.setC rfl (copies (t := t.2) rfl rfl (by decide) (by decide) rfl (Ev.tupIdx (ds := [.list (zss t.1), .list (zss t.2)]) (Ev.name rfl) Ev.int (by lia) rfl) (by lia)) ?_
  rintro d mu ⟨b, bs, hb, rfl, rfl⟩
  rw [List.length_map] at ha hb
  have hp := pair_rows ha
  have hq := pair_rows hb
  refine WP.perm (mu' := (a, .list (refs (pairUp as t.1))) :: (b, .list (refs (pairUp bs t.2))) :: (ent (pairUp as t.1) ++ ent (pairUp bs t.2))) ?_ ?_
  · rw [← pair_refs ha, ← pair_refs hb, ← pair_ent, ← pair_ent]
    show List.Perm _ ((b, _) :: (zipMu bs _ ++ (a, _) :: (zipMu as _ ++ [])))
    rw [List.append_nil]
    refine List.Perm.trans ?_ (List.Perm.cons _ List.perm_middle.symm)
    exact (List.Perm.swap _ _ _).trans (List.Perm.cons _ (List.Perm.cons _ List.perm_append_comm))
  generalize pairUp as t.1 = prs at *
  generalize pairUp bs t.2 = qrs at *
  have hpl : prs.length = t.1.length := by rw [← hp, rows_len]
  refine WP.set (x := "step") (d := .int (total t.1 : Nat)) (.inl rfl) (Ev.cast (Ev.of_just (EvX.call1 (.inl ⟨_, rfl⟩) ⟨rfl, B.sum.1, B.sum.2, rfl⟩ (Ev.of_new (EvN.cast (d' := zs (prs.map fun p => (p.2.length : Int))) (EvC.ev (EvC.plain (scope := _) prs (fun p => .ref p.1) (fun _ => true) (fun p => .int p.2.length) (compOk0 rfl rfl (by decide) (by decide)) (.inl rfl) (Ev.name (d := .ref a) rfl) (.inl (Items.mu (.head _))) (by lia)
    fun L' p hp => ⟨rfl, fun _ => Ev.len (x := "len") ⟨rfl, B.len.1, B.len.2, rfl⟩ (Ev.name rfl) (Items.ro (ds := zs p.2) (List.mem_append_left _ (.tail _ (.tail _ (List.mem_append_left _ (ent_mem hp)))))) (by rw [zs_length])⟩)) ?_)) (C1.sum Items.list))) ?_) ?_
  · rw [filter_tr, zs, List.map_map]; rfl
  · rw [← hp]
    have : ∀ l : Prs, (l.map fun p => (p.2.length : Int)).sum = (total (rowsOf l) : Nat) := fun l => by
      induction l with
      | nil => rfl
      | cons x l ih =>
        rw [List.map_cons, List.sum_cons, ih]
        simp [total, rowsOf]
    rw [this]
  refine WP.set (x := "place") (d := .int ((0 : Nat) : Int)) (.inl rfl) Ev.int ?_
  exact ins_loop B OK hp hq rfl ⟨rfl, rfl, rfl, rfl, rfl, rfl⟩
theorem ins_sem {n : Nat} {P : Pred} {t : Tb × Tb} {x : Int} (hmon : P.Mon) (hF : FnF G.hb.get? f (fdN 6 name qual .none .none doc pm an cdv ct)) (B : Bt G) (OK : InsOk t) :
    CallSem G (n + 1) P f [] [.tup [.list (zss t.1), .list (zss t.2)], .int x] (Pure (.tup [.list (zss (insP t x).1), .list (zss (insP t x).2)])) := by
  refine CallSem.pure (call_fnC (fd := fdN 6 name qual .none .none doc pm an cdv ct) (ns := ["pair", "number"]) (body := bo 6) hmon ⟨rfl, fun s vs hb h => ?_, by decide, rfl, rfl, rfl, rfl, rfl⟩ (fun vs h => ?_) (fun K F hb _ => hF.mono hb) rfl (show ((cellsFrom 0 (sc 6).names []).map (·.1)).Nodup by decide) (show ∀ x ∈ (["pair", "number"] : List Str), (sc 6).names.lookup x = _ ∨ (sc 6).names.lookup x = _ by decide) fun A L hr => ?_)
  · match vs, h with
    | [a, b], _ => exact BindsTo.of_eq rfl
  · match vs, h with
    | [a, b], _ => rfl
  · exact ins_body B OK
end
end Mine
end

section
set_option Elab.async false
set_option linter.unusedVariables false
set_option linter.unusedSimpArgs false
set_option maxRecDepth 100000
namespace Mine
open PySem PySem.W PyProof.Rows PySem.Calls
theorem zs_last {r : List Int} (h : r ≠ []) : zs r = zs r.dropLast ++ [.int (lastI r)] := by
  have e : r = r.dropLast ++ [lastI r] := by
    have hl := List.length_pos_iff.mpr h
    conv => lhs; rw [← List.dropLast_concat_getLast h]
    congr 2
    unfold lastI
    rw [List.getLast_eq_getElem, List.getD_eq_getElem?_getD, List.getElem?_eq_getElem (by lia)]; rfl
  conv => lhs; rw [e]
  simp [zs]
section
variable {G : Gx} {f : Addr} {name qual : Str} {dV kV doc pm cdv ct : Value} {an : Option Addr}
noncomputable abbrev unCx (G : Gx) (A : Around) (name qual : Str) (doc pm cdv ct : Value) (an : Option Addr) (f L : Addr) (n : Nat) (P : Pred) : Cx := fnCxC G A (fdN 7 name qual .none .none doc pm an cdv ct) f L n P
theorem cellU {A : Around} {L : Addr} {n : Nat} {P : Pred} : Stores (unCx G A name qual doc pm cdv ct an f L n P) "number" := .inr ⟨rfl, L + 1, rfl, .tail _ (.head _)⟩
theorem undo_up {A : Around} {L : Addr} {n : Nat} {P : Pred} {s0 : D} {tl : List Int} {x0 : Int} {a b : Addr} {prs qrs : Prs} {k0 : Nat} {σ : St} {o1 o2 : Tb} {o3 : List Int} (B : Bt G) (hs0 : ∃ d1 d2, s0 = .tup [d1, d2, .list (zs tl)]) (hz : prs.length ≤ 60) (hz4 : tl.length ≤ 60) (hzr : ∀ r ∈ rowsOf prs, r.length ≤ 60) (hk : k0 < prs.length) (hup : upOk ((rowsOf prs).take k0) x0)
    (e1 : (upR ((rowsOf prs).take k0) x0).1 ++ (rowsOf prs).drop k0 = o1) (e2 : rowsOf qrs = o2) (e3 : (upR ((rowsOf prs).take k0) x0).2 :: tl = o3)
    (mu : σ.mu = (a, .list (refs prs)) :: (b, .list (refs qrs)) :: (ent prs ++ ent qrs)) (v1 : σ.v "rows" = some (.ref a)) (v2 : σ.v "marks" = some (.ref b)) (v3 : σ.v "state" = some s0) (v4 : σ.v "place" = some (.int k0)) (v5 : σ.v "number" = some (.int x0)) :
    WP (unCx G A name qual doc pm cdv ct an f L n P) σ ((bo 7).drop 6) (Fin (fun d _ => d = .tup [.list (zss o1), .list (zss o2), .list (zs o3)])) := by
  refine WP.while (fun k σ => ∃ cur x, k < cur.length ∧ refs cur = refs prs ∧ upOk ((rowsOf cur).take k) x ∧ (upR ((rowsOf cur).take k) x).1 ++ (rowsOf cur).drop k = o1 ∧ (upR ((rowsOf cur).take k) x).2 :: tl = o3 ∧ (∀ r ∈ rowsOf cur, r.length ≤ 60) ∧
    σ.mu = (a, .list (refs cur)) :: (b, .list (refs qrs)) :: (ent cur ++ ent qrs) ∧ σ.v "rows" = some (.ref a) ∧ σ.v "marks" = some (.ref b) ∧ σ.v "state" = some s0 ∧ σ.v "place" = some (.int k) ∧ σ.v "number" = some (.int x)) k0 ⟨prs, x0, hk, rfl, hup, e1, e3, hzr, mu, v1, v2, v3, v4, v5⟩ ?_
  rintro k σ ⟨cur, x, hk, hrf, hup, e1, e3, hzr, hmu, v1, v2, v3, v4, v5⟩
  have hcl : cur.length = prs.length := by rw [← refs_len cur, hrf, refs_len]
  refine ⟨decide (0 < (k : Int)), EvT.cmp (Ev.name v4) Ev.int Cm.gt, fun hb => ?_, fun hb => ?_⟩
  · obtain ⟨k, rfl⟩ : ∃ k', k = k' + 1 := ⟨k - 1, by have := of_decide_eq_true hb; lia⟩
    obtain ⟨p, hpk⟩ : ∃ p, cur[k]? = some p := ⟨_, List.getElem?_eq_getElem (by lia)⟩
    have hpm := List.mem_of_getElem? hpk
    have hr := rows_at hpk
    have hpz := hzr _ (List.mem_of_getElem? hr)
    have htk : (rowsOf cur).take (k + 1) = (rowsOf cur).take k ++ [p.2] := by rw [List.take_add_one, hr]; rfl
    rw [htk] at hup e1 e3
    rw [upR_snoc] at e1 e3
    obtain ⟨hs1, hup⟩ := upOk_snoc _ _ _ hup
    have hsl := spotI_le p.2 x
    refine WP.keep [("rows", .ref a), ("marks", .ref b), ("state", s0), ("place", .int (k + 1 : Nat)), ("number", .int x)] ?_ ?_
    · intro q hq
      simp only [List.mem_cons, List.not_mem_nil, or_false] at hq
      rcases hq with rfl | rfl | rfl | rfl | rfl
      · exact v1
      · exact v2
      · exact v3
      · exact v4
      · exact v5
    have hpmu : (p.1, MO.list (zs p.2)) ∈ σ.mu := by rw [hmu]; exact .tail _ (.tail _ (List.mem_append_left _ (ent_mem hpm)))
    rw [hmu] at hpmu ⊢
    have iR2 : ∀ vars, Items (unCx G A name qual doc pm cdv ct an f L n P) { vars := vars, mu := (a, MO.list (refs cur)) :: (b, MO.list (refs qrs)) :: (ent cur ++ ent qrs) } (.ref a) (refs cur) := fun vars => Items.mu (.head _)
    refine WP.set (x := "place") (d := .int k) (.inl rfl) (Ev.cast (Ev.bin (Ev.name (d := .int (k + 1 : Nat)) rfl) Ev.int Op.sub) (by congr 1; lia)) ?_
    refine WP.set (x := "spot") (d := .int (spotI p.2 x - 1 : Nat)) (.inl rfl) (Ev.cast (Ev.bin (Ev.len (x := "len") (k := (spotI p.2 x : Nat)) ⟨rfl, B.len.1, B.len.2, rfl⟩ (Ev.of_new (EvC.ev (EvC.plain (scope := _) p.2 D.int (fun y => decide (y < x)) D.int (compOkF rfl rfl (by decide) (fun x hx => by obtain rfl := List.mem_singleton.mp hx; rfl) (List.pairwise_singleton _ _) (by decide)) (.inl rfl) (Ev.idx (d := .ref a) (Ev.name rfl) (iR2 _) (Ev.name (d := .int k) rfl) (by lia) (refs_at hpk)) (.inl (Items.mu hpmu)) (by lia)
      fun L' y hy => ⟨EvT.cmp (Ev.name (d := .int y) rfl) (Ev.name (d := .int x) rfl) Cm.lt, fun _ => Ev.name rfl⟩))) Items.list (by rw [List.length_map]; rfl)) Ev.int Op.sub) (by congr 1; lia)) ?_
    refine WP.set (x := "bumped") (d := .int (p.2.getD (spotI p.2 x - 1) 0)) (.inl rfl) (Ev.idx (d := .ref p.1) (Ev.idx (d := .ref a) (Ev.name rfl) (iR2 _) (Ev.name (d := .int k) rfl) (by lia) (refs_at hpk)) (Items.mu hpmu) (Ev.name rfl) (by lia) (zs_getL _ (by lia))) ?_
    refine WP.setItem (a := p.1) (k := (spotI p.2 x - 1 : Nat)) (d := .int x) (ds := zs p.2) (mu' := (a, .list (refs cur)) :: (b, .list (refs qrs)) :: (ent (cur.set k (p.1, p.2.set (spotI p.2 x - 1) x)) ++ ent qrs)) (Ev.name rfl) (Ev.idx (d := .ref a) (Ev.name rfl) (iR2 _) (Ev.name (d := .int k) rfl) (by lia) (refs_at hpk)) (Ev.name rfl) (by lia) (by rw [Int.toNat_natCast, zs_length]; lia) ?_ ?_
    · rw [Int.toNat_natCast, zs_set]
      exact .tail (.tail (.left (ent_set hpk)))
    have hkr : k < (rowsOf cur).length := by rw [rows_len]; lia
    have hl : ((rowsOf cur).take k).length = k := by simp; lia
    refine WP.set (x := "number") (d := .int (p.2.getD (spotI p.2 x - 1) 0)) cellU (Ev.name rfl) (WP.nil ?_)
    refine ⟨k, by lia, cur.set k (p.1, p.2.set (spotI p.2 x - 1) x), _, by rw [List.length_set]; lia, (refs_set hpk).trans hrf, ?_, ?_, ?_, fun r hr' => ?_, ?_, rfl, rfl, rfl, rfl, rfl⟩
    · rw [rows_set, List.take_set_of_le (Nat.le_refl _)]; exact hup
    · rw [rows_set, List.take_set_of_le (Nat.le_refl _), set_split hkr, List.drop_append, hl, List.drop_of_length_le (by lia), Nat.sub_self]
      rw [← e1]
      simp
    · rw [rows_set, List.take_set_of_le (Nat.le_refl _)]; exact e3
    · rw [rows_set] at hr'
      rcases List.mem_or_eq_of_mem_set hr' with hr' | rfl
      · exact hzr _ hr'
      · rw [List.length_set]; exact hpz
    · rw [refs_set hpk]; rfl
  · obtain rfl : k = 0 := by have := of_decide_eq_false hb; lia
    simp only [List.take_zero, upR, List.drop_zero, List.nil_append] at e1 e3
    obtain ⟨d1, d2, rfl⟩ := hs0
    refine WP.freeze2 (x := "rows") (y := "marks") [("state", .tup [d1, d2, .list (zs tl)]), ("number", .int x)] (by decide) hmu v1 v2 (fun q hq => ?_) ?_
    · simp only [List.mem_cons, List.not_mem_nil, or_false] at hq
      rcases hq with rfl | rfl
      · exact v3
      · exact v5
    rw [e1, e2]
    refine WP.ret (Ev.tuple (EvL.cons (Ev.name rfl) (EvL.cons (Ev.name rfl) (EvL.cons (d := .list (zs o3)) ?_ EvL.nil))) (by simp)) rfl
    refine Ev.of_new (EvN.cast (EvX.bin (Ev.of_new (EvN.list (EvL.cons (Ev.name (d := .int x) rfl) EvL.nil) (by simp))) (Ev.tupIdx (ds := [d1, d2, .list (zs tl)]) (Ev.name rfl) Ev.int (by lia) rfl) (OpN.concat Items.list Items.list (by simp; lia))) ?_)
    rw [← e3]; rfl
theorem undo_body {A : Around} {L : Addr} {n : Nat} {P : Pred} {s : (Tb × Tb) × List Int} {step : Int} (B : Bt G) (OK : UndoOk s step) :
    WP (unCx G A name qual doc pm cdv ct an f L n P) { vars := [("state", .tup [.list (zss s.1.1), .list (zss s.1.2), .list (zs s.2)]), ("step", .int step)], mu := [] } (bo 7) (Fin (fun d _ => d = .tup [.list (zss (undoP s step).1.1), .list (zss (undoP s step).1.2), .list (zs (undoP s step).2)])) := by
  have hz1 := OK.z1
  have hol := OK.len
  have hlt := OK.lt
  refine WP.setC rfl (copies (t := s.1.1) rfl rfl (by decide) (by decide) rfl (Ev.tupIdx (ds := [.list (zss s.1.1), .list (zss s.1.2), .list (zs s.2)]) (Ev.name rfl) Ev.int (by lia) rfl) (by lia)) ?_
  rintro d mu ⟨a, as, ha, rfl, rfl⟩
  refine WP.setC rfl (copies (t := s.1.2) rfl rfl (by decide) (by decide) rfl (Ev.tupIdx (ds := [.list (zss s.1.1), .list (zss s.1.2), .list (zs s.2)]) (Ev.name rfl) Ev.int (by lia) rfl) (by lia)) ?_
  rintro d mu ⟨b, bs, hb, rfl, rfl⟩
  rw [List.length_map] at ha hb
  have hp := pair_rows ha
  have hq := pair_rows hb
  refine WP.perm (mu' := (a, .list (refs (pairUp as s.1.1))) :: (b, .list (refs (pairUp bs s.1.2))) :: (ent (pairUp as s.1.1) ++ ent (pairUp bs s.1.2))) ?_ ?_
  · rw [← pair_refs ha, ← pair_refs hb, ← pair_ent, ← pair_ent]
    show List.Perm _ ((b, _) :: (zipMu bs _ ++ (a, _) :: (zipMu as _ ++ [])))
    rw [List.append_nil]
    refine List.Perm.trans ?_ (List.Perm.cons _ List.perm_middle.symm)
    exact (List.Perm.swap _ _ _).trans (List.Perm.cons _ (List.Perm.cons _ List.perm_append_comm))
  generalize pairUp as s.1.1 = prs at *
  generalize pairUp bs s.1.2 = qrs at *
  have hpl : prs.length = s.1.1.length := by rw [← hp, rows_len]
  have hql : qrs.length = s.1.2.length := by rw [← hq, rows_len]
  refine WP.set (x := "place") (d := .int ((0 : Nat) : Int)) (.inl rfl) Ev.int ?_
  generalize hw : whereI s.1.2 step = w at *
  refine WP.while (fun m σ => ∃ k, k + m = w ∧ σ.mu = (a, .list (refs prs)) :: (b, .list (refs qrs)) :: (ent prs ++ ent qrs) ∧ σ.v "rows" = some (.ref a) ∧ σ.v "marks" = some (.ref b) ∧ σ.v "state" = some (.tup [.list (zss s.1.1), .list (zss s.1.2), .list (zs s.2)]) ∧ σ.v "place" = some (.int k) ∧ σ.v "step" = some (.int step)) w ⟨0, by lia, rfl, rfl, rfl, rfl, rfl, rfl⟩ ?_
  rintro m σ ⟨k, hkm, hmu, v1, v2, v3, v4, v5⟩
  obtain ⟨q, hqk⟩ : ∃ q, qrs[k]? = some q := ⟨_, List.getElem?_eq_getElem (by lia)⟩
  have hqr : s.1.2[k]? = some q.2 := by rw [← hq]; exact rows_at hqk
  have hqne := OK.ne k _ (by lia) hqr
  have hqmu : (q.1, MO.list (zs q.2)) ∈ σ.mu := by rw [hmu]; exact .tail _ (.tail _ (List.mem_append_right _ (ent_mem (List.mem_of_getElem? hqk))))
  have iM : Items (unCx G A name qual doc pm cdv ct an f L n P) σ (.ref b) (refs qrs) := Items.mu (by rw [hmu]; exact .tail _ (.head _))
  refine ⟨lastI q.2 != step, EvT.cmp (Ev.idxNeg (Ev.idx (Ev.name v2) iM (Ev.name v4) (by lia) (refs_at hqk)) (Items.mu hqmu) neg1C (by lia) (by have := List.length_pos_iff.mpr hqne; rw [zs_length]; lia) (lastI_at hqne)) (Ev.name v5) Cm.ne, fun hb => ?_, fun hb => ?_⟩
  · have hkw : k < w := by
      rcases Nat.lt_or_ge k w with h | h
      · exact h
      · exfalso
        obtain rfl : k = w := by lia
        have : whereI s.1.2 step < s.1.2.length := by rw [hw]; exact hlt
        have h2 := List.findIdx_getElem (w := this)
        have h3 : s.1.2[whereI s.1.2 step]? = some q.2 := by rw [hw]; exact hqr
        rw [List.getElem?_eq_getElem this] at h3
        have h3 := Option.some.inj h3
        unfold whereI at h3
        rw [h3] at h2
        simp at h2 hb
        exact hb h2
    exact WP.set (x := "place") (d := .int (k + 1 : Nat)) (.inl rfl) (Ev.cast (Ev.bin (Ev.name v4) Ev.int Op.add) (by congr 1)) (WP.nil ⟨m - 1, by lia, k + 1, by lia, hmu, v1, v2, v3, rfl, v5⟩)
  · have hkw : k = w := by
      rcases Nat.lt_or_ge k w with h | h
      · exfalso
        have h2 := List.not_of_lt_findIdx (xs := s.1.2) (p := fun m => lastI m == step) (i := k) (by rw [show s.1.2.findIdx _ = w from hw]; exact h)
        have h3 := hqr
        rw [List.getElem?_eq_getElem (by lia)] at h3
        have h3 := Option.some.inj h3
        rw [h3] at h2
        simp at h2 hb
        exact h2 hb
      · lia
    subst hkw
    obtain ⟨p, hpk⟩ : ∃ p, prs[k]? = some p := ⟨_, List.getElem?_eq_getElem (by lia)⟩
    have hpr : s.1.1[k]? = some p.2 := by rw [← hp]; exact rows_at hpk
    have hpne := OK.ne2 _ (by rw [hw]; exact hpr)
    have iR : Items (unCx G A name qual doc pm cdv ct an f L n P) σ (.ref a) (refs prs) := Items.mu (by rw [hmu]; exact .head _)
    refine WP.exprX (EvX.pop (a := q.1) (ds := zs q.2.dropLast) (e := .int (lastI q.2)) (mu' := (a, .list (refs prs)) :: (b, .list (refs qrs)) :: (ent prs ++ ent (qrs.set k (q.1, q.2.dropLast)))) (Ev.idx (Ev.name v2) iM (Ev.name v4) (by lia) (refs_at hqk)) ?_) ?_
    · rw [hmu, ← zs_last hqne]
      exact .tail (.tail (.right (ent_set hqk)))
    rintro d mu ⟨rfl, rfl⟩
    refine WP.setX (x := "number") cellU (EvX.pop (a := p.1) (ds := zs p.2.dropLast) (e := .int (lastI p.2)) (mu' := (a, .list (refs prs)) :: (b, .list (refs qrs)) :: (ent (prs.set k (p.1, p.2.dropLast)) ++ ent (qrs.set k (q.1, q.2.dropLast)))) (Ev.idx (d := .ref a) (Ev.name v1) (Items.mu (.head _)) (Ev.name v4) (by lia) (refs_at hpk)) ?_) ?_
    · rw [← zs_last hpne]
      exact .tail (.tail (.left (ent_set hpk)))
    rintro d mu ⟨rfl, rfl⟩
    have eP : s.1.1.getD k [] = p.2 := by rw [List.getD_eq_getElem?_getD, hpr]; rfl
    have eQ : s.1.2.getD k [] = q.2 := by rw [List.getD_eq_getElem?_getD, hqr]; rfl
    have hup := OK.up
    rw [hw, eP] at hup
    have hkl : k < s.1.1.length := by lia
    refine undo_up (prs := prs.set k (p.1, p.2.dropLast)) (qrs := qrs.set k (q.1, q.2.dropLast)) (k0 := k) (x0 := lastI p.2) (tl := s.2) B ⟨_, _, rfl⟩ (by rw [List.length_set]; lia) OK.z4 (fun r hr => ?_) (by rw [List.length_set]; lia) ?_ ?_ ?_ ?_ ?_ v1 v2 v3 v4 rfl
    · rw [rows_set] at hr
      rcases List.mem_or_eq_of_mem_set hr with hr | rfl
      · exact OK.z2 _ (hp ▸ hr)
      · have := OK.z2 _ (List.mem_of_getElem? hpr)
        rw [List.length_dropLast]; lia
    · rw [rows_set, hp, List.take_set_of_le (Nat.le_refl _)]; exact hup
    · rw [rows_set, hp, List.take_set_of_le (Nat.le_refl _)]
      unfold undoP
      dsimp only
      rw [hw, eP, set_split hkl, List.drop_append, List.drop_of_length_le (by rw [List.length_take]; lia), show k - (s.1.1.take k).length = 0 by rw [List.length_take]; lia]
      simp
    · rw [rows_set, hq]
      unfold undoP
      dsimp only
      rw [hw, eQ]
    · rw [rows_set, hp, List.take_set_of_le (Nat.le_refl _)]
      unfold undoP
      dsimp only
      rw [hw, eP]
    · rw [refs_set hpk, refs_set hqk]; rfl
theorem undo_sem {n : Nat} {P : Pred} {s : (Tb × Tb) × List Int} {step : Int} (hmon : P.Mon) (hF : FnF G.hb.get? f (fdN 7 name qual .none .none doc pm an cdv ct)) (B : Bt G) (OK : UndoOk s step) :
    CallSem G (n + 1) P f [] [.tup [.list (zss s.1.1), .list (zss s.1.2), .list (zs s.2)], .int step] (Pure (.tup [.list (zss (undoP s step).1.1), .list (zss (undoP s step).1.2), .list (zs (undoP s step).2)])) := by
  refine CallSem.pure (call_fnC (fd := fdN 7 name qual .none .none doc pm an cdv ct) (ns := ["state", "step"]) (body := bo 7) hmon ⟨rfl, fun s vs hb h => ?_, by decide, rfl, rfl, rfl, rfl, rfl⟩ (fun vs h => ?_) (fun K F hb _ => hF.mono hb) rfl (show ((cellsFrom 0 (sc 7).names []).map (·.1)).Nodup by decide) (show ∀ x ∈ (["state", "step"] : List Str), (sc 7).names.lookup x = _ ∨ (sc 7).names.lookup x = _ by decide) fun A L hr => ?_)
  · match vs, h with
    | [a, b], _ => exact BindsTo.of_eq rfl
  · match vs, h with
    | [a, b], _ => rfl
  · exact undo_body B OK
end
end Mine
end

section
set_option Elab.async false
set_option linter.unusedVariables false
set_option linter.unusedSimpArgs false
set_option maxRecDepth 100000
namespace Mine
open PySem PySem.W PyProof.Rows PySem.Calls
theorem compOkD {C : Cx} {scope : Scope} {cl : List (Str × Addr)} (h1 : closureFor scope C.env = pure cl) (h2 : scope.kind = .function) (h3 : ∀ y ∈ scope.names, y.2 = .local → scope.names.lookup y.1 = some .local) (h4 : ∀ x ∈ cl, C.env.cells.lookup x.1 = some x.2) (h5 : cl.Pairwise fun x y => x.1 ≠ y.1) (h6 : ∀ y ∈ scope.names, y.2 = .cell → scope.names.lookup y.1 ≠ some .free) : CompOk C scope cl :=
  ⟨h1, h2, h3, fun x c h => h4 (x, c) (mem_of_lookup h), fun x h => mem_of_lookup (h4 x h), h5, fun y hy hm => h6 _ hm rfl hy⟩
section
variable {G : Gx} {f fc : Addr} {name qual : Str} {dV kV doc pm cdv ct : Value} {an : Option Addr}
noncomputable abbrev coCx (G : Gx) (A : Around) (name qual : Str) (doc pm cdv ct : Value) (an : Option Addr) (f L : Addr) (n : Nat) (P : Pred) : Cx := fnCxC G A (fdN 8 name qual .none .none doc pm an cdv ct) f L n P
theorem cols_body {A : Around} {L : Addr} {n : Nat} {P : Pred} {t : Tb} (B : Bt G) (hz : t.length ≤ 60) (hz2 : ∀ r ∈ t, r.length ≤ 60) (hne : t ≠ []) :
    WP (coCx G A name qual doc pm cdv ct an f L n P) { vars := [("rows", .list (zss t))], mu := [] } (bo 8) (Fin (fun d _ => d = .list (zss (colsI t)))) := by
  obtain ⟨r0, t', rfl⟩ := List.exists_cons_of_ne_nil hne
  have h0 := hz2 r0 (.head _)
  refine WP.ret (d := .list (zss (colsI (r0 :: t')))) (Ev.cast (Ev.of_fresh (EvC.ev (EvC.fresh (scope := _) (nats r0.length) D.int (fun _ => true) (fun i => zs (colI (r0 :: t') i.toNat)) (compOkD rfl rfl (by decide) (fun x hx => by obtain rfl := List.mem_singleton.mp hx; rfl) (List.pairwise_singleton _ _) (by decide)) (.inr rfl)
    (Ev.range ⟨rfl, B.range.1, B.range.2, rfl⟩ (Ev.len (x := "len") ⟨rfl, B.len.1, B.len.2, rfl⟩ (Ev.idx (d := .list (zss (r0 :: t'))) (x := .list (zs r0)) (Ev.name rfl) Items.list Ev.int (by lia) rfl) Items.list (k := r0.length) (by rw [zs_length]))) (by rw [show (nats r0.length).map D.int = rints 0 r0.length from (rints_nats _).symm]; exact ItD.rng (by lia)) (by simp [nats]; lia) fun L' nm i hi => ⟨rfl, fun _ => ?_⟩))) ?_) rfl
  · obtain ⟨c, hc, rfl⟩ := List.mem_map.mp hi
    rw [Int.toNat_natCast]
    refine EvN.cast (EvC.ev (EvC.plain (scope := _) (r0 :: t') (fun r => .list (zs r)) (fun r => decide (c < r.length)) (fun r => .int (r.getD c 0)) (compOkF rfl rfl (by decide) (fun x hx => by obtain rfl := List.mem_singleton.mp hx; rfl) (List.pairwise_singleton _ _) (by decide)) (.inl rfl) (Ev.name (d := .list (zss (r0 :: t'))) rfl) ItD.list (by lia) fun L2 r hr => ⟨?_, fun hp => ?_⟩)) ?_
    · exact EvT.cast (EvT.cmp (Ev.name (d := .int c) rfl) (Ev.len (x := "len") ⟨rfl, B.len.1, B.len.2, rfl⟩ (Ev.name rfl) Items.list (k := r.length) (by rw [zs_length])) Cm.lt) (by simp)
    · exact Ev.idx (d := .list (zs r)) (Ev.name rfl) Items.list (Ev.name (d := .int c) rfl) (by lia) (zs_getL _ (of_decide_eq_true hp))
    · simp [colI, zs]
  · rw [filter_tr, zss, colsI]
    simp [nats]
theorem cols_sem {n : Nat} {P : Pred} {t : Tb} (hmon : P.Mon) (hF : FnF G.hb.get? f (fdN 8 name qual .none .none doc pm an cdv ct)) (B : Bt G) (hz : t.length ≤ 60) (hz2 : ∀ r ∈ t, r.length ≤ 60) (hne : t ≠ []) :
    CallSem G (n + 1) P f [] [.list (zss t)] (Pure (.list (zss (colsI t)))) := by
  refine CallSem.pure (call_fnC (fd := fdN 8 name qual .none .none doc pm an cdv ct) (ns := ["rows"]) (body := bo 8) hmon ⟨rfl, fun s vs hb h => ?_, by decide, rfl, rfl, rfl, rfl, rfl⟩ (fun vs h => ?_) (fun K F hb _ => hF.mono hb) rfl (show ((cellsFrom 0 (sc 8).names []).map (·.1)).Nodup by decide) (show ∀ x ∈ (["rows"] : List Str), (sc 8).names.lookup x = _ ∨ (sc 8).names.lookup x = _ by decide) fun A L hr => ?_)
  · match vs, h with
    | [a], _ => exact BindsTo.of_eq rfl
  · match vs, h with
    | [a], _ => rfl
  · exact cols_body B hz hz2 hne
noncomputable def FreshT (σ : St) (t : Tb) (d : D) (mu : Mu) : Prop := ∃ prs : Prs, rowsOf prs = t ∧ d = .list (refs prs) ∧ mu.Perm (ent prs ++ σ.mu)
noncomputable abbrev liCx (G : Gx) (A : Around) (name qual : Str) (doc pm cdv ct : Value) (an : Option Addr) (f L : Addr) (n : Nat) (P : Pred) : Cx := fnCx G A (fdN 9 name qual .none .none doc pm an cdv ct) f L n P
theorem FreshL.prs {σ : St} {t : Tb} {d : D} {mu : Mu} (h : FreshL σ (t.map zs) d mu) : ∃ a prs, rowsOf prs = t ∧ d = .ref a ∧ mu = (a, .list (refs prs)) :: (ent prs ++ σ.mu) := by
  obtain ⟨a, as, hl, rfl, rfl⟩ := h
  rw [List.length_map] at hl
  exact ⟨a, pairUp as t, pair_rows hl, rfl, by rw [pair_refs hl, pair_ent]⟩
theorem EvX.twoFresh {C : Cx} {σ : St} {e1 e2 : Expr} {p : Pos} {t1 t2 : Tb} (h1 : EvX C σ e1 (FreshL σ (t1.map zs))) (h2 : ∀ mu, EvX C (σ.setMu mu) e2 (FreshL (σ.setMu mu) (t2.map zs))) (hz : t1.length + t2.length ≤ 1000) :
    EvX C σ (.BinOp e1 .Add e2 p) fun d mu => ∃ c prs, rowsOf prs = t1 ++ t2 ∧ d = .ref c ∧ ∃ junk, mu.Perm ((c, .list (refs prs)) :: (ent prs ++ (junk ++ σ.mu))) := by
  refine EvX.binX (R1 := FreshL σ (t1.map zs)) (R2 := fun d1 mu1 => FreshL (σ.setMu mu1) (t2.map zs)) h1 (fun d1 mu1 _ => h2 mu1) ?_
  intro d1 mu1 d2 mu2 r1 r2
  obtain ⟨a, prs, hp, rfl, rfl⟩ := r1.prs
  obtain ⟨b, qrs, hq, rfl, rfl⟩ := r2.prs
  have l1 : prs.length = t1.length := by rw [← hp, rows_len]
  have l2 : qrs.length = t2.length := by rw [← hq, rows_len]
  refine OpX.mono (OpN.concat (ds1 := refs prs) (ds2 := refs qrs) (Items.mu (.tail _ (List.mem_append_right _ (.head _)))) (Items.mu (.head _)) (by rw [refs_len, refs_len]; lia)) ?_
  rintro d mu ⟨c, rfl, rfl⟩
  refine ⟨c, prs ++ qrs, by rw [← hp, ← hq]; simp [rowsOf], rfl, [(b, .list (refs qrs)), (a, .list (refs prs))], ?_⟩
  rw [show refs prs ++ refs qrs = refs (prs ++ qrs) by simp [refs]]
  refine List.Perm.cons _ ?_
  rw [ent_append]
  show List.Perm ((b, MO.list (refs qrs)) :: (ent qrs ++ (a, MO.list (refs prs)) :: (ent prs ++ σ.mu))) _
  have : ∀ (x y : Addr × MO) (u v w : Mu), List.Perm (x :: (u ++ y :: (v ++ w))) (v ++ u ++ ([x, y] ++ w)) := fun x y u v w => by
    have h1 : List.Perm (x :: (u ++ y :: (v ++ w))) (x :: y :: (u ++ (v ++ w))) := List.Perm.cons _ List.perm_middle
    refine h1.trans ?_
    show List.Perm ([x, y] ++ (u ++ (v ++ w))) _
    rw [← List.append_assoc u, ← List.append_assoc [x, y], ← List.append_assoc (v ++ u)]
    exact (List.perm_append_comm.trans (List.perm_append_comm.append_right _)).append_right w
  exact this _ _ _ _ _
theorem EvX.frzTop {C : Cx} {σ : St} {e : Expr} {t : Tb} (h : EvX C σ e fun d mu => ∃ c prs, rowsOf prs = t ∧ d = .ref c ∧ ∃ junk, mu.Perm ((c, .list (refs prs)) :: (ent prs ++ (junk ++ σ.mu)))) :
    EvX C σ e fun d mu => ∃ prs, rowsOf prs = t ∧ d = .list (refs prs) ∧ mu = ent prs ++ σ.mu := fun K F s Q E X hQ =>
  h K F s Q E X fun F' v s' d mu ⟨c, prs, e0, e1, junk, e2⟩ X' g r => by
    subst e1
    obtain ⟨o, ho, ⟨o', vs, h1, h2, h3⟩, hF, X2⟩ := (X'.perm e2.symm).freeze rfl
    rw [ho] at h1; cases h1
    have g2 : Fle F' (F'.put c o) := Fle.put hF o
    cases r.ref_inv
    have nd := X2.am.nd
    have X3 := X2.sub (mu' := ent prs ++ σ.mu) (fun p hp => by
      rcases List.mem_append.mp hp with hp | hp
      · exact List.mem_append_left _ hp
      · exact List.mem_append_right _ (List.mem_append_right _ hp)) (nd.sublist (List.Sublist.map _ (List.Sublist.append_left (List.sublist_append_right _ _) _)))
    exact hQ _ _ _ _ _ ⟨prs, e0, rfl, rfl⟩ X3 (g.trans g2) (.list (Fz.put_self _ _ _) h2 (h3.mono g2))
theorem revs {C : Cx} {σ : St} {e : Expr} {scope : Scope} {px p1 p2 p3 p4 p5 : Pos} {k : Nat} {t : Tb} {pos : Pos} (hs1 : closureFor scope C.env = pure []) (hs2 : scope.kind = .function) (hs3 : ∀ y ∈ scope.names, y.2 = .local → scope.names.lookup y.1 = some .local) (hs4 : ∀ y ∈ scope.names, y.2 ≠ .cell) (hs5 : scope.names.lookup ("column" : Str) = some .local)
    (he : Ev C σ e (.list (zss t))) (hz : t.length ≤ 1000) (hs : ∀ x, foldedSetIterable e C.env x = pure x := by intro _; rfl) :
    EvC C σ (.Subscript (.Name "column" p1) (.Slice none none (.some (.UnaryOp .USub (.Constant (.int 1) k p4) p5)) p2) p3) [⟨.Name "column" px, e, [], 0⟩] scope pos (FreshL σ ((t.map List.reverse).map zs)) := by
  refine EvC.mono (EvC.fresh (scope := scope) t (fun r => .list (zs r)) (fun _ => true) (fun r => zs r.reverse) (compOk0 hs1 hs2 hs3 hs4) (.inl hs5) he ItD.list (by lia) (fun L nm a ha => ⟨rfl, fun _ => EvN.cast (EvN.rev (d := .list (zs a)) (Ev.name rfl) Items.list) (by simp [zs])⟩) hs) fun d mu h => ?_
  rw [filter_tr] at h
  simpa [List.map_map, Function.comp_def] using h
theorem lists_body {A : Around} {L : Addr} {n : Nat} {P : Pred} {t : Tb} (B : Bt G) (hz : t.length ≤ 60) (hz2 : (colsI t).length ≤ 60) (h1 : G.mg "_law_columns" = some (.ref fc)) (hc : CallSem G n P fc [] [.list (zss t)] (Pure (.list (zss (colsI t))))) :
    WP (liCx G A name qual doc pm cdv ct an f L n P) { vars := [("rows", .list (zss t))], mu := [] } (bo 9) (Fin (fun d mu => ∃ prs, rowsOf prs = listsI t ∧ d = .list (refs prs) ∧ mu = ent prs)) := by
  refine WP.retX (EvX.frzTop (EvX.twoFresh (t1 := t) (t2 := (colsI t).map List.reverse) (EvC.ev (copies (t := t) rfl rfl (by decide) (by decide) rfl (Ev.name rfl) (by lia))) (fun mu => EvC.ev (revs (t := colsI t) rfl rfl (by decide) (by decide) rfl (Ev.call (Ev.glob rfl h1) (EvL.cons (Ev.name rfl) EvL.nil) hc (Nat.le_refl _) (fun K F s X => X.preFull (by simp))) (by lia))) (by rw [List.length_map]; lia))) ?_
  rintro d mu ⟨prs, h1, rfl, rfl⟩
  exact ⟨prs, h1, rfl, List.append_nil _⟩
theorem lists_sem {n : Nat} {P : Pred} {t : Tb} (hmon : P.Mon) (hF : FnF G.hb.get? f (fdN 9 name qual .none .none doc pm an cdv ct)) (B : Bt G) (hz : t.length ≤ 60) (hz2 : (colsI t).length ≤ 60) (h1 : G.mg "_law_columns" = some (.ref fc)) (hc : CallSem G n P fc [] [.list (zss t)] (Pure (.list (zss (colsI t))))) :
    CallSem G (n + 1) P f [] [.list (zss t)] (fun d mu => ∃ prs, rowsOf prs = listsI t ∧ d = .list (refs prs) ∧ mu = ent prs) := by
  refine call_fn (fd := fdN 9 name qual .none .none doc pm an cdv ct) (ns := ["rows"]) (body := bo 9) hmon ⟨rfl, fun s vs hb h => ?_, by decide, rfl, rfl, rfl, rfl, rfl⟩ (fun K F hb _ => hF.mono hb) (show ∀ x ∈ (sc 9).names, _ by decide) (show ∀ x ∈ (["rows"] : List Str), (sc 9).names.lookup x = _ by decide) [] (fun K F _ => ⟨fun x hx => (nomatch hx), fun x d h => (nomatch h)⟩) List.Pairwise.nil (by simp) fun A L hr => ?_
  · match vs, h with
    | [a], _ => exact BindsTo.of_eq rfl
  · exact lists_body B hz hz2 h1 hc
end
end Mine
end

section
set_option Elab.async false
set_option linter.unusedVariables false
set_option linter.unusedSimpArgs false
namespace Mine
open PySem PySem.W PyProof.Rows PySem.Calls
section
variable {prog : Program} {w : World} {A : Around} {E : Value → Shared → Prop} {R : Result → Shared → Prop} {s : Shared} {elt : Expr} {g0 : Comprehension} {target iter : Expr} {scope : Scope} {pos : Pos} {it acc : Value} {env : Env}
theorem compStart1 (h0 : codeAny (model prog w) A (.compLoop (.ListComp elt [g0, ⟨target, iter, [], 0⟩] scope pos) 1 it acc env) R s)
    (h : wpAny (model prog w) A (pyIter it) (fun it' s' => codeAny (model prog w) A (.compLoop (.ListComp elt [g0, ⟨target, iter, [], 0⟩] scope pos) 1 it' acc env) R s') (notedBy (model prog w) A env fun x s' => R (.error x) s') s) :
    codeAny (model prog w) A (.compStart (.ListComp elt [g0, ⟨target, iter, [], 0⟩] scope pos) 1 it acc env) R s := by
  refine codeAny_of_tree ?_
  show wpAny _ _ ((compStart (.ListComp elt [g0, ⟨target, iter, [], 0⟩] scope pos) 1 it acc env).onRaise (fun x => do noteFrame x env; standAt theWindowsPlace)) _ _ s
  refine wpAny_notedAt ?_
  unfold compStart
  show wpAny _ _ (ask >>= _) _ _ s
  refine wpAny_bind (wpAny_askSetting (wpAny_ite ?_))
  split
  · first
      | exact wpAny_bind (wpAny_pure (wpAny_pure (And.intro rfl h0)))
      | exact wpAny_pure (And.intro rfl h0)
  · refine wpAny_bind (wpAny_rule ?_)
    show wpAny _ _ (standAt iter.pos >>= _) _ _ s
    exact wpAny_bind (wpAny_standAt (wpAny_bind (wpAny_mono h (fun it' s' h' => wpAny_pure (And.intro rfl h')) fun _ _ x => x)))
theorem turn1 : compTurn (.ListComp elt [g0, ⟨target, iter, [], 0⟩] scope pos) 1 it acc env = (standAt iter.pos >>= fun _ => pyNext it >>= fun r => match r with
      | none => pure (.done .next)
      | some v => letOwnedTupleGo target it v >>= fun _ => assign target env v >>= fun _ =>
        (eval elt env >>= fun x => call (.builtin "list.append") [acc, x] >>= fun _ => pure ()) >>= fun _ =>
          again (.compLoop (.ListComp elt [g0, ⟨target, iter, [], 0⟩] scope pos) 1 it acc env)) := by rfl
theorem loop1 (I : Nat → Shared → Prop)
    (turn : ∀ n s, I n s → wpAny (model prog w) A (pyNext it) (fun r s₁ => match r with
      | none => R (.ok .next) s₁
      | some v => wpAny (model prog w) A (assign target env v) (fun _ s₂ => wpAny (model prog w) A (eval elt env) (fun x s₃ =>
          wpAny (model prog w) A (call (.builtin "list.append") [acc, x]) (fun _ s₄ => ∃ m, m < n ∧ I m s₄) (notedBy (model prog w) A env fun e s' => R (.error e) s') s₃)
            (notedBy (model prog w) A env fun e s' => R (.error e) s') s₂) (notedBy (model prog w) A env fun e s' => R (.error e) s') s₁) (notedBy (model prog w) A env fun e s' => R (.error e) s') s)
    (n : Nat) (h : I n s) (ht : ∀ v, letOwnedTupleGo target it v = pure () := by intro _; rfl) :
    codeAny (model prog w) A (.compLoop (.ListComp elt [g0, ⟨target, iter, [], 0⟩] scope pos) 1 it acc env) R s := by
  refine codeAny_loop rfl I (fun n s hI => ?_) n h
  show wpAny _ A ((compTurn (.ListComp elt [g0, ⟨target, iter, [], 0⟩] scope pos) 1 it acc env).onRaise (fun x => do noteFrame x env; theTreesLotGoes x)) _ _ s
  refine wpAny_noted ?_
  rw [turn1]
  refine wpAny_bind (wpAny_standAt (wpAny_bind (wpAny_mono (turn n s hI) (fun r s₁ h₁ => ?_) fun _ _ h' => h')))
  cases r with
  | none => exact wpAny_pure h₁
  | some v =>
    refine wpAny_bind (wpAny_of_eq (ht v) ?_)
    refine wpAny_bind (wpAny_mono h₁ (fun _ s₂ h₂ => ?_) fun _ _ h' => h')
    exact wpAny_bind (wpAny_bind (wpAny_mono h₂ (fun x s₃ h₃ => wpAny_bind (wpAny_mono h₃ (fun _ s₄ h₄ => wpAny_pure (wpAny_pure ⟨rfl, h₄⟩)) fun _ _ h' => h')) fun _ _ h' => h'))
variable {target0 iter0 : Expr}
theorem turn0 : compTurn (.ListComp elt [⟨target0, iter0, [], 0⟩, ⟨target, iter, [], 0⟩] scope pos) 0 it acc env = (standAt iter0.pos >>= fun _ => pyNext it >>= fun r => match r with
      | none => pure (.done .next)
      | some v => letOwnedTupleGo target0 it v >>= fun _ => assign target0 env v >>= fun _ =>
        eval iter env >>= fun x => standAt iter.pos >>= fun _ => foldedSetIterable iter env x >>= fun x => holding [x] (pyIter x) >>= fun i =>
          runOwn (.compStart (.ListComp elt [⟨target0, iter0, [], 0⟩, ⟨target, iter, [], 0⟩] scope pos) 1 i acc env) env >>= fun _ =>
          again (.compLoop (.ListComp elt [⟨target0, iter0, [], 0⟩, ⟨target, iter, [], 0⟩] scope pos) 0 it acc env)) := by rfl
theorem loop0 (I : Nat → Shared → Prop)
    (turn : ∀ n s, I n s → wpAny (model prog w) A (pyNext it) (fun r s₁ => match r with
      | none => R (.ok .next) s₁
      | some v => wpAny (model prog w) A (assign target0 env v) (fun _ s₂ => wpAny (model prog w) A (eval iter env) (fun x s₃ => wpAny (model prog w) A (pyIter x) (fun i s₄ =>
          codeAny (model prog w) A (.compStart (.ListComp elt [⟨target0, iter0, [], 0⟩, ⟨target, iter, [], 0⟩] scope pos) 1 i acc env) (fun r s₅ => match r with | .ok _ => ∃ m, m < n ∧ I m s₅ | .error e => False) s₄)
            (notedBy (model prog w) A env fun e s' => R (.error e) s') s₃)
            (notedBy (model prog w) A env fun e s' => R (.error e) s') s₂) (notedBy (model prog w) A env fun e s' => R (.error e) s') s₁) (notedBy (model prog w) A env fun e s' => R (.error e) s') s)
    (n : Nat) (h : I n s) (ht : ∀ v, letOwnedTupleGo target0 it v = pure () := by intro _; rfl) (hs : ∀ x, foldedSetIterable iter env x = pure x := by intro _; rfl) :
    codeAny (model prog w) A (.compLoop (.ListComp elt [⟨target0, iter0, [], 0⟩, ⟨target, iter, [], 0⟩] scope pos) 0 it acc env) R s := by
  refine codeAny_loop rfl I (fun n s hI => ?_) n h
  show wpAny _ A ((compTurn (.ListComp elt [⟨target0, iter0, [], 0⟩, ⟨target, iter, [], 0⟩] scope pos) 0 it acc env).onRaise (fun x => do noteFrame x env; theTreesLotGoes x)) _ _ s
  refine wpAny_noted ?_
  rw [turn0]
  refine wpAny_bind (wpAny_standAt (wpAny_bind (wpAny_mono (turn n s hI) (fun r s₁ h₁ => ?_) fun _ _ h' => h')))
  cases r with
  | none => exact wpAny_pure h₁
  | some v =>
    refine wpAny_bind (wpAny_of_eq (ht v) ?_)
    refine wpAny_bind (wpAny_mono h₁ (fun _ s₂ h₂ => ?_) fun _ _ h' => h')
    refine wpAny_bind (wpAny_mono h₂ (fun x s₃ h₃ => ?_) fun _ _ h' => h')
    refine wpAny_bind (wpAny_standAt (wpAny_bind (wpAny_of_eq (hs x) (wpAny_bind (wpAny_holding (wpAny_mono h₃ (fun i s₄ h₄ => ?_) fun _ _ h' => h'))))))
    refine wpAny_bind (wpAny_runOwn (codeAny_mono h₄ fun r s₅ h₅ => ?_))
    cases r with
    | ok f => exact wpAny_pure ⟨rfl, h₅⟩
    | error e => exact h₅.elim
end
section
variable {C : Cx} {scope : Scope}
theorem sub_cons {x : Str} {d : D} {vs0 vs : List (Str × D)} (h : ∀ y e, vs0.lookup y = some e → vs.lookup y = some e) : ∀ y e, ((x, d) :: vs0).lookup y = some e → ((x, d) :: vs).lookup y = some e := fun y e q => by
  rw [List.lookup_cons] at q ⊢
  cases hb : y == x with
  | true => rw [hb] at q; exact q
  | false => rw [hb] at q; exact h y e q
theorem sub_self {x : Str} {d : D} {vs0 : List (Str × D)} (h : vs0.lookup x = none) : ∀ y e, vs0.lookup y = some e → ((x, d) :: vs0).lookup y = some e := fun y e q => by
  rw [List.lookup_cons]
  cases hb : y == x with
  | true => rw [beq_iff_eq.mp hb] at q; rw [h] at q; cases q
  | false => exact q
theorem comp_inner {K0 F0 : Fz} {elt iter : Expr} {g0 : Comprehension} {x : Str} {px pos : Pos} {it acc : Addr} {ds : List D} {P : Nat → Obj → Prop} {R : Result → Shared → Prop} {vs0 : List (Str × D)} {out0 : List D} {nm : Mu} {s : Shared} (g : D → D) (I : IterOk C.G C.A K0 F0 it ds P) (hl : out0.length + ds.length ≤ 100000)
    (hasg : ∀ d mu vs, Asg C { vars := vs, mu := mu } (.Name x px) d { vars := (x, d) :: vs, mu := mu }) (hx0 : vs0.lookup x = none) (step : ∀ d mu, d ∈ ds → Ev C { vars := (x, d) :: vs0, mu := mu } elt (g d))
    (hR : ∀ F' s' vs, (∀ y e, vs0.lookup y = some e → vs.lookup y = some e) → Mo C K0 { vars := vs, mu := (acc, .list (out0 ++ ds.map g)) :: nm } F' s' → Fle F0 F' → R (.ok .next) s')
    {vs1 : List (Str × D)} (hv1 : ∀ y e, vs0.lookup y = some e → vs1.lookup y = some e) (X : Mo C K0 { vars := vs1, mu := (it, .obj (P 0)) :: (acc, .list out0) :: nm } F0 s) :
    codeAny C.G.M C.A (.compLoop (.ListComp elt [g0, ⟨.Name x px, iter, [], 0⟩] scope pos) 1 (.ref it) (.ref acc) C.env) R s := by
  refine loop1 (prog := C.G.prog) (w := C.G.w) (fun n s => ∃ k vs F, n + k = ds.length ∧ Fle F0 F ∧ (∀ y e, vs0.lookup y = some e → vs.lookup y = some e) ∧
    Mo C K0 { vars := vs, mu := (it, .obj (P k)) :: (acc, .list (out0 ++ (ds.take k).map g)) :: nm } F s) ?_ ds.length ⟨0, vs1, F0, by simp, Fle.refl _, hv1, by simpa using X⟩
  rintro n s ⟨k, vs, F, hn, hF, hvs, X⟩
  have hit : ∃ o, s.heap.get? it = some o ∧ P k o := (X.am.mus (it, .obj (P k)) (.head _)).1
  cases n with
  | zero =>
    have hk : k = ds.length := by lia
    subst hk
    refine I.stop F s _ _ hF X.am.frz X.am.keep hit fun h' t hs => ?_
    have X' := X.dropExt (t := t) rfl hs
    rw [List.take_length] at X'
    exact hR F _ vs hvs X' hF
  | succ n =>
    have hk : k < ds.length := by lia
    refine I.item k ds[k] F s _ _ hF X.am.frz X.am.keep (List.getElem?_eq_getElem hk) hit fun h' v t hs hit' hr => ?_
    have X1 := X.turn (pre := []) (mo' := .obj (P (k + 1))) (t := t) rfl hs hit'
    refine hasg ds[k] _ vs K0 F _ v _ _ X1 hr fun s2 X2 => ?_
    replace X2 := X2.weak (σ' := { vars := (x, ds[k]) :: vs0, mu := (it, .obj (P (k + 1))) :: (acc, .list (out0 ++ (ds.take k).map g)) :: nm }) (sub_cons hvs) rfl
    refine step ds[k] _ (List.getElem_mem hk) K0 F s2 _ _ X2 fun F3 v3 s3 X3 g3 r3 => ?_
    obtain ⟨oa, vsa, hoa, ⟨hl100, na, rfl⟩, hra⟩ := (X3.am.mus (acc, .list (out0 ++ (ds.take k).map g)) (.tail _ (.head _))).1
    have hlo : vsa.length = out0.length + k := by
      rw [hra.length, List.length_append, List.length_map, List.length_take]; lia
    refine wpAny_list_append_plain ⟨na, hoa⟩ (fun h7 hp7 hs7 => ?_) (by rw [List.size_toArray]; exact fitsSz (by lia))
    obtain ⟨n7, hp7⟩ := hp7
    have e1 : out0 ++ (ds.take (k + 1)).map g = (out0 ++ (ds.take k).map g) ++ [g ds[k]] := by
      rw [List.take_add_one, List.getElem?_eq_getElem hk, List.map_append, ← List.append_assoc]; rfl
    have X4 := X3.turn (pre := [(it, .obj (P (k + 1)))]) (post := nm) (mo' := .list (out0 ++ (ds.take (k + 1)).map g)) (t := s3.toks) rfl hs7 ⟨_, vsa ++ [v3], hp7, ⟨by rw [List.length_append]; simp; lia, n7, by simp⟩, by rw [e1]; exact hra.append (.cons r3 .nil)⟩
    exact ⟨n, Nat.lt_succ_self n, k + 1, _, F3, by lia, hF.trans g3, sub_self hx0, X4⟩
theorem comp_outer {K0 F0 : Fz} {elt iter0 iter : Expr} {x y : Str} {px py pos : Pos} {it acc : Addr} {ds : List D} {P : Nat → Obj → Prop} {R : Result → Shared → Prop} {vs0 : List (Str × D)} {s : Shared} (sub : D → List D) (g : D → D → D) (I : IterOk C.G C.A K0 F0 it ds P) (hl : (ds.map fun d => (sub d).length).sum ≤ 50000) (hl2 : ds.length ≤ 50000)
    (hasg : ∀ z pz, z = x ∨ z = y → ∀ d mu vs, Asg C { vars := vs, mu := mu } (.Name z pz) d { vars := (z, d) :: vs, mu := mu }) (hxy : x ≠ y) (hx0 : vs0.lookup x = none) (hy0 : vs0.lookup y = none)
    (hit : ∀ d mu, d ∈ ds → Ev C { vars := (y, d) :: vs0, mu := mu } iter (.list (sub d)))
    (step : ∀ d e mu, d ∈ ds → e ∈ sub d → Ev C { vars := (x, e) :: (y, d) :: vs0, mu := mu } elt (g d e))
    (hR : ∀ F' s' vs, Mo C K0 { vars := vs, mu := [(acc, .list (ds.flatMap fun d => (sub d).map (g d)))] } F' s' → Fle F0 F' → R (.ok .next) s')
    (X : Mo C K0 { vars := vs0, mu := [(it, .obj (P 0)), (acc, .list [])] } F0 s) (hs : ∀ x, foldedSetIterable iter C.env x = pure x := by intro _; rfl) :
    codeAny C.G.M C.A (.compLoop (.ListComp elt [⟨.Name y py, iter0, [], 0⟩, ⟨.Name x px, iter, [], 0⟩] scope pos) 0 (.ref it) (.ref acc) C.env) R s := by
  refine loop0 (prog := C.G.prog) (w := C.G.w) (fun n s => ∃ k vs F, n + k = ds.length ∧ Fle F0 F ∧ (∀ y e, vs0.lookup y = some e → vs.lookup y = some e) ∧
    Mo C K0 { vars := vs, mu := [(it, .obj (P k)), (acc, .list ((ds.take k).flatMap fun d => (sub d).map (g d)))] } F s) ?_ ds.length ⟨0, vs0, F0, by simp, Fle.refl _, fun _ _ e => e, by simpa using X⟩ (fun _ => rfl) hs
  rintro n s ⟨k, vs, F, hn, hF, hvs, X⟩
  have hi : ∃ o, s.heap.get? it = some o ∧ P k o := (X.am.mus (it, .obj (P k)) (.head _)).1
  cases n with
  | zero =>
    have hk : k = ds.length := by lia
    subst hk
    refine I.stop F s _ _ hF X.am.frz X.am.keep hi fun h' t hs' => ?_
    have X' := X.dropExt (t := t) rfl hs'
    rw [List.take_length] at X'
    exact hR F _ vs X' hF
  | succ n =>
    have hk : k < ds.length := by lia
    refine I.item k ds[k] F s _ _ hF X.am.frz X.am.keep (List.getElem?_eq_getElem hk) hi fun h' v t hs' hit' hr => ?_
    have X1 := X.turn (pre := []) (mo' := .obj (P (k + 1))) (t := t) rfl hs' hit'
    refine hasg y py (.inr rfl) ds[k] _ vs K0 F _ v _ _ X1 hr fun s2 X2 => ?_
    replace X2 := X2.weak (σ' := { vars := (y, ds[k]) :: vs0, mu := [(it, .obj (P (k + 1))), (acc, .list ((ds.take k).flatMap fun d => (sub d).map (g d)))] }) (sub_cons hvs) rfl
    refine hit ds[k] _ (List.getElem_mem hk) K0 F s2 _ _ X2 fun F3 v3 s3 X3 g3 r3 => ?_
    have S : Src K0 F3 v3 (sub ds[k]) := by
      obtain ⟨a, o, ws, rfl, h1, h2, h3⟩ := r3.list_inv
      exact .list (.inl h1) h2 h3
    refine pyIter_src X3.ok.rm.hh S X3.am.frz X3.am.keep fun o P2 hf2 hP2 IA => ?_
    have I2 := IA C.A X3.ok.rm.hh
    have X4 := X3.allocMu o (.obj (P2 0)) s3.toks ⟨o, Heap.get?_push_size _ hf2, hP2⟩
    have X5 := X4.perm (mu' := [(s3.heap.objs.size, .obj (P2 0)), (acc, .list ((ds.take k).flatMap fun d => (sub d).map (g d))), (it, .obj (P (k + 1)))]) (List.Perm.cons _ (List.Perm.swap ..))
    have hb : ((ds.take k).flatMap fun d => (sub d).map (g d)).length + (sub ds[k]).length ≤ 100000 := by
      rw [List.length_flatMap]
      simp only [List.length_map]
      have h1 : ((ds.take k).map fun d => (sub d).length).sum + (sub ds[k]).length ≤ (ds.map fun d => (sub d).length).sum := by
        have e : ds = ds.take k ++ ds[k] :: ds.drop (k + 1) := by rw [← List.drop_eq_getElem_cons hk, List.take_append_drop]
        have e2 := congrArg (fun l : List D => (l.map fun d => (sub d).length).sum) e
        simp only [List.map_append, List.map_cons, List.sum_append, List.sum_cons] at e2
        lia
      lia
    have body : codeAny C.G.M C.A (.compLoop (.ListComp elt [⟨.Name y py, iter0, [], 0⟩, ⟨.Name x px, iter, [], 0⟩] scope pos) 1 (.ref s3.heap.objs.size) (.ref acc) C.env)
        (fun r s₅ => match r with | .ok _ => ∃ m, m < n + 1 ∧ ∃ k vs F, m + k = ds.length ∧ Fle F0 F ∧ (∀ y e, vs0.lookup y = some e → vs.lookup y = some e) ∧ Mo C K0 { vars := vs, mu := [(it, .obj (P k)), (acc, .list ((ds.take k).flatMap fun d => (sub d).map (g d)))] } F s₅ | .error e => False)
        { s3 with heap := s3.heap.push o } := by
      refine comp_inner (F0 := F3) (vs0 := (y, ds[k]) :: vs0) (vs1 := (y, ds[k]) :: vs0) (nm := [(it, .obj (P (k + 1)))]) (g ds[k]) I2 hb (hasg x px (.inl rfl)) ?_ (fun d mu hd => step ds[k] d mu (List.getElem_mem hk) hd) (fun F' s' vs' hvs' X' g' => ?_) (fun _ _ e => e) X5
      · rw [List.lookup_cons, beq_eq_false_iff_ne.mpr hxy]; exact hx0
      · refine ⟨n, Nat.lt_succ_self n, k + 1, vs', F', by lia, (hF.trans g3).trans g', fun z e q => hvs' z e (sub_self hy0 z e q), ?_⟩
        have e1 : (ds.take (k + 1)).flatMap (fun d => (sub d).map (g d)) = ((ds.take k).flatMap fun d => (sub d).map (g d)) ++ (sub ds[k]).map (g ds[k]) := by
          rw [List.take_add_one, List.getElem?_eq_getElem hk, List.flatMap_append]; simp
        rw [e1]
        exact X'.perm (List.Perm.swap ..)
    exact compStart1 (prog := C.G.prog) (w := C.G.w) body (I2.self 0 _ _ _ ⟨o, Heap.get?_push_size _ hf2, hP2⟩ body)
variable {σ : St} {cl : List (Str × Addr)}
theorem compVars_none {env : Env} {x y : Str} {vars : List (Str × D)} (h : scope.names.lookup x ≠ some .free) : (compVars env scope cl y vars).lookup x = none := by
  cases q : (compVars env scope cl y vars).lookup x with
  | none => rfl
  | some e =>
    unfold compVars at q
    obtain ⟨q1, _⟩ := lookup_filter (fun n => sees env scope cl y n) q
    simp only [sees, Bool.and_eq_true] at q1
    exact absurd (by simpa using q1.2) h
theorem EvC.flat {elt iter0 iter : Expr} {x y : Str} {px py pos : Pos} {d : D} {ds : List D} (sub : D → List D) (g : D → D → D) (ok : CompOk C scope cl) (hx : scope.names.lookup x = some .local ∨ scope.names.lookup x = some .cell) (hy : scope.names.lookup y = some .local ∨ scope.names.lookup y = some .cell) (hxy : x ≠ y)
    (hv : Ev C σ iter0 d) (hi : ItD C σ d ds) (hl : (ds.map fun d => (sub d).length).sum ≤ 50000) (hl2 : ds.length ≤ 50000)
    (hit : ∀ L d mu, d ∈ ds → Ev (compCx C σ scope cl L) { vars := (y, d) :: compVars C.env scope cl y σ.vars, mu := mu } iter (.list (sub d)))
    (step : ∀ L d e mu, d ∈ ds → e ∈ sub d → Ev (compCx C σ scope cl L) { vars := (x, e) :: (y, d) :: compVars C.env scope cl y σ.vars, mu := mu } elt (g d e))
    (hs : ∀ x, foldedSetIterable iter0 C.env x = pure x := by intro _; rfl) (hs2 : ∀ env x, foldedSetIterable iter env x = pure x := by intro _ _; rfl) :
    EvC C σ elt [⟨.Name y py, iter0, [], 0⟩, ⟨.Name x px, iter, [], 0⟩] scope pos (NewL σ (ds.flatMap fun d => (sub d).map (g d))) := fun use K F s Q E X hQ => by
  refine wpAny_comprehension_free rfl hs ok.clos ok.kind ok.names (hv K F s _ E X fun F1 v s1 X1 g1 r1 => ?_)
  have S := hi.src X1 r1
  have A0 := X1.am.leave (pas := []) rfl
  refine pyIter_src X.ok.rm.hh S X1.am.frz A0.keep fun o P hf hP IA => ?_
  have I := IA C.A X.ok.rm.hh
  have A1 := A0.allocMu o (.obj (P 0)) s1.toks ⟨o, Heap.get?_push_size _ hf, hP⟩
  refine wpAny_newObj_type ?_
  have A2 := A1.allocMu { cls := .type "list", data := .seq ([] : List Value).toArray } (.list []) s1.toks ⟨_, [], Heap.get?_push_size _ rfl, ⟨by simp, 0, rfl⟩, .nil⟩
  have A3 := A2.perm (mu' := [(s1.heap.objs.size, .obj (P 0)), ((s1.heap.push o).objs.size, .list [])]) (List.Perm.swap ..)
  refine comp_enter (x := y) X1 ok A3 fun L s2 hLn X2 => ?_
  have hnf : ∀ {z}, scope.names.lookup z = some .local ∨ scope.names.lookup z = some .cell → (compVars C.env scope cl y σ.vars).lookup z = none := fun {z} h => compVars_none (by rcases h with h | h <;> (rw [h]; intro e; cases e))
  have loop : codeAny C.G.M C.A (.compLoop (.ListComp elt [⟨.Name y py, iter0, [], 0⟩, ⟨.Name x px, iter, [], 0⟩] scope pos) 0 (.ref s1.heap.objs.size) (.ref (s1.heap.push o).objs.size) (compCx C σ scope cl L).env)
      (compPost C.G.M C.A E use Q (.ref (s1.heap.push o).objs.size) L) s2 := by
    refine comp_outer (C := compCx C σ scope cl L) (K0 := full F1 s1.heap []) (F0 := F1) (vs0 := compVars C.env scope cl y σ.vars) sub g I hl hl2 (fun z pz hz d mu vs => ?_) hxy (hnf hx) (hnf hy) (fun d mu hd => hit L d mu hd) (fun d e mu hd he => step L d e mu hd he) (fun F' s' vs X' g' => ?_) X2 (fun x => hs2 _ x)
    · rcases hz with rfl | rfl
      · exact compAsg hx
      · exact compAsg hy
    · have B := X1.back (pas := []) (oth := σ.mu) (mu' := [((s1.heap.push o).objs.size, .list (ds.flatMap fun d => (sub d).map (g d)))]) rfl X'.am g'
      obtain ⟨p1, p2, p3⟩ := X'.priv L (.head _)
      have hs1 : ∀ o', s1.heap.get? L ≠ some o' := fun o' e => by rw [hLn] at e; cases e
      refine hQ F' _ s' _ L ⟨_, rfl, rfl⟩ B (g1.trans g') p1 ?_ ?_ ?_ ?_
      · cases e : K L with
        | none => rfl
        | some o' => exact absurd (X1.am.keep _ _ e) (hs1 o')
      · intro p hp e
        rcases List.mem_cons.mp hp with rfl | hp
        · exact X'.pmu _ (.head _) (e ▸ .head _)
        · obtain ⟨o', ho'⟩ := (X1.am.mus p hp).1.some
          exact hs1 o' (e ▸ ho')
      · intro hp
        obtain ⟨o', ho'⟩ := (X1.priv L hp).2.2
        exact hs1 o' ho'
      · obtain ⟨m, hm, _⟩ := X'.loc
        exact ⟨m, hm⟩
  exact codeAny_compStart_list loop (I.self 0 s2 _ _ ((X2.am.mus (s1.heap.objs.size, .obj (P 0)) (.head _)).1) loop)
end
end Mine
end

section
open PySem PySem.W PyProof.Rows
set_option Elab.async false
set_option linter.unusedVariables false
namespace Mine
noncomputable def Bf (key : Nat → Int) (x y : Nat) : Prop := key x < key y ∨ (key x = key y ∧ x < y)
theorem Bf.trans {key : Nat → Int} {x y z : Nat} (h1 : Bf key x y) (h2 : Bf key y z) : Bf key x z := by
  unfold Bf at *; lia
section
variable {key : Nat → Int} {n : Nat}
noncomputable abbrev kc (key : Nat → Int) (i j : Nat) : Bool := decide (key i < key j)
structure Pl (n : Nat) (p : Array Nat) (m : Nat) : Prop where
  sz : p.size = n
  le : m ≤ n
  tl : ∀ i, m ≤ i → i < n → p.getD i 0 = i
  pf : ∀ i, i < m → p.getD i 0 < m
noncomputable def Asc (key : Nat → Int) (p : Array Nat) (m : Nat) : Prop := ∀ a b, a < b → b < m → Bf key (p.getD a 0) (p.getD b 0)
noncomputable def Dsc (key : Nat → Int) (p : Array Nat) (m : Nat) : Prop := ∀ a b, a < b → b < m → Bf key (p.getD b 0) (p.getD a 0)
theorem Pl.lt {p : Array Nat} {m : Nat} (h : Pl n p m) (i : Nat) (hi : i < n) : p.getD i 0 < n := by
  by_cases q : i < m
  · have := h.pf i q; have := h.le; lia
  · rw [h.tl i (by lia) hi]; exact hi
theorem Pl.succ {p : Array Nat} {m : Nat} (h : Pl n p m) (hm : m < n) : Pl n p (m + 1) := by
  refine ⟨h.sz, hm, fun i h1 h2 => h.tl i (by lia) h2, fun i hi => ?_⟩
  by_cases q : i < m
  · have := h.pf i q; lia
  · rw [h.tl i (by lia) (by lia)]; exact hi
theorem getD_eq {p q : Array Nat} {i j : Nat} (h : p[i]? = q[j]?) : p.getD i 0 = q.getD j 0 := by
  rw [Array.getD_eq_getD_getElem?, Array.getD_eq_getD_getElem?, h]
theorem rev_at {p : Array Nat} {i j : Nat} (hj : j ≤ p.size) (k : Nat) : (kas_rev p i j).getD k 0 = if i ≤ k ∧ k < j then p.getD (i + j - 1 - k) 0 else p.getD k 0 := by
  have e := getElem?_mirror_all (i := i) hj k
  unfold kas_rev
  split at e
  · rename_i q; rw [if_pos q]; exact getD_eq e
  · rename_i q; rw [if_neg q]; exact getD_eq e
theorem rev_size (p : Array Nat) (i j : Nat) : (kas_rev p i j).size = p.size := mirror_size _ _ _ _
theorem Pl.rev {p : Array Nat} {m i j : Nat} (h : Pl n p m) (hj : j ≤ m) : Pl n (kas_rev p i j) m := by
  have hs := h.sz
  have hl := h.le
  refine ⟨by rw [rev_size]; exact hs, hl, fun k h1 h2 => ?_, fun k hk => ?_⟩
  · rw [rev_at (by lia), if_neg (by lia)]; exact h.tl k h1 h2
  · rw [rev_at (by lia)]
    split
    · exact h.pf _ (by lia)
    · exact h.pf _ hk
theorem asc_st {p : Array Nat} : ∀ (f m : Nat), Pl n p m → Asc key p m → 1 ≤ m → m + f = n → Hold n (kc key) (kas_asc p f m) fun m' => Pl n p m' ∧ Asc key p m' ∧ 1 ≤ m' ∧ (m' < n → key (p.getD m' 0) < key (p.getD (m' - 1) 0))
  | 0, m, h, ha, h1, hf => ⟨h, ha, h1, fun q => by lia⟩
  | f + 1, m, h, ha, h1, hf => by
    refine ⟨h.lt _ (by lia), h.lt _ (by lia), ?_⟩
    show Hold n (kc key) (if kc key _ _ = true then _ else _) _
    split
    · rename_i q
      exact ⟨h, ha, h1, fun _ => of_decide_eq_true q⟩
    · rename_i q
      have q' : ¬ key (p.getD m 0) < key (p.getD (m - 1) 0) := fun z => q (decide_eq_true z)
      refine asc_st f (m + 1) (h.succ (by lia)) (fun a b hab hb => ?_) (by lia) (by lia)
      by_cases hbm : b < m
      · exact ha a b hab hbm
      · obtain rfl : b = m := by lia
        have e := h.tl b (Nat.le_refl _) (by lia)
        have l1 : Bf key (p.getD (b - 1) 0) (p.getD b 0) := by
          have := h.pf (b - 1) (by lia)
          unfold Bf; lia
        by_cases hab2 : a = b - 1
        · subst hab2; exact l1
        · exact (ha a (b - 1) (by lia) (by lia)).trans l1
structure Dn (key : Nat → Int) (p : Array Nat) (m q : Nat) : Prop where
  q1 : q + 1 ≤ m
  run : ∀ a b, m - (q + 1) ≤ a → a < b → b < m → key (p.getD a 0) = key (p.getD b 0) ∧ p.getD a 0 < p.getD b 0
  dn : ∀ a b, a < b → b < m - (q + 1) → Bf key (p.getD b 0) (p.getD a 0)
  lo : ∀ a b, a < m - (q + 1) → m - (q + 1) ≤ b → b < m → key (p.getD b 0) < key (p.getD a 0)
theorem Dn.flip {p : Array Nat} {m q : Nat} (h : Dn key p m q) (hm : m ≤ p.size) : Dsc key (if q > 0 then kas_rev p (m - (q + 1)) m else p) m := by
  have h0 := h.q1
  intro a b hab hb
  have key1 : ∀ k, k < m → (if q > 0 then kas_rev p (m - (q + 1)) m else p).getD k 0 = if m - (q + 1) ≤ k then p.getD (m - (q + 1) + m - 1 - k) 0 else p.getD k 0 := fun k hk => by
    split
    · rw [rev_at hm]
      by_cases z : m - (q + 1) ≤ k
      · rw [if_pos ⟨z, hk⟩, if_pos z]
      · rw [if_neg (by lia), if_neg z]
    · split
      · congr 1; lia
      · rfl
  rw [key1 a (by lia), key1 b hb]
  by_cases ha : m - (q + 1) ≤ a
  · rw [if_pos ha, if_pos (by lia)]
    have := h.run (m - (q + 1) + m - 1 - b) (m - (q + 1) + m - 1 - a) (by lia) (by lia) (by lia)
    exact .inr this
  · rw [if_neg ha]
    by_cases hb2 : m - (q + 1) ≤ b
    · rw [if_pos hb2]
      exact .inl (h.lo a _ (by lia) (by lia) (by lia))
    · rw [if_neg hb2]
      exact h.dn a b hab (by lia)
theorem desc_st : ∀ (f : Nat) {p : Array Nat} (m q : Nat), Pl n p m → Dn key p m q → m + f = n → Hold n (kc key) (kas_desc f p m q) fun r => Pl n r.1 r.2.1 ∧ Dn key r.1 r.2.1 r.2.2
  | 0, p, m, q, h, hd, hf => ⟨h, hd⟩
  | f + 1, p, m, q, h, hd, hf => by
    have h0 := hd.q1
    have hsz := h.sz
    refine ⟨h.lt _ (by lia), h.lt _ (by lia), ?_⟩
    have em := h.tl m (Nat.le_refl _) (by lia)
    show Hold n (kc key) (if kc key _ _ = true then _ else _) _
    split
    · rename_i c1
      have c1 := of_decide_eq_true c1
      have next : ∀ p', p' = (if q > 0 then kas_rev p (m - (q + 1)) m else p) → Pl n p' m → Hold n (kc key) (kas_desc f p' (m + 1) 0) fun r => Pl n r.1 r.2.1 ∧ Dn key r.1 r.2.1 r.2.2 := fun p' e hp => by
        have hD := hd.flip (by lia)
        rw [← e] at hD
        have em' := hp.tl m (Nat.le_refl _) (by lia)
        have top : ∀ a, a < m → key m < key (p'.getD a 0) := fun a ha => by
          have l0 : key (p'.getD (m - 1) 0) = key (p.getD (m - 1) 0) := by
            rw [e]
            split
            · rw [rev_at (by lia), if_pos (by lia)]
              by_cases z : m - (q + 1) + m - 1 - (m - 1) = m - 1
              · rw [z]
              · exact (hd.run _ (m - 1) (by lia) (by lia) (by lia)).1
            · rfl
          have l1 : key (p'.getD (m - 1) 0) ≤ key (p'.getD a 0) := by
            by_cases z : a = m - 1
            · rw [z]; exact Int.le_refl _
            · have := hD a (m - 1) (by lia) (by lia)
              unfold Bf at this; lia
          rw [em] at c1; lia
        refine desc_st f (m + 1) 0 (hp.succ (by lia)) ⟨by lia, fun a b _ _ _ => by lia, fun a b hab hb => hD a b hab (by lia), fun a b ha hb hb2 => ?_⟩ (by lia)
        obtain rfl : b = m := by lia
        rw [em']; exact top a (by lia)
      split
      · rename_i hq
        exact next _ (by rw [if_pos hq]) (h.rev (Nat.le_refl _))
      · rename_i hq
        exact next _ (by rw [if_neg hq]) h
    · rename_i c1
      have c1 : ¬ key (p.getD m 0) < key (p.getD (m - 1) 0) := fun z => c1 (decide_eq_true z)
      refine ⟨h.lt _ (by lia), h.lt _ (by lia), ?_⟩
      show Hold n (kc key) (if kc key _ _ = true then _ else _) _
      split
      · exact ⟨h, hd⟩
      · rename_i c2
        have c2 : ¬ key (p.getD (m - 1) 0) < key (p.getD m 0) := fun z => c2 (decide_eq_true z)
        have eq : ∀ a, m - (q + 1) ≤ a → a < m → key (p.getD a 0) = key (p.getD m 0) := fun a h1 h2 => by
          by_cases z : a = m - 1
          · rw [z]; lia
          · have := (hd.run a (m - 1) h1 (by lia) (by lia)).1; lia
        refine desc_st f (m + 1) (q + 1) (h.succ (by lia)) ⟨by lia, fun a b h1 h2 h3 => ?_, fun a b h1 h2 => hd.dn a b h1 (by lia), fun a b h1 h2 h3 => ?_⟩ (by lia)
        · by_cases z : b < m
          · exact hd.run a b (by lia) h2 z
          · obtain rfl : b = m := by lia
            exact ⟨eq a (by lia) h2, by have := h.pf a h2; lia⟩
        · by_cases z : b < m
          · exact hd.lo a b (by lia) (by lia) z
          · obtain rfl : b = m := by lia
            rw [← eq (b - 1) (by lia) (by lia)]
            exact hd.lo a (b - 1) (by lia) (by lia) (by lia)
theorem tail_st {p : Array Nat} {m : Nat} (h : Pl n p m) (h1 : 1 ≤ m) (hd : Dsc key p m) : Hold n (kc key) (kas_tail3 m n p) fun r => Pl n r.2 r.1 ∧ Asc key r.2 r.1 ∧ 1 ≤ r.1 := by
  have hsz := h.sz
  have hl := h.le
  refine Hold.bind (Hold.mono (fun m' hm => ⟨hm.1, hm.2.1, hm.2.2.1⟩) (asc_st (n - m) m (h.rev (Nat.le_refl _)) (fun a b hab hb => ?_) h1 (by lia)))
  rw [rev_at (by lia), rev_at (by lia), if_pos (by lia), if_pos (by lia)]
  exact hd _ _ (by lia) (by lia)
theorem descPart_st {p : Array Nat} {m : Nat} (h : Pl n p (m + 1)) (hd : Dn key p (m + 1) 0) : Hold n (kc key) (kas_descPart m n p) fun r => Pl n r.2 r.1 ∧ Asc key r.2 r.1 ∧ 1 ≤ r.1 := by
  have hl := h.le
  refine Hold.bind (Hold.mono (fun r hr => ?_) (desc_st (n - (m + 1)) (m + 1) 0 h hd (by lia)))
  have hsz := hr.1.sz
  have h0 := hr.2.q1
  have hl2 := hr.1.le
  have := hr.2.flip (by lia)
  show Hold n (kc key) (if r.2.2 > 0 then _ else _) _
  split
  · rename_i z
    rw [if_pos z] at this
    exact tail_st (hr.1.rev (Nat.le_refl _)) (by lia) this
  · rename_i z
    rw [if_neg z] at this
    exact tail_st hr.1 (by lia) this
theorem count_st {p : Array Nat} (hn : 2 ≤ n) (h : Pl n p 1) : Hold n (kc key) (kas_count n p) fun r => Pl n r.2 r.1 ∧ Asc key r.2 r.1 ∧ 1 ≤ r.1 := by
  refine Hold.bind (Hold.mono (fun m hm => ?_) (asc_st (n - 1) 1 h (fun a b h1 h2 => by lia) (by lia) (by lia)))
  obtain ⟨h1, h2, h3, h4⟩ := hm
  have hsz := h1.sz
  show Hold n (kc key) (if (m == n) = true then _ else if m > 1 then _ else _) _
  split
  · exact ⟨h1, h2, h3⟩
  · rename_i hmn
    have hmn : m < n := by
      have := h1.le
      have : m ≠ n := fun e => hmn (by rw [e]; exact beq_self_eq_true _)
      lia
    have h4 := h4 hmn
    have em := h1.tl m (Nat.le_refl _) hmn
    have start : (∀ a b, a < b → b < m → key (p.getD a 0) = key (p.getD b 0) ∧ p.getD a 0 < p.getD b 0) → Hold n (kc key) (kas_descPart m n (kas_rev p 0 m)) fun r => Pl n r.2 r.1 ∧ Asc key r.2 r.1 ∧ 1 ≤ r.1 := fun he => by
      have at_ : ∀ k, k < m → (kas_rev p 0 m).getD k 0 = p.getD (m - 1 - k) 0 := fun k hk => by
        rw [rev_at (by lia), if_pos (by lia)]; congr 1; lia
      have atm : (kas_rev p 0 m).getD m 0 = p.getD m 0 := by rw [rev_at (by lia), if_neg (by lia)]
      refine descPart_st ((h1.rev (Nat.le_refl _)).succ hmn) ⟨by lia, fun a b _ _ _ => by lia, fun a b h5 h6 => ?_, fun a b h5 h6 h7 => ?_⟩
      · rw [at_ a (by lia), at_ b (by lia)]
        exact .inr (he _ _ (by lia) (by lia))
      · obtain rfl : b = m := by lia
        rw [at_ a (by lia), atm]
        by_cases z : b - 1 - a = b - 1
        · rw [z]; exact h4
        · rw [(he (b - 1 - a) (b - 1) (by lia) (by lia)).1]; exact h4
    split
    · refine ⟨h1.lt _ (by lia), h1.lt _ (by lia), ?_⟩
      show Hold n (kc key) (if kc key _ _ = true then _ else _) _
      split
      · exact ⟨h1, h2, h3⟩
      · rename_i c1
        have c1 : ¬ key (p.getD 0 0) < key (p.getD (m - 1) 0) := fun z => c1 (decide_eq_true z)
        refine start fun a b h5 h6 => ?_
        have l1 : key (p.getD 0 0) ≤ key (p.getD a 0) := by
          by_cases z : a = 0
          · rw [z]; exact Int.le_refl _
          · have := h2 0 a (by lia) (by lia); unfold Bf at this; lia
        have l2 : key (p.getD b 0) ≤ key (p.getD (m - 1) 0) := by
          by_cases z : b = m - 1
          · rw [z]; exact Int.le_refl _
          · have := h2 b (m - 1) (by lia) (by lia); unfold Bf at this; lia
        have := h2 a b h5 h6
        unfold Bf at this
        lia
    · refine descPart_st (h1.succ hmn) ⟨by lia, fun a b _ _ _ => by lia, fun a b h5 h6 => by lia, fun a b h5 h6 h7 => ?_⟩
      obtain rfl : b = m := by lia
      obtain rfl : a = b - 1 := by lia
      exact h4
theorem place_st {p : Array Nat} {k : Nat} (h : Pl n p k) (hk : k < n) (ha : Asc key p k) : ∀ (f l r : Nat), l ≤ r → r ≤ k → r - l ≤ f → (∀ a, a < l → key (p.getD a 0) ≤ key k) → (∀ a, r ≤ a → a < k → key k < key (p.getD a 0)) →
    Hold n (kc key) (kas_place p k f l r) fun l' => l' ≤ k ∧ (∀ a, a < l' → key (p.getD a 0) ≤ key k) ∧ (∀ a, l' ≤ a → a < k → key k < key (p.getD a 0))
  | 0, l, r, h1, h2, h3, h4, h5 => ⟨by lia, h4, (by lia : l = r) ▸ h5⟩
  | f + 1, l, r, h1, h2, h3, h4, h5 => by
    show Hold n (kc key) (if l ≥ r then _ else _) _
    split
    · exact ⟨by lia, h4, (by lia : l = r) ▸ h5⟩
    · refine ⟨h.lt _ (by lia), h.lt _ (by lia), ?_⟩
      have ek := h.tl k (Nat.le_refl _) hk
      have mono : ∀ a b, a ≤ b → b < k → key (p.getD a 0) ≤ key (p.getD b 0) := fun a b h6 h7 => by
        by_cases z : a = b
        · rw [z]; exact Int.le_refl _
        · have := ha a b (by lia) h7; unfold Bf at this; lia
      show Hold n (kc key) (if kc key _ _ = true then _ else _) _
      split
      · rename_i c1
        have c1 := of_decide_eq_true c1
        rw [ek] at c1
        exact place_st h hk ha f l _ (by lia) (by lia) (by lia) h4 fun a h6 h7 => by have := mono _ a h6 h7; lia
      · rename_i c1
        have c1 : ¬ key (p.getD k 0) < key (p.getD ((l + r) / 2) 0) := fun z => c1 (decide_eq_true z)
        rw [ek] at c1
        exact place_st h hk ha f _ r (by lia) h2 (by lia) (fun a h6 => by have := mono a ((l + r) / 2) (by lia) (by lia); lia) h5
theorem bin_st : ∀ (f : Nat) {p : Array Nat} (k : Nat), Pl n p k → Asc key p k → k + f = n → Hold n (kc key) (kas_bin f p k) fun p => Asc key p n
  | 0, p, k, h, ha, hf => (by lia : k = n) ▸ ha
  | f + 1, p, k, h, ha, hf => by
    refine Hold.bind (Hold.mono (fun l hl => ?_) (place_st h (by lia) ha k 0 k (by lia) (Nat.le_refl _) (by lia) (fun a h1 => by lia) (fun a h1 h2 => by lia)))
    obtain ⟨h1, h2, h3⟩ := hl
    have hsz := h.sz
    have ek := h.tl k (Nat.le_refl _) (by lia)
    have at_ : ∀ i, (bubble p k (k - l)).getD i 0 = if i = l then k else if l < i ∧ i ≤ k then p.getD (i - 1) 0 else p.getD i 0 := fun i => by
      have e := getElem?_bubble (xs := p) (src := k) (by lia) (k - l) (by lia) i
      rw [show k - (k - l) = l by lia] at e
      split at e
      · rename_i q; rw [if_pos q, getD_eq e, ek]
      · rename_i q; rw [if_neg q]
        split at e
        · rename_i q2; rw [if_pos q2]; exact getD_eq e
        · rename_i q2; rw [if_neg q2]; exact getD_eq e
    refine bin_st f (k + 1) ⟨by rw [bubble_size]; exact hsz, by lia, fun i h4 h5 => ?_, fun i h4 => ?_⟩ (fun a b hab hb => ?_) (by lia)
    · rw [at_, if_neg (by lia), if_neg (by lia)]; exact h.tl i (by lia) h5
    · rw [at_]
      split
      · lia
      · split
        · have := h.pf (i - 1) (by lia); lia
        · have := h.pf i (by lia); lia
    · rw [at_ a, at_ b]
      by_cases z1 : a = l
      · rw [if_pos z1, if_neg (by lia), if_pos (by lia)]
        exact .inl (h3 _ (by lia) (by lia))
      · rw [if_neg z1]
        by_cases z2 : b = l
        · rw [if_pos z2, if_neg (by lia)]
          have := h2 a (by lia)
          have := h.pf a (by lia)
          unfold Bf; lia
        · rw [if_neg z2]
          split
          · rw [if_pos (by lia)]; exact ha _ _ (by lia) (by lia)
          · split
            · by_cases z3 : a = b - 1
              · lia
              · exact ha _ _ (by lia) (by lia)
            · exact ha _ _ (by lia) (by lia)
theorem Hold.and {c : Nat → Nat → Bool} {α : Type} {R S : α → Prop} : ∀ {t : KasT α}, Hold n c t R → Hold n c t S → Hold n c t fun a => R a ∧ S a
  | .ret a, x, y => ⟨x, y⟩
  | .ask i j k, ⟨x1, x2, x3⟩, ⟨_, _, y3⟩ => ⟨x1, x2, Hold.and x3 y3⟩
theorem sort_st (hn : 2 ≤ n) : Hold n (kc key) (kas_sort n) fun p => Ok n p ∧ Asc key p n := by
  refine Hold.and (sort_ok (by lia)) ?_
  have h0 : Pl n (List.toArray (List.range n)) 1 := ⟨by simp, by lia, fun i h1 h2 => by simp [Array.getD, h2], fun i hi => by
    obtain rfl : i = 0 := by lia
    simp [Array.getD]⟩
  refine Hold.bind (Hold.mono (fun r hr => ?_) (count_st hn h0))
  obtain ⟨h1, h2, h3⟩ := hr
  have := h1.le
  show Hold n (kc key) (if r.1 < n then _ else _) _
  rw [show max r.1 1 = r.1 by lia]
  split
  · exact bin_st _ _ h1 h2 (by lia)
  · rename_i q
    show Asc key r.2 n
    rw [show n = r.1 by lia]; exact h2
end
end Mine
end

section
set_option Elab.async false
set_option linter.unusedVariables false
set_option linter.unusedSimpArgs false
set_option maxRecDepth 100000
namespace Mine
open PySem PySem.W PyProof.Rows PySem.Calls
noncomputable abbrev tbD (t : Tb × Tb) : D := .tup [.list (zss t.1), .list (zss t.2)]
noncomputable abbrev unD (s : (Tb × Tb) × List Int) : D := .tup [.list (zss s.1.1), .list (zss s.1.2), .list (zs s.2)]
structure Fns3 (G : Gx) (n : Nat) (fr fi fu fc fl fm : Addr) : Prop where
  r1 : G.mg "reduce" = some (.ref fr)
  i1 : G.mg "_law_insert" = some (.ref fi)
  u1 : G.mg "_law_undo" = some (.ref fu)
  c1 : G.mg "_law_columns" = some (.ref fc)
  l1 : G.mg "_law_lists" = some (.ref fl)
  m1 : G.mg "_c3_merge" = some (.ref fm)
  r : ∀ w : List Int, w.length ≤ 60 → CallSem G n PT fr [] [.ref fi, .list (zs w), tbD ([], [])] (Pure (tbD (rskW w)))
  u : ∀ s steps, UndoRun s steps → CallSem G n PT fr [] [.ref fu, .list (zs steps), unD s] (Pure (unD (undoW s steps)))
  c : ∀ t : Tb, t.length ≤ 60 → (∀ r ∈ t, r.length ≤ 60) → t ≠ [] → CallSem G n PT fc [] [.list (zss t)] (Pure (.list (zss (colsI t))))
  l : ∀ t : Tb, TabOk t → CallSem G n PT fl [] [.list (zss t)] (fun d mu => ∃ prs, rowsOf prs = listsI t ∧ d = .list (refs prs) ∧ mu = ent prs)
  m : ∀ prs : Prs, prs.length ≤ 1000 → (∀ p ∈ prs, p.2.length ≤ 1000) → (∀ r ∈ (mrg (rowsOf prs)).2, r = []) → (mrg (rowsOf prs)).1.length ≤ 1000 → CallSem G n PT fm (ent prs) [.list (refs prs)] (fun d mu => d = .list (zs (mrg (rowsOf prs)).1) ∧ mu = ent (prs.map fun p => (p.1, [])))
section
variable {C : Cx} {σ : St}
theorem evIns {n : Nat} {fr fi fu fc fl fm : Addr} {e : Expr} {w : List Int} {k : Nat} {p1 p2 p3 p4 p5 p6 : Pos} (FN : Fns3 C.G n fr fi fu fc fl fm) (hn : n ≤ C.rm) (hk1 : C.env.kindOf "reduce" = some .globalImplicit) (hk2 : C.env.kindOf "_law_insert" = some .globalImplicit) (he : Ev C σ e (.list (zs w))) (hw : w.length ≤ 60)
    (hs : starEach [e, .Tuple [.List [] p3, .List [] p4] k p5] C.env = (false, eval e C.env) :: starEach [.Tuple [.List [] p3, .List [] p4] k p5] C.env := by rfl) :
    Ev C σ (.Call (.Name "reduce" p1) [.Name "_law_insert" p2, e, .Tuple [.List [] p3, .List [] p4] k p5] [] p6) (tbD (rskW w)) :=
  Ev.call (Ev.glob hk1 FN.r1) (EvL.cons (Ev.glob hk2 FN.i1) (EvL.cons he (EvL.cons (Ev.tuple (EvL.cons (Ev.of_new (EvN.list EvL.nil (by simp))) (EvL.cons (Ev.of_new (EvN.list EvL.nil (by simp))) EvL.nil)) (by simp)) EvL.nil) hs)) (FN.r w hw) hn (fun _ _ _ _ => trivial)
theorem evInsX {n : Nat} {fr fi fu fc fl fm : Addr} {e : Expr} {w : List Int} {k : Nat} {mu : Mu} {p1 p2 p3 p4 p5 p6 : Pos} (FN : Fns3 C.G n fr fi fu fc fl fm) (hn : n ≤ C.rm) (hk1 : C.env.kindOf "reduce" = some .globalImplicit) (hk2 : C.env.kindOf "_law_insert" = some .globalImplicit) (he : EvD C σ e (.list (zs w)) mu) (hw : w.length ≤ 60)
    (hs : starEach [e, .Tuple [.List [] p3, .List [] p4] k p5] C.env = (false, eval e C.env) :: starEach [.Tuple [.List [] p3, .List [] p4] k p5] C.env := by rfl) :
    EvD C σ (.Call (.Name "reduce" p1) [.Name "_law_insert" p2, e, .Tuple [.List [] p3, .List [] p4] k p5] [] p6) (tbD (rskW w)) mu :=
  EvX.callX (Ev.glob hk1 FN.r1) (EvLX.cons (EvX.mono (EvX.of (Ev.glob hk2 FN.i1)) fun d mu h => h) (EvLX.cons he (EvLX.of (EvL.cons (Ev.tuple (EvL.cons (Ev.of_new (EvN.list EvL.nil (by simp))) (EvL.cons (Ev.of_new (EvN.list EvL.nil (by simp))) EvL.nil)) (by simp)) EvL.nil)) hs)) (FN.r w hw) hn PT.mon (fun _ _ _ _ _ => trivial)
theorem evUndo {n : Nat} {fr fi fu fc fl fm : Addr} {e ea eb : Expr} {steps : List Int} {ta tb : Tb} {k : Nat} {p1 p2 p3 p5 p6 : Pos} (FN : Fns3 C.G n fr fi fu fc fl fm) (hn : n ≤ C.rm) (hk1 : C.env.kindOf "reduce" = some .globalImplicit) (hk2 : C.env.kindOf "_law_undo" = some .globalImplicit) (he : Ev C σ e (.list (zs steps))) (ha : Ev C σ ea (.list (zss ta))) (hb : Ev C σ eb (.list (zss tb))) (hu : UndoRun ((ta, tb), []) steps)
    (hs : starEach [e, .Tuple [ea, eb, .List [] p3] k p5] C.env = (false, eval e C.env) :: starEach [.Tuple [ea, eb, .List [] p3] k p5] C.env := by rfl)
    (hs2 : starEach [ea, eb, .List [] p3] C.env = (false, eval ea C.env) :: starEach [eb, .List [] p3] C.env := by rfl) (hs3 : starEach [eb, .List [] p3] C.env = (false, eval eb C.env) :: starEach [.List [] p3] C.env := by rfl) :
    Ev C σ (.Call (.Name "reduce" p1) [.Name "_law_undo" p2, e, .Tuple [ea, eb, .List [] p3] k p5] [] p6) (unD (undoW ((ta, tb), []) steps)) :=
  Ev.call (Ev.glob hk1 FN.r1) (EvL.cons (Ev.glob hk2 FN.u1) (EvL.cons he (EvL.cons (Ev.tuple (EvL.cons ha (EvL.cons hb (EvL.cons (Ev.of_new (EvN.list EvL.nil (by simp))) EvL.nil) hs3) hs2) (by simp)) EvL.nil) hs)) (FN.u _ _ hu) hn (fun _ _ _ _ => trivial)
theorem evMrg {n : Nat} {fr fi fu fc fl fm : Addr} {prs : Prs} {oth : Mu} {e : Expr} {p1 p2 : Pos} (FN : Fns3 C.G n fr fi fu fc fl fm) (hn : n ≤ C.rm) (hk : C.env.kindOf "_c3_merge" = some .globalImplicit) (he : Ev C σ e (.list (refs prs))) (hσ : σ.mu.Perm (ent prs ++ oth)) (hz1 : prs.length ≤ 1000) (hz2 : ∀ p ∈ prs, p.2.length ≤ 1000) (h1 : ∀ r ∈ (mrg (rowsOf prs)).2, r = []) (h2 : (mrg (rowsOf prs)).1.length ≤ 1000)
    (hs : starEach [e] C.env = (false, eval e C.env) :: starEach [] C.env := by rfl) :
    EvD C σ (.Call (.Name "_c3_merge" p1) [e] [] p2) (.list (zs (mrg (rowsOf prs)).1)) (ent (prs.map fun p => (p.1, [])) ++ oth) :=
  EvX.mono (EvX.callS (Ev.glob hk FN.m1) (EvL.cons he EvL.nil hs) hσ (FN.m prs hz1 hz2 h1 h2) hn (fun _ _ _ _ => trivial) hs) fun d mu h => by
    obtain ⟨mu', ⟨h1, h2⟩, h3⟩ := h
    exact ⟨h1, by rw [h3, h2]⟩
end
noncomputable def LamT (gl : Addr) (fd : FuncData) (c : Addr) (d : D) (ro : Mu) : Pred := fun K F => (FnF F gl fd ∧ ∃ o v, K c = some o ∧ o.data = .cell (some v) ∧ Rep F v d) ∧ RoL ro K F
theorem LamT.mon {gl : Addr} {fd : FuncData} {c : Addr} {d : D} {ro : Mu} : (LamT gl fd c d ro).Mon := fun K K' F F' ⟨⟨h1, o, v, h2, h3, h4⟩, h5⟩ gK gF => ⟨⟨h1.mono gF, o, v, gK _ _ h2, h3, h4.mono gF⟩, RoL.mon _ _ _ _ h5 gK gF⟩
theorem drawn_lam {G : Gx} {n : Nat} {gl c' cA : Addr} {pm ctv : Value} {qual : Str} {q1 q2 a1 a2 a3 b1 b2 b3 b4 : Pos} {drawn : List Int} {i j : Nat} (hi : i < drawn.length) (hj : j < drawn.length) :
    CallSem G (n + 1) (LamT gl (kla_fn "<lambda>" qual { posonlyargs := [], args := [⟨"p", none, q1⟩, ⟨"q", none, q2⟩], vararg := none, kwonlyargs := [], kw_defaults := [], kwarg := none, defaults := [] }
      (.BinOp (.Subscript (.Name "drawn" a1) (.Name "p" a2) a3) .Sub (.Subscript (.Name "drawn" b1) (.Name "q" b2) b3) b4) { kind := .function, names := [("p", .local), ("q", .local), ("drawn", .free)], isGenerator := false, isCoroutine := false } [("drawn", cA)] pm (.ref c') ctv) cA (.list (zs drawn)) [])
      gl [] [.int i, .int j] (Pure (.int (drawn.getD i 0 - drawn.getD j 0))) := by
  refine call_lam (ns := ["p", "q"]) LamT.mon ⟨rfl, fun vs h => ?_, by decide, rfl, rfl, rfl, rfl, rfl⟩ (fun K F _ h => h.1.1) (show ∀ x ∈ ([("p", .local), ("q", .local), ("drawn", .free)] : List (Str × NameKind)), x.2 ≠ .cell by decide) (show ∀ x ∈ (["p", "q"] : List Str), ([("p", .local), ("q", .local), ("drawn", .free)] : List (Str × NameKind)).lookup x = some .local by decide) [("drawn", .list (zs drawn))] (fun K F h => ?_) (List.pairwise_singleton _ _) [] (fun K F h => h.2) fun A' L' hr => ?_
  · match vs, h with
    | [a, b], _ => rfl
  · obtain ⟨⟨h1, o, v, h2, h3, h4⟩, _⟩ := h
    refine ⟨fun x hx => ?_, fun x d hx => ?_⟩
    · obtain rfl := List.mem_singleton.mp hx
      exact ⟨o, _, h2, h3⟩
    · have := mem_of_lookup hx
      simp only [List.mem_singleton] at this
      cases this
      exact ⟨cA, o, v, rfl, rfl, h2, h3, h4⟩
  · refine EvX.mono (EvX.of (Ev.bin (Ev.idx (d := .list (zs drawn)) (Ev.name rfl) Items.list (Ev.name (d := .int i) rfl) (by lia) (zs_get _ (by rw [Int.toNat_natCast]; exact hi))) (Ev.idx (d := .list (zs drawn)) (Ev.name rfl) Items.list (Ev.name (d := .int j) rfl) (by lia) (zs_get _ (by rw [Int.toNat_natCast]; exact hj))) Op.sub)) ?_
    rintro d mu ⟨rfl, rfl⟩
    exact ⟨by rw [Int.toNat_natCast, Int.toNat_natCast], rfl⟩
theorem turn_lam {G : Gx} {n : Nat} {gl c' cA : Addr} {pm ctv : Value} {qual : Str} {k1 k2 k3 k4 : Nat} {q1 q2 a1 a2 a3 a4 a5 a6 a7 b1 b2 b3 b4 b5 b6 b7 b8 : Pos} {turn : Int} {prs : Prs} {p q : Addr × List Int} (hp : p ∈ prs) (hq : q ∈ prs) (hp2 : p.2 ≠ []) (hq2 : q.2 ≠ []) (ht : 0 ≤ turn ∧ turn < 17) :
    CallSem G (n + 1) (LamT gl (kla_fn "<lambda>" qual { posonlyargs := [], args := [⟨"u", none, q1⟩, ⟨"v", none, q2⟩], vararg := none, kwonlyargs := [], kw_defaults := [], kwarg := none, defaults := [] }
      (.BinOp (.BinOp (.BinOp (.Subscript (.Name "u" a1) (.Constant (.int 0) k1 a2) a3) .Mult (.Name "turn" a4) a5) .Mod (.Constant (.int 17) k2 a6) a7) .Sub (.BinOp (.BinOp (.Subscript (.Name "v" b1) (.Constant (.int 0) k3 b2) b3) .Mult (.Name "turn" b4) b5) .Mod (.Constant (.int 17) k4 b6) b7) b8)
      { kind := .function, names := [("u", .local), ("v", .local), ("turn", .free)], isGenerator := false, isCoroutine := false } [("turn", cA)] pm (.ref c') ctv) cA (.int turn) (ent prs))
      gl [] [.ref p.1, .ref q.1] (Pure (.int ((p.2.headD 0 * turn).fmod 17 - (q.2.headD 0 * turn).fmod 17))) := by
  refine call_lam (ns := ["u", "v"]) LamT.mon ⟨rfl, fun vs h => ?_, by decide, rfl, rfl, rfl, rfl, rfl⟩ (fun K F _ h => h.1.1) (show ∀ x ∈ ([("u", .local), ("v", .local), ("turn", .free)] : List (Str × NameKind)), x.2 ≠ .cell by decide) (show ∀ x ∈ (["u", "v"] : List Str), ([("u", .local), ("v", .local), ("turn", .free)] : List (Str × NameKind)).lookup x = some .local by decide) [("turn", .int turn)] (fun K F h => ?_) (List.pairwise_singleton _ _) (ent prs) (fun K F h => h.2) fun A' L' hr => ?_
  · match vs, h with
    | [a, b], _ => rfl
  · obtain ⟨⟨h1, o, v, h2, h3, h4⟩, _⟩ := h
    refine ⟨fun x hx => ?_, fun x d hx => ?_⟩
    · obtain rfl := List.mem_singleton.mp hx
      exact ⟨o, _, h2, h3⟩
    · have := mem_of_lookup hx
      simp only [List.mem_singleton] at this
      cases this
      exact ⟨cA, o, v, rfl, rfl, h2, h3, h4⟩
  · have hm : ∀ x : Int, IntMulOk x turn := fun x => PySem.IntMulOk.of_right (PySem.intBits_le_64 (by lia) (by lia))
    refine EvX.mono (EvX.of (Ev.bin (Ev.bin (Ev.bin (Ev.idx (d := .ref p.1) (Ev.name rfl) (Items.ro (ent_mem hp)) Ev.int (by decide) (head_get hp2)) (Ev.name (d := .int turn) rfl) (Op.mul (hm _))) Ev.int (Op.mod (by decide))) (Ev.bin (Ev.bin (Ev.idx (d := .ref q.1) (Ev.name rfl) (Items.ro (ent_mem hq)) Ev.int (by decide) (head_get hq2)) (Ev.name (d := .int turn) rfl) (Op.mul (hm _))) Ev.int (Op.mod (by decide))) Op.sub)) ?_
    rintro d mu ⟨rfl, rfl⟩
    exact ⟨rfl, rfl⟩
end Mine
end

section
set_option Elab.async false
set_option linter.unusedVariables false
set_option linter.unusedSimpArgs false
set_option maxRecDepth 100000
namespace Mine
open PySem PySem.W PyProof.Rows PySem.Calls
theorem pw2 {x y : Str} {a b : Addr} (h : x ≠ y) : [(x, a), (y, b)].Pairwise fun x y => x.1 ≠ y.1 := List.Pairwise.cons (fun y hy => by obtain rfl := List.mem_singleton.mp hy; exact h) (List.pairwise_singleton _ _)
noncomputable def permP (prs : Prs) (p : Array Nat) : Prs := p.toList.map fun i => prs.getD i (0, [])
theorem permL_refs {prs : Prs} {p : Array Nat} (hp : Ok prs.length p) : permL (refs prs) p = refs (permP prs p) := by
  unfold permL permP refs
  rw [List.map_map]
  refine List.map_congr_left fun i hi => ?_
  have : i < prs.length := by
    have := (hp.mem_iff (a := i)).mp (Array.mem_toList_iff.mp hi)
    simpa using this
  simp [this]
theorem permP_perm {prs : Prs} {p : Array Nat} (hp : Ok prs.length p) : (permP prs p).Perm prs := by
  have h1 : p.toList.Perm (List.range prs.length) := by
    have := Array.perm_iff_toList_perm.mp hp
    simpa using this
  refine (h1.map _).trans ?_
  refine List.Perm.of_eq (List.ext_getElem (by simp) fun i h1 h2 => ?_)
  simp at h1 ⊢
  simp [h1]
noncomputable def drawnI (script : List Int) : List Int := ((script.take 7).map fun x => x.fmod 7) ++ [script.sum.fmod 7]
noncomputable def keyI (drawn : List Int) (i : Nat) : Int := drawn.getD i 0
noncomputable def ordI (p : Array Nat) : List Int := p.toList.map fun i : Nat => (i : Int)
section
variable {G : Gx} {f : Addr} {name qual : Str} {dV kV doc pm cdv ct : Value} {an : Option Addr}
noncomputable abbrev l3Cx (G : Gx) (A : Around) (name qual : Str) (doc pm cdv ct : Value) (an : Option Addr) (f L : Addr) (n : Nat) (P : Pred) : Cx := fnCxC G A (fdN 10 name qual .none .none doc pm an cdv ct) f L n P
noncomputable abbrev tq (qual : Str) : MO := TabQ fun _ => qual ++ ".<locals>." ++ "<lambda>"
noncomputable abbrev tabs3 (qual : Str) (P1 PL c P : Addr) : Mu := [(P1, TabP (some (c, P))), (PL, tq qual), (P, TabQ qf)]
theorem law3_head {A : Around} {L : Addr} {n' : Nat} {fa c1 P1 cL PL : Addr} {script : List Int} {ms : Str → Option Value} {docK pmK ctK : Value} {anK : Option Addr} {Φ : Out → St → Prop} (B : Bt G) (hlen : script.length ≤ 63) (hn4 : 4 ≤ n') (hgens : G.s0.gens = #[])
    (H : KPre G.hb G.mg G.mb ms fa c1 P1 docK pmK (.ref c1) ctK anK) (hk : G.mg "cmp_to_key" = some (.ref fa)) (hL : cdv = .ref cL) (hLd : CodeHd G.hb cL PL) (hA1 : A.depth ≤ 600) (hA2 : A.units ≤ 3000)
    (h : ∀ c P p, Ok (drawnI script).length p → Asc (keyI (drawnI script)) p (drawnI script).length →
      WP (l3Cx G A name qual doc pm cdv ct an f L n' PT) { vars := [("total", .int script.sum), ("drawn", .list (zs (drawnI script))), ("size", .int (drawnI script).length), ("order", .list (zs (ordI p))), ("ranks", .list (zs (ranksI (drawnI script))))], mu := tabs3 qual P1 PL c P } ((bo 10).drop 5) Φ) :
    WP (l3Cx G A name qual doc pm cdv ct an f L n' PT) { vars := [("script", .list (zs script))], mu := [(PL, tq qual), (P1, TabP none)] } (bo 10) Φ := by
  have hm7 : (script.take 7).length ≤ 7 := by simp; lia
  refine WP.set (d := .int script.sum) (.inl rfl) (Ev.of_just (EvX.call1 (.inl ⟨_, rfl⟩) ⟨rfl, B.sum.1, B.sum.2, rfl⟩ (Ev.name (d := .list (zs script)) rfl) (C1.sum Items.list))) ?_
  refine WP.set (x := "drawn") (d := .list (zs (drawnI script))) (.inr ⟨rfl, L + 3, rfl, by show L + 3 ∈ [L, L + 4, L + 3, L + 2, L + 1]; simp⟩) (Ev.of_new (EvN.cast (EvX.bin (Ev.of_new (EvC.ev (EvC.plain (scope := _) (script.take 7) D.int (fun _ => true) (fun x => .int (x.fmod 7)) (compOk0 rfl rfl (by decide) (by decide)) (.inl rfl)
    (Ev.of_new (EvN.cast (EvN.upto (n := 7) (Ev.name (d := .list (zs script)) rfl) Items.list Ev.int) (zs_take _ _))) ItD.list (by lia) fun L' x hx => ⟨rfl, fun _ => Ev.bin (Ev.name rfl) Ev.int (Op.mod (by decide))⟩)))
    (Ev.of_new (EvN.list (EvL.cons (Ev.bin (Ev.name (d := .int script.sum) rfl) Ev.int (Op.mod (by decide))) EvL.nil) (by simp))) (OpN.concat Items.list Items.list ?_)) ?_)) ?_
  · rw [filter_tr]; simp; lia
  · rw [filter_tr, drawnI, ← zs_append, zs, zs, List.map_map]; rfl
  have hdl : (drawnI script).length ≤ 8 := by simp [drawnI]; lia
  generalize drawnI script = drawn at *
  refine WP.set (x := "size") (d := .int drawn.length) (.inr ⟨rfl, L + 1, rfl, by show L + 1 ∈ [L, L + 4, L + 3, L + 2, L + 1]; simp⟩) (Ev.len (x := "len") ⟨rfl, B.len.1, B.len.2, rfl⟩ (Ev.name (d := .list (zs drawn)) rfl) Items.list (k := drawn.length) (by rw [zs_length])) ?_
  have hzl : (zs (nats drawn.length)).length = drawn.length := by simp [zs, nats]
  refine WP.setX (.inl rfl) (EvX.keyedG (J := Unit) (oP := none) (PL := PL) (P1 := P1) (R := fun _ p => Ok drawn.length p ∧ Asc (keyI drawn) p drawn.length) (ds := fun _ => zs (nats drawn.length)) (ans := fun _ i j => drawn.getD i 0 - drawn.getD j 0) (rest := fun _ => []) (n := 0 + 1) rfl B.sorted.1 B.sorted.2 rfl hk ?_ (fun _ => by rw [hzl]; lia) hgens H hL hLd rfl rfl (by show 0 + 1 + 3 ≤ n'; lia) (by show A.depth + 1 ≤ 700; lia) (by show A.units + 3 ≤ 4000; lia) ?_ (fun _ h2 => ?_) (fun _ h2 => ?_) (fun _ p h => by rw [hzl]; simpa using h.1.size_eq)) ?_
  · refine EvX.mono (EvX.of (Ev.of_new (EvN.cast (EvX.call1 (.inr ⟨_, rfl⟩) ⟨rfl, B.list.1, B.list.2, rfl⟩ (Ev.range ⟨rfl, B.range.1, B.range.2, rfl⟩ (Ev.name (d := .int drawn.length) rfl)) (C1.listRange (by lia) (by lia))) (rints_nats _)))) ?_
    rintro d mu ⟨rfl, rfl⟩
    exact ⟨(), rfl, List.Perm.refl _⟩
  · intro _ mu gl c' ctv
    refine ⟨LamT gl _ (L + 3) (.list (zs drawn)) [], LamT.mon, fun K F s X hF => ⟨⟨hF, ?_⟩, fun p hp => nomatch hp⟩, fun i j d1 d2 h1 h2 => ?_⟩
    · obtain ⟨m0, hn0, hm0⟩ := X.loc
      obtain ⟨v, hv, hr⟩ := hm0 "drawn" _ rfl
      have hv' : ∃ c, (l3Cx G A name qual doc pm cdv ct an f L n' PT).env.cells.lookup ("drawn" : Str) = some c ∧ s.heap.IsCell c (some v) := hv
      obtain ⟨c, q1, o, q2, q3⟩ := hv'
      obtain rfl : L + 3 = c := Option.some.inj q1
      exact ⟨o, v, full_of (X.priv (L + 3) (by show L + 3 ∈ [L, L + 4, L + 3, L + 2, L + 1]; simp)).1 List.not_mem_nil q2, q3, hr⟩
    · have hd : ∀ {i : Nat} {d : D}, (zs (nats drawn.length))[i]? = some d → i < drawn.length ∧ d = .int i := fun {i d} h => by
        have hi := (List.getElem?_eq_some_iff.mp h).1
        rw [hzl] at hi
        refine ⟨hi, ?_⟩
        simp [zs, nats, hi] at h
        exact h.symm
      obtain ⟨hi, rfl⟩ := hd h1
      obtain ⟨hj, rfl⟩ := hd h2
      exact drawn_lam hi hj
  · rw [hzl] at h2 ⊢
    have e : (fun i j => decide (drawn.getD i 0 - drawn.getD j 0 < 0)) = kc (keyI drawn) := by
      funext i j
      exact decide_eq_decide.mpr (by unfold keyI; lia)
    rw [e]
    exact sort_st h2
  · rw [hzl] at h2 ⊢
    exact ⟨Array.Perm.refl _, fun a b h3 h4 => by lia⟩
  rintro d mu ⟨_, c, P, Da, p, hp, rfl, rfl⟩
  have hpl : permL (zs (nats drawn.length)) p = zs (ordI p) := by
    unfold permL ordI zs
    rw [List.map_map]
    refine List.map_congr_left fun i hi => ?_
    have : i < drawn.length := by
      have := (hp.1.mem_iff (a := i)).mp (Array.mem_toList_iff.mp hi)
      simpa using this
    simp [nats, this]
  rw [hpl]
  refine WP.frz [("total", .int script.sum), ("drawn", .list (zs drawn)), ("size", .int drawn.length), ("order", .list (zs (ordI p)))] (a := Da) (ds := zs (ordI p)) (mu := tabs3 qual P1 PL c P) rfl ?_ ?_
  · intro q hq
    simp only [List.mem_cons, List.not_mem_nil, or_false] at hq
    rcases hq with rfl | rfl | rfl | rfl
    · exact .inl rfl
    · exact .inl rfl
    · exact .inl rfl
    · exact .inr ⟨rfl, rfl⟩
  refine WP.setC rfl (EvC.plain (scope := _) (nats drawn.length) D.int (fun _ => true) (fun p => .int ((rankI drawn p).length : Int)) (compOkD rfl rfl (by decide) (fun x hx => by simp only [List.mem_cons, List.not_mem_nil, or_false] at hx; rcases hx with rfl | rfl <;> rfl) (pw2 (by decide)) (by decide)) (.inr rfl) (Ev.range ⟨rfl, B.range.1, B.range.2, rfl⟩ (Ev.name (d := .int drawn.length) rfl)) (by rw [show (nats drawn.length).map D.int = rints 0 drawn.length from (rints_nats _).symm]; exact ItD.rng (by lia)) (by simp [nats]; lia) fun L' p hp => ⟨rfl, fun _ => ?_⟩) ?_
  · obtain ⟨ip, hip, rfl⟩ := List.mem_map.mp hp
    have hip := List.mem_range.mp hip
    refine Ev.len (x := "len") ⟨rfl, B.len.1, B.len.2, rfl⟩ (Ev.of_new (EvC.ev (EvC.plain (scope := _) (nats drawn.length) D.int (fun q => decide (drawn.getD q.toNat 0 < drawn.getD ((ip : Int)).toNat 0) || (drawn.getD q.toNat 0 == drawn.getD ((ip : Int)).toNat 0 && decide (q < (ip : Int)))) D.int (compOkF rfl rfl (by decide) (fun x hx => by simp only [List.mem_cons, List.not_mem_nil, or_false] at hx; rcases hx with rfl | rfl <;> rfl) (pw2 (by decide)) (by decide)) (.inl rfl)
      (Ev.range ⟨rfl, B.range.1, B.range.2, rfl⟩ (Ev.name (d := .int drawn.length) rfl)) (by rw [show (nats drawn.length).map D.int = rints 0 drawn.length from (rints_nats _).symm]; exact ItD.rng (by lia)) (by simp [nats]; lia) fun L2 q hq => ⟨?_, fun _ => Ev.name rfl⟩))) Items.list (by rw [List.length_map]; rfl)
    obtain ⟨iq, hiq, rfl⟩ := List.mem_map.mp hq
    have hiq := List.mem_range.mp hiq
    exact EvT.or (EvT.cmp (Ev.idx (d := .list (zs drawn)) (Ev.name rfl) Items.list (Ev.name (d := .int iq) rfl) (by lia) (zs_getL _ hiq)) (Ev.idx (d := .list (zs drawn)) (Ev.name rfl) Items.list (Ev.name (d := .int ip) rfl) (by lia) (zs_getL _ hip)) Cm.lt) fun _ => EvT.and (EvT.cmp (Ev.idx (d := .list (zs drawn)) (Ev.name rfl) Items.list (Ev.name (d := .int iq) rfl) (by lia) (zs_getL _ hiq)) (Ev.idx (d := .list (zs drawn)) (Ev.name rfl) Items.list (Ev.name (d := .int ip) rfl) (by lia) (zs_getL _ hip)) Cm.eq) fun _ => EvT.cmp (Ev.name (d := .int iq) rfl) (Ev.name (d := .int ip) rfl) Cm.lt
  rintro d mu ⟨ra, rfl, rfl⟩
  rw [filter_tr]
  refine WP.frz [("total", .int script.sum), ("drawn", .list (zs drawn)), ("size", .int drawn.length), ("order", .list (zs (ordI p))), ("ranks", .list (zs (ranksI drawn)))] (a := ra) (ds := zs (ranksI drawn)) (mu := tabs3 qual P1 PL c P) (by show (ra, MO.list _) :: tabs3 qual P1 PL c P = _; rw [ranksI, zs, List.map_map]; rfl) ?_ ?_
  · intro q hq
    simp only [List.mem_cons, List.not_mem_nil, or_false] at hq
    rcases hq with rfl | rfl | rfl | rfl | rfl
    · exact .inl rfl
    · exact .inl rfl
    · exact .inl rfl
    · exact .inl rfl
    · exact .inr ⟨rfl, rfl⟩
  exact h c P p hp.1 hp.2
end
end Mine
end

section
set_option Elab.async false
set_option linter.unusedVariables false
set_option linter.unusedSimpArgs false
set_option maxRecDepth 100000
namespace Mine
open PySem PySem.W PyProof.Rows PySem.Calls
theorem vsT {C : Cx} {σ : St} {t : Tb} : Vs (encList (encList encInt)) C σ (.list (zss t)) t := Vs.zss
theorem vsP {C : Cx} {σ : St} {t : Tb × Tb} : Vs (encPair (encList (encList encInt)) (encList (encList encInt))) C σ (tbD t) t := Vs.tup vsT vsT
noncomputable abbrev more3 (r1 r2 : Tb) (rk : List Int) (sz : Int) : List (Str × D) := [("rows", .list (zss r1)), ("marks", .list (zss r2)), ("ranks", .list (zs rk)), ("size", .int sz)]
noncomputable def forBody (s : Stmt) : List Stmt := match s with | .For _ _ b _ _ => b | _ => []
noncomputable def loop3 : List Stmt := forBody (((bo 10)[9]?).getD (.Pass ⟨0, 0, 0, 0⟩))
section
variable {G : Gx} {f : Addr} {name qual : Str} {dV kV doc pm cdv ct : Value} {an : Option Addr}
theorem law3_turn {A : Around} {L : Addr} {n n' : Nat} {fr fi fu fc fl fm fa c1 P1 cL PL : Addr} {ms : Str → Option Value} {docK pmK ctK : Value} {anK : Option Addr} {Φ : Out → St → Prop} {t : Tb} {turn sz : Int} {c P : Addr} {σ : St} {r1 r2 : Tb} {rk : List Int} (B : Bt G) (FN : Fns3 G n fr fi fu fc fl fm) (hn : n ≤ n') (hn4 : 4 ≤ n') (hgens : G.s0.gens = #[])
    (H : KPre G.hb G.mg G.mb ms fa c1 P1 docK pmK (.ref c1) ctK anK) (hk : G.mg "cmp_to_key" = some (.ref fa)) (hL : cdv = .ref cL) (hLd : CodeHd G.hb cL PL) (hA1 : A.depth ≤ 600) (hA2 : A.units ≤ 3000) (T : TabOk t) (ht : 0 ≤ turn ∧ turn < 17)
    (more : List (Str × D)) (hmore : more = more3 r1 r2 rk sz) (hm : σ.mu = tabs3 qual P1 PL c P) (v1 : σ.v "table" = some (.list (zss t))) (v2 : σ.v "turn" = some (.int turn)) (v3 : ∀ q ∈ more, σ.v q.1 = some q.2)
    (h : ∀ c' P' σ', σ'.mu = tabs3 qual P1 PL c' P' → (∀ q ∈ more, σ'.v q.1 = some q.2) → σ'.v "turn" = some (.int turn) → Φ .next σ') :
    WP (l3Cx G A name qual doc pm cdv ct an f L n' PT) σ loop3 Φ := by
  subst hmore
  refine WP.keep [("table", .list (zss t)), ("turn", .int turn), ("rows", .list (zss r1)), ("marks", .list (zss r2)), ("ranks", .list (zs rk)), ("size", .int sz)] ?_ ?_
  · intro q hq
    rcases List.mem_cons.mp hq with rfl | hq
    · exact v1
    · rcases List.mem_cons.mp hq with rfl | hq
      · exact v2
      · exact v3 q hq
  rw [hm]
  refine WP.setX (x := "lists") (.inl rfl) (EvX.keyedG (J := {prs : Prs // rowsOf prs = listsI t}) (oP := some (c, P)) (PL := PL) (P1 := P1) (R := fun j p => Ok j.1.length p) (ds := fun j => refs j.1) (ans := fun j i k => ((j.1.getD i (0, [])).2.headD 0 * turn).fmod 17 - ((j.1.getD k (0, [])).2.headD 0 * turn).fmod 17) (rest := fun j => ent j.1) (n := 0 + 1) rfl B.sorted.1 B.sorted.2 rfl hk ?_ (fun j => ?_) hgens H hL hLd rfl rfl (by show 0 + 1 + 3 ≤ n'; lia) (by show A.depth + 1 ≤ 700; lia) (by show A.units + 3 ≤ 4000; lia) ?_ (fun j h2 => ?_) (fun j h2 => ?_) (fun j p h => ?_)) ?_
  · refine EvX.mono (EvX.callP (Ev.glob rfl FN.l1) (EvL.cons (Ev.name (d := .list (zss t)) rfl) EvL.nil) (FN.l t T) hn (fun _ _ _ _ => trivial)) ?_
    rintro d mu ⟨mu', ⟨prs, h1, rfl, rfl⟩, rfl⟩
    refine ⟨⟨prs, h1⟩, rfl, ?_⟩
    refine List.perm_append_comm.trans ?_
    exact List.Perm.swap _ _ _
  · have h1 := T.z1
    have h2 := T.z3
    have h3 : (listsI t).length = t.length + (colsI t).length := by simp [listsI]
    rw [refs_len, ← rows_len, j.2, h3]
    lia
  · intro j mu gl c' ctv
    obtain ⟨prs, hprs⟩ := j
    refine ⟨LamT gl _ (L + 4) (.int turn) (ent prs), LamT.mon, fun K F s X hF => ⟨⟨hF, ?_⟩, fun p hp => ?_⟩, fun i k d1 d2 h1 h2 => ?_⟩
    · obtain ⟨m0, hn0, hm0⟩ := X.loc
      obtain ⟨v, hv, hr⟩ := hm0 "turn" _ rfl
      have hv' : ∃ c, (l3Cx G A name qual doc pm cdv ct an f L n' PT).env.cells.lookup ("turn" : Str) = some c ∧ s.heap.IsCell c (some v) := hv
      obtain ⟨c, q1, o, q2, q3⟩ := hv'
      obtain rfl : L + 4 = c := Option.some.inj q1
      exact ⟨o, v, full_of (X.priv (L + 4) (by show L + 4 ∈ [L, L + 4, L + 3, L + 2, L + 1]; simp)).1 List.not_mem_nil q2, q3, hr⟩
    · obtain ⟨h1, h2, h3⟩ := X.am.mus p (List.mem_append_right _ hp)
      obtain ⟨q, hq, rfl⟩ := List.mem_map.mp hp
      obtain ⟨o, vs, h4, h5, h6⟩ := h1
      exact ⟨o, _, vs, rfl, full_of h2 List.not_mem_nil h4, h5, h6⟩
    · obtain ⟨p, hp, rfl⟩ := refs_get h1
      obtain ⟨q, hq, rfl⟩ := refs_get h2
      have e1 : prs.getD i (0, []) = p := by rw [List.getD_eq_getElem?_getD, hp]; rfl
      have e2 : prs.getD k (0, []) = q := by rw [List.getD_eq_getElem?_getD, hq]; rfl
      have hp := List.mem_of_getElem? hp
      have hq := List.mem_of_getElem? hq
      dsimp only
      rw [e1, e2]
      exact turn_lam hp hq (T.ln _ (by rw [← hprs]; exact List.mem_map_of_mem hp)).1 (T.ln _ (by rw [← hprs]; exact List.mem_map_of_mem hq)).1 ht
  · rw [refs_len] at h2 ⊢
    exact sort_ok (by lia)
  · rw [refs_len] at h2 ⊢
    exact Array.Perm.refl _
  · rw [refs_len]; simpa using h.size_eq
  rintro d mu ⟨⟨prs, hprs⟩, c', P', Da, p, hp, rfl, rfl⟩
  dsimp only at hp ⊢
  rw [permL_refs hp]
  have hpp := permP_perm hp
  generalize permP prs p = qrs at *
  have hlen : qrs.length = (listsI t).length := by rw [hpp.length_eq, ← rows_len, hprs]
  have hls : (rowsOf qrs).Perm (listsI t) := hprs ▸ hpp.map _
  obtain ⟨g1, g2, g3⟩ := T.mg _ hls
  have hent : (ent prs).Perm (ent qrs) := (hpp.map _).symm
  refine WP.frz [("lists", .list (refs qrs)), ("table", .list (zss t)), ("turn", .int turn), ("rows", .list (zss r1)), ("marks", .list (zss r2)), ("ranks", .list (zs rk)), ("size", .int sz)] (a := Da) (ds := refs qrs) (mu := tabs3 qual P1 PL c' P' ++ ent prs) rfl ?_ ?_
  · intro q hq
    rcases List.mem_cons.mp hq with rfl | hq
    · exact .inr ⟨rfl, rfl⟩
    · refine .inl ?_
      simp only [List.mem_cons, List.not_mem_nil, or_false] at hq
      rcases hq with rfl | rfl | rfl | rfl | rfl | rfl <;> rfl
  have hL : (listsI t).length = t.length + (colsI t).length := by simp [listsI]
  have h1 := T.z1
  have h2 := T.z3
  refine WP.ifsX (b := false) (mu := ent (qrs.map fun p => (p.1, [])) ++ tabs3 qual P1 PL c' P') (EvTX.cast (EvTX.cmp (EvD.tupIdx (ds := [.list (zss (rskW (mrg (rowsOf qrs)).1).1), .list (zss (rskW (mrg (rowsOf qrs)).1).2)]) (evInsX FN hn rfl rfl (evMrg FN hn rfl (Ev.name (d := .list (refs qrs)) rfl) (List.perm_append_comm.trans (hent.append_right _)) (by lia) (fun q hq => ?_) g1 (by lia)) g2) Ev.int (by lia) rfl) (Ev.name (d := .list (zss t)) rfl) (Cm.neD vsT vsT (by decide))) ?_) (fun h => nomatch h) fun _ => WP.nil ?_
  · have := T.ln q.2 (hls.mem_iff.mp (List.mem_map_of_mem hq))
    lia
  · rw [g3]; simp
  refine WP.drop (mu' := tabs3 qual P1 PL c' P') (List.sublist_append_right _ _) (WP.nil (h c' P' _ rfl (fun q hq => ?_) rfl))
  simp only [List.mem_cons, List.not_mem_nil, or_false] at hq
  rcases hq with rfl | rfl | rfl | rfl <;> rfl
end
end Mine
end

section
set_option Elab.async false
set_option linter.unusedVariables false
set_option linter.unusedSimpArgs false
set_option maxRecDepth 100000
namespace Mine
open PySem PySem.W PyProof.Rows PySem.Calls
theorem flat_sum (t : Tb) : (t.map List.length).sum = t.flatten.length := by simp
section
variable {G : Gx} {f : Addr} {name qual : Str} {dV kV doc pm cdv ct : Value} {an : Option Addr}
theorem law3_end {A : Around} {L : Addr} {n n' : Nat} {fr fi fu fc fl fm : Addr} {drawn order : List Int} {PL P1 c P : Addr} {σ : St} (B : Bt G) (FN : Fns3 G n fr fi fu fc fl fm) (hn : n ≤ n') (LW : Law3 drawn order) (hdl : drawn.length ≤ 8)
    (hm : σ.mu = tabs3 qual P1 PL c P) (v1 : σ.v "rows" = some (.list (zss (rskW (ranksI drawn)).1))) (v2 : σ.v "marks" = some (.list (zss (rskW (ranksI drawn)).2))) (v3 : σ.v "ranks" = some (.list (zs (ranksI drawn)))) (v4 : σ.v "size" = some (.int drawn.length)) :
    WP (l3Cx G A name qual doc pm cdv ct an f L n' PT) σ ((bo 10).drop 10) (Fin fun d mu => d = .bool true ∧ ∃ c P, mu = tabs3 qual P1 PL c P) := by
  obtain ⟨e1, e2, t1, t2, u1, u2, u3, w1, w2, x1, x2⟩ := LW
  generalize (rskW (ranksI drawn)).1 = rows at *
  generalize (rskW (ranksI drawn)).2 = marks at *
  have hrk : (ranksI drawn).length = drawn.length := by simp [ranksI, natI]
  generalize ranksI drawn = ranks at *
  refine WP.keep [("rows", .list (zss rows)), ("marks", .list (zss marks)), ("ranks", .list (zs ranks)), ("size", .int drawn.length)] ?_ ?_
  · intro q hq
    simp only [List.mem_cons, List.not_mem_nil, or_false] at hq
    rcases hq with rfl | rfl | rfl | rfl <;> assumption
  rw [hm]
  have hz1 := t1.z1
  have hz3 := t1.z3
  have hrev : ∀ τ : St, τ.v "rows" = some (.list (zss rows)) → ∀ {k p1 p2 p3 p4 p5}, Ev (l3Cx G A name qual doc pm cdv ct an f L n' PT) τ (.Subscript (.Name "rows" p1) (.Slice none none (some (.UnaryOp .USub (.Constant (.int 1) k p2) p3)) p4) p5) (.list (zss rows.reverse)) := fun τ hτ {k p1 p2 p3 p4 p5} =>
    Ev.of_new (EvN.cast (EvN.rev (Ev.name hτ) Items.list) (by unfold zss; rw [List.map_reverse]))
  refine WP.setX (x := "upward") (.inl rfl) (EvX.frzTop (EvX.twoFresh (t1 := rows.reverse) (t2 := (colsI rows).map List.reverse) (EvC.ev (copies (t := rows.reverse) rfl rfl (by decide) (by decide) rfl (hrev _ rfl) (by rw [List.length_reverse]; lia))) (fun mu => EvC.ev (revs (t := colsI rows) rfl rfl (by decide) (by decide) rfl (Ev.call (Ev.glob rfl FN.c1) (EvL.cons (Ev.name rfl) EvL.nil) (FN.c rows (by lia) t1.z2 t1.ne) hn (fun K F s X => trivial)) (by lia))) (by rw [List.length_map, List.length_reverse]; lia))) ?_
  rintro d mu ⟨prs, hp, rfl, rfl⟩
  have hpl : prs.length = rows.length + (colsI rows).length := by rw [← rows_len, hp]; simp
  have hpz : ∀ q ∈ prs, q.2.length ≤ 1000 := fun q hq => by
    have : q.2 ∈ rows.reverse ++ (colsI rows).map List.reverse := by rw [← hp]; exact List.mem_map_of_mem hq
    have h2 : q.2 ∈ listsI rows := by
      unfold listsI
      simpa using this
    have := t1.ln _ h2
    lia
  have hmg1 : ∀ r ∈ (mrg (rowsOf prs)).2, r = [] := by rw [hp]; exact u1
  have hmg2 : (mrg (rowsOf prs)).1 = rows.reverse.flatten := by rw [hp]; exact u2
  have hfl : rows.reverse.flatten.length = rows.flatten.length := by simp
  refine WP.ifsX (b := false) (mu := ent (prs.map fun p => (p.1, [])) ++ tabs3 qual P1 PL c P) (EvTX.cast (EvTX.cmp (d2 := .list (zs rows.reverse.flatten)) (evMrg FN hn rfl (Ev.name (d := .list (refs prs)) rfl) (List.Perm.refl _) (by lia) hpz hmg1 (by rw [hmg2]; lia)) ?_ (Cm.neD Vs.nums Vs.nums (by decide))) (by rw [hmg2]; simp)) (fun h => nomatch h) fun _ => WP.nil ?_
  · refine Ev.of_new (EvN.cast (EvC.ev (EvC.flat (scope := _) (ds := zss rows.reverse) (fun d => match d with | .list l => l | _ => []) (fun _ e => e) (compOk0 rfl rfl (by decide) (by decide)) (.inl rfl) (.inl rfl) (by decide) (hrev _ rfl) ItD.list ?_ ?_ ?_ ?_)) ?_)
    · have : (List.map (fun d => (match d with | D.list l => l | _ => []).length) (zss rows.reverse)).sum = rows.reverse.flatten.length := by
        rw [← flat_sum, zss, List.map_map]
        congr 1
        refine List.map_congr_left fun r _ => ?_
        simp [zs]
      rw [this]; lia
    · simp [zss]; lia
    · intro L' d mu hd
      obtain ⟨r, hr, rfl⟩ := List.mem_map.mp hd
      exact Ev.name rfl
    · intro L' d e mu hd he
      exact Ev.name rfl
    · rw [zss, List.flatMap_map, zs, List.map_flatten, List.flatMap_def]
      congr 1
      refine List.map_congr_left fun r _ => ?_
      simp [zs]
  refine WP.drop (mu' := tabs3 qual P1 PL c P) (List.sublist_append_right _ _) ?_
  refine WP.set (x := "steps") (d := .list (zs (natI drawn.length).reverse)) (.inl rfl) (Ev.of_new (EvN.cast (EvN.rev (Ev.of_new (EvN.cast (EvX.call1 (.inr ⟨_, rfl⟩) ⟨rfl, B.list.1, B.list.2, rfl⟩ (Ev.range ⟨rfl, B.range.1, B.range.2, rfl⟩ (Ev.name (d := .int drawn.length) rfl)) (C1.listRange (by lia) (by lia))) (rints_nats _))) Items.list) (by rw [zs, zs, List.map_reverse]; rfl))) ?_
  refine WP.ifs (b := false) (EvT.cast (EvT.cmp (Ev.tupIdx (ds := [.list (zss (undoW ((rows, marks), []) (natI drawn.length).reverse).1.1), .list (zss (undoW ((rows, marks), []) (natI drawn.length).reverse).1.2), .list (zs (undoW ((rows, marks), []) (natI drawn.length).reverse).2)]) (evUndo FN hn rfl rfl (Ev.name rfl) (Ev.name rfl) (Ev.name rfl) w1) Ev.int (by lia) rfl) (Ev.name (d := .list (zs ranks)) rfl) (Cm.neD Vs.nums Vs.nums (by decide))) (by rw [w2]; simp)) (fun h => nomatch h) fun _ => WP.nil ?_
  refine WP.set (x := "twice") (d := .list (zs (undoW ((rows, rows), []) (natI drawn.length).reverse).2)) (.inr ⟨rfl, L + 2, rfl, by show L + 2 ∈ [L, L + 4, L + 3, L + 2, L + 1]; simp⟩) (Ev.tupIdx (ds := [.list (zss (undoW ((rows, rows), []) (natI drawn.length).reverse).1.1), .list (zss (undoW ((rows, rows), []) (natI drawn.length).reverse).1.2), .list (zs (undoW ((rows, rows), []) (natI drawn.length).reverse).2)]) (evUndo FN hn rfl rfl (Ev.name rfl) (Ev.name rfl) (Ev.name rfl) x1) Ev.int (by lia) rfl) ?_
  obtain ⟨y1, y2, y3, y4⟩ := x2 _ rfl
  generalize (undoW ((rows, rows), []) (natI drawn.length).reverse).2 = tw at *
  refine WP.ifs (b := false) (EvT.cast (EvT.cmp (d1 := .list (zs (natI drawn.length))) (Ev.of_new (EvN.cast (EvC.ev (EvC.plain (scope := _) tw D.int (fun _ => true) (fun x => .int (tw.getD x.toNat 0)) (compOkF rfl rfl (by decide) (fun x hx => by obtain rfl := List.mem_singleton.mp hx; rfl) (List.pairwise_singleton _ _) (by decide)) (.inl rfl) (Ev.name (d := .list (zs tw)) rfl) ItD.list (by lia) fun L' x hx => ⟨rfl, fun _ => Ev.idx (d := .list (zs tw)) (Ev.name rfl) Items.list (Ev.name rfl) (y2 x hx).1 (zs_get _ (y2 x hx).2)⟩)) ?_))
    (Ev.of_new (EvN.cast (EvX.call1 (.inr ⟨_, rfl⟩) ⟨rfl, B.list.1, B.list.2, rfl⟩ (Ev.range ⟨rfl, B.range.1, B.range.2, rfl⟩ (Ev.name (d := .int drawn.length) rfl)) (C1.listRange (by lia) (by lia))) (rints_nats _))) (Cm.neD Vs.nums Vs.nums (by decide))) (by simp [natI, nats])) (fun h => nomatch h) fun _ => WP.nil ?_
  · rw [filter_tr, ← y3, zs, List.map_map]; rfl
  exact WP.ret (Ev.cast (Ev.cmp (evIns FN hn rfl rfl (Ev.name (d := .list (zs tw)) rfl) y1) (Ev.tuple (EvL.cons (Ev.name (d := .list (zss rows)) rfl) (EvL.cons (Ev.name (d := .list (zss rows)) rfl) EvL.nil)) (by simp)) (Cm.eqD vsP (vsP (t := (rows, rows))) (by decide))) (by rw [y4]; simp)) ⟨rfl, c, P, rfl⟩
end
end Mine
end

section
set_option Elab.async false
set_option linter.unusedVariables false
set_option linter.unusedSimpArgs false
set_option maxRecDepth 100000
namespace Mine
open PySem PySem.W PyProof.Rows PySem.Calls
noncomputable def LawOk3 (script : List Int) : Prop := ∀ p, Ok (drawnI script).length p → Asc (keyI (drawnI script)) p (drawnI script).length → Law3 (drawnI script) (ordI p)
section
variable {G : Gx} {f : Addr} {name qual : Str} {dV kV doc pm cdv ct : Value} {an : Option Addr}
theorem law3_mid {A : Around} {L : Addr} {n n' : Nat} {fr fi fu fc fl fm fa c1 P1 cL PL : Addr} {drawn order : List Int} {total : Int} {ms : Str → Option Value} {docK pmK ctK : Value} {anK : Option Addr} {c P : Addr} (B : Bt G) (FN : Fns3 G n fr fi fu fc fl fm) (hn : n ≤ n') (hn4 : 4 ≤ n') (hgens : G.s0.gens = #[])
    (H : KPre G.hb G.mg G.mb ms fa c1 P1 docK pmK (.ref c1) ctK anK) (hk : G.mg "cmp_to_key" = some (.ref fa)) (hL : cdv = .ref cL) (hLd : CodeHd G.hb cL PL) (hA1 : A.depth ≤ 600) (hA2 : A.units ≤ 3000) (LW : Law3 drawn order) (hdl : drawn.length ≤ 8) (hol : order.length ≤ 8) :
    WP (l3Cx G A name qual doc pm cdv ct an f L n' PT) { vars := [("total", .int total), ("drawn", .list (zs drawn)), ("size", .int drawn.length), ("order", .list (zs order)), ("ranks", .list (zs (ranksI drawn)))], mu := tabs3 qual P1 PL c P } ((bo 10).drop 5) (Fin fun d mu => d = .bool true ∧ ∃ c P, mu = tabs3 qual P1 PL c P) := by
  have hrk : (ranksI drawn).length = drawn.length := by simp [ranksI, natI]
  refine WP.unpack (.inl rfl) (.inl rfl) (evIns FN hn rfl rfl (Ev.name (d := .list (zs (ranksI drawn))) rfl) (by lia)) ?_
  refine WP.ifs (b := false) (EvT.cast (EvT.cmp (evIns FN hn rfl rfl (Ev.name (d := .list (zs order)) rfl) (by lia)) (Ev.tuple (EvL.cons (Ev.name (d := .list (zss (rskW (ranksI drawn)).2)) rfl) (EvL.cons (Ev.name (d := .list (zss (rskW (ranksI drawn)).1)) rfl) EvL.nil)) (by simp)) (Cm.neD vsP (vsP (t := ((rskW (ranksI drawn)).2, (rskW (ranksI drawn)).1))) (by decide))) (by rw [LW.e1]; simp)) (fun h => nomatch h) fun _ => WP.nil ?_
  have hz1 := LW.t1.z1
  refine WP.ifs (b := false) (EvT.cast (EvT.cmp (d1 := .list (zss (rskW (ranksI drawn).reverse).1)) (Ev.tupIdx (ds := [.list (zss (rskW (ranksI drawn).reverse).1), .list (zss (rskW (ranksI drawn).reverse).2)]) (evIns FN hn rfl rfl (Ev.of_new (EvN.cast (EvN.rev (Ev.name (d := .list (zs (ranksI drawn))) rfl) Items.list) (by rw [zs, zs, List.map_reverse]))) (by rw [List.length_reverse]; lia)) Ev.int (by lia) rfl) (Ev.call (Ev.glob rfl FN.c1) (EvL.cons (Ev.name (d := .list (zss (rskW (ranksI drawn)).1)) rfl) EvL.nil) (FN.c _ (by lia) LW.t1.z2 LW.t1.ne) hn (fun K F s X => trivial)) (Cm.neD vsT vsT (by decide))) (by rw [LW.e2]; simp)) (fun h => nomatch h) fun _ => WP.nil ?_
  refine WP.set (x := "turn") (d := .int ((total.fdiv 7).fmod 17)) (.inr ⟨rfl, L + 4, rfl, by show L + 4 ∈ [L, L + 4, L + 3, L + 2, L + 1]; simp⟩) (Ev.bin (Ev.bin (Ev.name (d := .int total) rfl) Ev.int (Op.div (by decide) (by decide))) Ev.int (Op.mod (by decide))) ?_
  have ht : 0 ≤ (total.fdiv 7).fmod 17 ∧ (total.fdiv 7).fmod 17 < 17 := ⟨Int.fmod_nonneg_of_pos _ (by decide), Int.fmod_lt_of_pos _ (by decide)⟩
  generalize (total.fdiv 7).fmod 17 = turn at *
  refine WP.for (d := .list [.list (zss (rskW (ranksI drawn)).1), .list (zss (rskW (ranksI drawn)).2)]) (ds := [.list (zss (rskW (ranksI drawn)).1), .list (zss (rskW (ranksI drawn)).2)]) (fun k σ => ∃ c P, σ.mu = tabs3 qual P1 PL c P ∧ (∀ q ∈ more3 (rskW (ranksI drawn)).1 (rskW (ranksI drawn)).2 (ranksI drawn) drawn.length, σ.v q.1 = some q.2) ∧ σ.v "turn" = some (.int turn))
    (Ev.of_new (EvN.list (EvL.cons (Ev.name rfl) (EvL.cons (Ev.name rfl) EvL.nil)) (by simp))) (.inl rfl) ⟨c, P, rfl, ?_, rfl⟩ (fun d σ => σ.set "table" d) (fun _ _ _ => rfl) (fun _ _ => rfl) (fun d σ => Asg.local rfl) ?_ ?_
  · intro q hq
    simp only [List.mem_cons, List.not_mem_nil, or_false] at hq
    rcases hq with rfl | rfl | rfl | rfl <;> rfl
  · rintro k d σ hk2 ⟨c, P, hm, hv, hv2⟩
    have key : ∃ t, TabOk t ∧ d = .list (zss t) := by
      match k, hk2 with
      | 0, h => exact ⟨_, LW.t1, by simpa using h.symm⟩
      | 1, h => exact ⟨_, LW.t2, by simpa using h.symm⟩
      | k + 2, h => simp at h
    obtain ⟨t, T, rfl⟩ := key
    refine law3_turn (t := t) (turn := turn) (c := c) (P := P) B FN hn hn4 hgens H hk hL hLd hA1 hA2 T ht _ rfl (σ := σ.set "table" (.list (zss t))) hm rfl hv2 (fun q hq => ?_) fun c' P' σ' h1 h2 h3 => ⟨c', P', h1, h2, h3⟩
    have := hv q hq
    simp only [List.mem_cons, List.not_mem_nil, or_false] at hq
    rcases hq with rfl | rfl | rfl | rfl <;> exact this
  · rintro σ ⟨c, P, hm, hv, hv2⟩
    exact WP.nil (law3_end B FN hn LW hdl hm (hv _ (.head _)) (hv _ (.tail _ (.head _))) (hv _ (.tail _ (.tail _ (.head _)))) (hv _ (.tail _ (.tail _ (.tail _ (.head _))))))
theorem law3_body {A : Around} {L : Addr} {n n' : Nat} {fr fi fu fc fl fm fa c1 P1 cL PL : Addr} {script : List Int} {ms : Str → Option Value} {docK pmK ctK : Value} {anK : Option Addr} (B : Bt G) (FN : Fns3 G n fr fi fu fc fl fm) (OK : LawOk3 script) (hlen : script.length ≤ 63) (hn : n ≤ n') (hn4 : 4 ≤ n') (hgens : G.s0.gens = #[])
    (H : KPre G.hb G.mg G.mb ms fa c1 P1 docK pmK (.ref c1) ctK anK) (hk : G.mg "cmp_to_key" = some (.ref fa)) (hL : cdv = .ref cL) (hLd : CodeHd G.hb cL PL) (hA1 : A.depth ≤ 600) (hA2 : A.units ≤ 3000) :
    WP (l3Cx G A name qual doc pm cdv ct an f L n' PT) { vars := [("script", .list (zs script))], mu := [(PL, tq qual), (P1, TabP none)] } (bo 10) (Fin fun d mu => d = .bool true ∧ ∃ c P, mu = tabs3 qual P1 PL c P) := by
  refine law3_head B hlen hn4 hgens H hk hL hLd hA1 hA2 fun c P p hp hs => ?_
  have hdl : (drawnI script).length ≤ 8 := by simp [drawnI]; lia
  refine law3_mid B FN hn hn4 hgens H hk hL hLd hA1 hA2 (OK p hp hs) hdl ?_
  have := hp.size_eq
  simp [ordI] at this ⊢; lia
structure Lay3 (G : Gx) (mi T : Addr) : Prop where
  rg : ∃ om, RedG G mi om
  t : ∃ oT mm nT, G.hb.get? T = some oT ∧ oT.data = .seq #[mm] nT
  f3 : ∃ f name qual doc pm an cdv ct, G.mg "reduce" = some (.ref f) ∧ FnF G.hb.get? f (fdN 3 name qual (.ref T) .none doc pm an cdv ct)
  f4 : ∃ f name qual doc pm an cdv ct, G.mg "_c3_merge" = some (.ref f) ∧ FnF G.hb.get? f (fdN 4 name qual .none .none doc pm an cdv ct)
  f6 : ∃ f name qual doc pm an cdv ct, G.mg "_law_insert" = some (.ref f) ∧ FnF G.hb.get? f (fdN 6 name qual .none .none doc pm an cdv ct)
  f7 : ∃ f name qual doc pm an cdv ct, G.mg "_law_undo" = some (.ref f) ∧ FnF G.hb.get? f (fdN 7 name qual .none .none doc pm an cdv ct)
  f8 : ∃ f name qual doc pm an cdv ct, G.mg "_law_columns" = some (.ref f) ∧ FnF G.hb.get? f (fdN 8 name qual .none .none doc pm an cdv ct)
  f9 : ∃ f name qual doc pm an cdv ct, G.mg "_law_lists" = some (.ref f) ∧ FnF G.hb.get? f (fdN 9 name qual .none .none doc pm an cdv ct)
theorem Lay3.fns {mi T : Addr} (Y : Lay3 G mi T) (B : Bt G) (hins : ∀ w : List Int, w.length ≤ 60 → ∀ k, k < w.length → InsOk (rskW (w.take k))) : ∃ fr fi fu fc fl fm, Fns3 G 10 fr fi fu fc fl fm := by
  obtain ⟨om, RG⟩ := Y.rg
  obtain ⟨oT, mm, nT, hT, hT2⟩ := Y.t
  obtain ⟨f3, _, _, _, _, _, _, _, m3, F3⟩ := Y.f3
  obtain ⟨f4, _, _, _, _, _, _, _, m4, F4⟩ := Y.f4
  obtain ⟨f6, _, _, _, _, _, _, _, m6, F6⟩ := Y.f6
  obtain ⟨f7, _, _, _, _, _, _, _, m7, F7⟩ := Y.f7
  obtain ⟨f8, _, _, _, _, _, _, _, m8, F8⟩ := Y.f8
  obtain ⟨f9, _, _, _, _, _, _, _, m9, F9⟩ := Y.f9
  refine ⟨f3, f6, f7, f8, f9, f4, m3, m6, m7, m8, m9, m4, fun w hw => ?_, fun s steps hu => ?_, fun t h1 h2 h3 => ?_, fun t h => ?_, fun prs h1 h2 h3 h4 => ?_⟩
  · have := reduce_sem (G := G) (f := f3) (g := f6) (n := 9) (m := 9) (P := PT) (ds := zs w) (acc := fun k => tbD (rskW (w.take k))) RG hT hT2 F3 (.inr ⟨_, rfl⟩) (Nat.le_refl _) PT.mon fun k d hk => ?_
    · rw [zs_length, List.take_of_length_le (Nat.le_refl _)] at this
      exact this
    · have hk' : k < w.length := by
        have := (List.getElem?_eq_some_iff.mp hk).1
        rwa [zs_length] at this
      rw [zs_get w hk'] at hk
      cases hk
      have e : rskW (w.take (k + 1)) = insP (rskW (w.take k)) (w.getD k 0) := by
        rw [rskW, List.take_add_one, List.getElem?_eq_getElem hk', Option.toList_some, List.foldl_append]
        simp [rskW, hk']
      rw [e]
      exact ins_sem PT.mon F6 B (hins w hw k hk')
  · have := reduce_sem (G := G) (f := f3) (g := f7) (n := 9) (m := 9) (P := PT) (ds := zs steps) (acc := fun k => unD (undoW s (steps.take k))) RG hT hT2 F3 (.inr ⟨_, rfl⟩) (Nat.le_refl _) PT.mon fun k d hk => ?_
    · rw [zs_length, List.take_of_length_le (Nat.le_refl _)] at this
      exact this
    · have hk' : k < steps.length := by
        have := (List.getElem?_eq_some_iff.mp hk).1
        rwa [zs_length] at this
      rw [zs_get steps hk'] at hk
      cases hk
      have e : undoW s (steps.take (k + 1)) = undoP (undoW s (steps.take k)) (steps.getD k 0) := by
        rw [undoW, List.take_add_one, List.getElem?_eq_getElem hk', Option.toList_some, List.foldl_append]
        simp [undoW, hk']
      rw [e]
      exact undo_sem PT.mon F7 B (hu k _ (by rw [List.getElem?_eq_getElem hk']; simp [hk']))
  · exact cols_sem (n := 9) PT.mon F8 B h1 h2 h3
  · have z1 := h.z1
    have z3 := h.z3
    exact lists_sem (n := 9) PT.mon F9 B (by lia) (by lia) m8 (cols_sem (n := 8) PT.mon F8 B (by lia) h.z2 h.ne)
  · exact mrg_sem (n := 9) PT.mon F4 h1 h2 h3 h4
theorem law3_sem {f fa c1 P1 cL PL mi T : Addr} {name qual : Str} {doc pm ct : Value} {an : Option Addr} {script : List Int} {ms : Str → Option Value} {docK pmK ctK : Value} {anK : Option Addr} (Y : Lay3 G mi T) (B : Bt G) (hins : ∀ w : List Int, w.length ≤ 60 → ∀ k, k < w.length → InsOk (rskW (w.take k))) (OK : LawOk3 script) (hlen : script.length ≤ 63) (hgens : G.s0.gens = #[])
    (hF : FnF G.hb.get? f (fdN 10 name qual .none .none doc pm an (.ref cL) ct)) (H : KPre G.hb G.mg G.mb ms fa c1 P1 docK pmK (.ref c1) ctK anK) (hk : G.mg "cmp_to_key" = some (.ref fa)) (hLd : CodeHd G.hb cL PL) :
    CallSem G 171 PT f [(PL, tq qual), (P1, TabP none)] [.list (zs script)] (fun d mu => d = .bool true ∧ ∃ c P, mu = tabs3 qual P1 PL c P) := by
  obtain ⟨fr, fi, fu, fc, fl, fm, FN⟩ := Y.fns B hins
  refine call_fnC (n := 170) (fd := fdN 10 name qual .none .none doc pm an (.ref cL) ct) (ns := ["script"]) (body := bo 10) PT.mon ⟨rfl, fun s vs hb h => ?_, by decide, rfl, rfl, rfl, rfl, rfl⟩ (fun vs h => ?_) (fun K F hb _ => hF.mono hb) rfl (show ((cellsFrom 0 (sc 10).names []).map (·.1)).Nodup by decide) (show ∀ x ∈ (["script"] : List Str), (sc 10).names.lookup x = _ ∨ (sc 10).names.lookup x = _ by decide) fun A L hr => ?_
  · match vs, h with
    | [a], _ => exact BindsTo.of_eq rfl
  · match vs, h with
    | [a], _ => rfl
  · have h1 : A.depth + 3 * 171 + 20 < 1000 := hr.dp
    have h2 : A.units + 40 * 171 + 200 < 9900 := hr.un
    exact law3_body B FN OK hlen (by lia) (by lia) hgens H hk rfl hLd (by lia) (by lia)
end
end Mine
end

section
set_option Elab.async false
set_option linter.unusedVariables false
set_option maxRecDepth 100000
namespace Mine
open PySem PySem.W PySem.W.X PyProof.Rows PySem.Calls
def ro3 : OpenRow := PySem.Challenge.rw_sn0003_03.row
noncomputable def vw3 : Program := { ro3.prog with main := { ro3.prog.main with body := [1, 2, 4, 6, 7, 8, 9, 10].filterMap fun i => ro3.prog.main.body[i]? } }
noncomputable def K3 (P : Params) : Frag :=
  [(2, { cls := Value.none, data := Data.dict #[] }),
   (3, { cls := Value.type "dict", data := Data.dict #[{ hash := PyData.keyHash P "__name__", key := Value.str "__name__" 165, val := Value.str "law_sn0003_03" 217 }, { hash := PyData.keyHash P "__doc__", key := Value.str "__doc__" 166, val := Value.none }, { hash := PyData.keyHash P "__package__", key := Value.str "__package__" 167, val := Value.none }, { hash := PyData.keyHash P "__loader__", key := Value.str "__loader__" 168, val := Value.builtin "__main__.__loader__#opaque" }, { hash := PyData.keyHash P "__spec__", key := Value.str "__spec__" 169, val := Value.none }, { hash := PyData.keyHash P "__annotations__", key := Value.str "__annotations__" 170, val := Value.ref 6 }, { hash := PyData.keyHash P "__builtins__", key := Value.str "__builtins__" 171, val := Value.ref 4 }, { hash := PyData.keyHash P "__file__", key := Value.str "__file__" 173, val := Value.str "/claim/cut.py" 172 }, { hash := PyData.keyHash P "__cached__", key := Value.str "__cached__" 174, val := Value.none }, { hash := PyData.keyHash P "cmp_to_key", key := Value.str "cmp_to_key" 197, val := Value.ref 21 }, { hash := PyData.keyHash P "_initial_missing", key := Value.str "_initial_missing" 198, val := Value.ref 22 }, { hash := PyData.keyHash P "reduce", key := Value.str "reduce" 210, val := Value.ref 30 }, { hash := PyData.keyHash P "_c3_merge", key := Value.str "_c3_merge" 216, val := Value.ref 35 }, { hash := PyData.keyHash P "_law_insert", key := Value.str "_law_insert" 224, val := Value.ref 40 }, { hash := PyData.keyHash P "_law_undo", key := Value.str "_law_undo" 230, val := Value.ref 45 }, { hash := PyData.keyHash P "_law_columns", key := Value.str "_law_columns" 236, val := Value.ref 50 }, { hash := PyData.keyHash P "_law_lists", key := Value.str "_law_lists" 242, val := Value.ref 55 }, { hash := PyData.keyHash P "law", key := Value.str "law" 248, val := Value.ref 60 }] 18 }),
   (20, { cls := Value.type "code", data := Data.fields #[Value.str "cmp_to_key" 189, Value.str "cmp_to_key" 190, Value.str "/claim/cut.py" 191, Value.int 2 0, Value.int 1 0, Value.int 0 0, Value.int 0 0, Value.int 3 0, Value.ref 15, Value.bool true, Value.int 181 0, Value.ref 16, Value.none, Value.ref 17, Value.ref 18, Value.ref 19, Value.int 195 0, Value.int 2 0, Value.str "/claim/cut.py" 196] }),
   (21, { cls := Value.type "function", data := Data.func (fdN 1 "cmp_to_key" "cmp_to_key" (Value.none) (Value.none) Value.none (Value.str "cpy313.functools" 187) none (Value.ref 20) Value.none) }),
   (22, { cls := Value.type "object" }),
   (23, { cls := Value.type "tuple", data := Data.seq #[Value.ref 22] }),
   (29, { cls := Value.type "code", data := Data.fields #[Value.str "reduce" 199, Value.str "reduce" 200, Value.str "/claim/cut.py" 201, Value.int 28 0, Value.int 3 0, Value.int 0 0, Value.int 0 0, Value.int 3 0, Value.ref 24, Value.bool true, Value.int 181 0, Value.ref 25, Value.none, Value.ref 26, Value.ref 27, Value.ref 28, Value.int 208 0, Value.int 28 0, Value.str "/claim/cut.py" 209] }),
   (30, { cls := Value.type "function", data := Data.func (fdN 3 "reduce" "reduce" (Value.ref 23) (Value.none) Value.none (Value.str "cpy313.functools" 187) none (Value.ref 29) Value.none) }),
   (34, { cls := Value.type "code", data := Data.fields #[Value.str "_c3_merge" 211, Value.str "_c3_merge" 212, Value.str "/claim/cut.py" 213, Value.int 40 0, Value.int 1 0, Value.int 0 0, Value.int 0 0, Value.int 3 0, Value.ref 31, Value.bool true, Value.int 181 0, Value.ref 32, Value.none, Value.none, Value.none, Value.ref 33, Value.int 214 0, Value.int 40 0, Value.str "/claim/cut.py" 215] }),
   (35, { cls := Value.type "function", data := Data.func (fdN 4 "_c3_merge" "_c3_merge" (Value.none) (Value.none) Value.none (Value.str "cpy313.functools" 187) none (Value.ref 34) Value.none) }),
   (39, { cls := Value.type "code", data := Data.fields #[Value.str "_law_insert" 219, Value.str "_law_insert" 220, Value.str "/claim/cut.py" 221, Value.int 61 0, Value.int 2 0, Value.int 0 0, Value.int 0 0, Value.int 3 0, Value.ref 36, Value.bool true, Value.int 181 0, Value.ref 37, Value.none, Value.none, Value.none, Value.ref 38, Value.int 222 0, Value.int 61 0, Value.str "/claim/cut.py" 223] }),
   (40, { cls := Value.type "function", data := Data.func (fdN 6 "_law_insert" "_law_insert" (Value.none) (Value.none) Value.none (Value.str "law_sn0003_03" 217) none (Value.ref 39) Value.none) }),
   (44, { cls := Value.type "code", data := Data.fields #[Value.str "_law_undo" 225, Value.str "_law_undo" 226, Value.str "/claim/cut.py" 227, Value.int 78 0, Value.int 2 0, Value.int 0 0, Value.int 0 0, Value.int 3 0, Value.ref 41, Value.bool true, Value.int 181 0, Value.ref 42, Value.none, Value.none, Value.none, Value.ref 43, Value.int 228 0, Value.int 78 0, Value.str "/claim/cut.py" 229] }),
   (45, { cls := Value.type "function", data := Data.func (fdN 7 "_law_undo" "_law_undo" (Value.none) (Value.none) Value.none (Value.str "law_sn0003_03" 217) none (Value.ref 44) Value.none) }),
   (49, { cls := Value.type "code", data := Data.fields #[Value.str "_law_columns" 231, Value.str "_law_columns" 232, Value.str "/claim/cut.py" 233, Value.int 93 0, Value.int 1 0, Value.int 0 0, Value.int 0 0, Value.int 3 0, Value.ref 46, Value.bool true, Value.int 181 0, Value.ref 47, Value.none, Value.none, Value.none, Value.ref 48, Value.int 234 0, Value.int 93 0, Value.str "/claim/cut.py" 235] }),
   (50, { cls := Value.type "function", data := Data.func (fdN 8 "_law_columns" "_law_columns" (Value.none) (Value.none) Value.none (Value.str "law_sn0003_03" 217) none (Value.ref 49) Value.none) }),
   (54, { cls := Value.type "code", data := Data.fields #[Value.str "_law_lists" 237, Value.str "_law_lists" 238, Value.str "/claim/cut.py" 239, Value.int 95 0, Value.int 1 0, Value.int 0 0, Value.int 0 0, Value.int 3 0, Value.ref 51, Value.bool true, Value.int 181 0, Value.ref 52, Value.none, Value.none, Value.none, Value.ref 53, Value.int 240 0, Value.int 95 0, Value.str "/claim/cut.py" 241] }),
   (55, { cls := Value.type "function", data := Data.func (fdN 9 "_law_lists" "_law_lists" (Value.none) (Value.none) Value.none (Value.str "law_sn0003_03" 217) none (Value.ref 54) Value.none) }),
   (59, { cls := Value.type "code", data := Data.fields #[Value.str "law" 243, Value.str "law" 244, Value.str "/claim/cut.py" 245, Value.int 97 0, Value.int 1 0, Value.int 0 0, Value.int 0 0, Value.int 3 0, Value.ref 56, Value.bool true, Value.int 181 0, Value.ref 57, Value.none, Value.none, Value.none, Value.ref 58, Value.int 246 0, Value.int 97 0, Value.str "/claim/cut.py" 247] }),
   (60, { cls := Value.type "function", data := Data.func (fdN 10 "law" "law" (Value.none) (Value.none) Value.none (Value.str "law_sn0003_03" 217) none (Value.ref 59) Value.none) })]
noncomputable abbrev as3 : List Addr := [2, 3, 20, 21, 22, 23, 29, 30, 34, 35, 39, 40, 44, 45, 49, 50, 54, 55, 59, 60]
noncomputable def hk3 : Hook := kmHook K3 as3 (fun _ => by kernel_rfl) [16, 57]
theorem left3 : LeftO ro3.toRowW.1 vw3 ["_initial_missing", "reduce"] (fun s => xlAt vw3 [] s && recOk (RowW.records ro3.toRowW) s) hk3.obs hk3.val 900 := fun w => by kernel_rfl
theorem said3 : PySem.Challenge.rw_sn0003_03.wellSaid = true := by kernel_rfl
noncomputable def d3 : DefRec × List (Str × Expr) := (defOf vw3 ro3.name).get (by kernel_rfl)
theorem hd3 (walk : ∀ d kwd, d.name = Str.ofString "law" → WalkO vw3 ["_initial_missing", "reduce"] (XL vw3 []) hk3.says ro3.toRowW d kwd fun f vs => PySem.call f vs) : PySem.Challenge.rw_sn0003_03.Holds := by
  refine holds_law said3 fun said => ?_
  refine holds_open (r := ro3) (q := vw3) (d := d3.1) (kwd := d3.2) (loose := ["_initial_missing", "reduce"]) (Xt := fun s => xlAt vw3 [] s && recOk (RowW.records ro3.toRowW) s) (XP := XL vw3 []) (Yf := hk3.obs) (Ya := hk3.val) (YP := hk3.says) (N := 900) left3 hk3.of hk3.keeps (fun s e => xl_of s (Bool.and_eq_true_iff.mp e).1) XL.keeps (by kernel_rfl) (by kernel_rfl) (by kernel_rfl) (fun s e => recFacts_of (Bool.and_eq_true_iff.mp e).2) (by rfl) said (by decide +kernel) ⟨rfl, rfl, rfl, rfl, rfl, by decide +kernel⟩ ?hw ?hc
  case hw => w_witness2
  case hc => exact walk _ _ (by kernel_rfl)
end Mine
end

section
set_option Elab.async false
set_option linter.unusedVariables false
set_option maxRecDepth 100000
namespace Mine
open PySem PySem.W PySem.W.X PyProof.Rows PySem.Calls
noncomputable def kO (K : Frag) (a : Addr) : Obj := (K.lookup a).getD default
noncomputable def kFn (K : Frag) (a : Addr) : FuncData := match (kO K a).data with | .func fd => fd | _ => default
noncomputable def kVs (K : Frag) (a : Addr) : Array Value := match (kO K a).data with | .fields vs => vs | _ => #[]
noncomputable def kTok : Option Value → Tok | some (.str _ t) => t | _ => default
noncomputable def kStr : Option Value → Str | some (.str s _) => s | _ => Str.empty
noncomputable def kLen (K : Frag) (a : Addr) : Nat := match (kO K a).data with | .seq _ n => n | _ => 0
noncomputable def kEp (K : Frag) (a : Addr) : Nat := match (kO K a).data with | .dict _ n => n | _ => 0
structure KFun (K : Frag) (a c n : Nat) (dV : Value) : Prop where
  l1 : K.lookup a = some (kO K a)
  l2 : (kO K a).data = .func (kFn K a)
  l3 : kFn K a = fdN n (kFn K a).name (kFn K a).qualname dV .none (kFn K a).doc (kFn K a).pyModule (kFn K a).annotations (.ref c) (kFn K a).closureTuple
  l4 : K.lookup c = some (kO K c)
  l5 : (kO K c).data = .fields (kVs K c)
  l6 : (kVs K c)[1]? = some (.str (kFn K a).qualname (kTok (kVs K c)[1]?))
theorem kf30 (P : Params) : KFun (K3 P) 30 29 3 (.ref 23) := ⟨by kernel_rfl, by kernel_rfl, by kernel_rfl, by kernel_rfl, by kernel_rfl, by kernel_rfl⟩
theorem kf35 (P : Params) : KFun (K3 P) 35 34 4 .none := ⟨by kernel_rfl, by kernel_rfl, by kernel_rfl, by kernel_rfl, by kernel_rfl, by kernel_rfl⟩
theorem kf40 (P : Params) : KFun (K3 P) 40 39 6 .none := ⟨by kernel_rfl, by kernel_rfl, by kernel_rfl, by kernel_rfl, by kernel_rfl, by kernel_rfl⟩
theorem kf45 (P : Params) : KFun (K3 P) 45 44 7 .none := ⟨by kernel_rfl, by kernel_rfl, by kernel_rfl, by kernel_rfl, by kernel_rfl, by kernel_rfl⟩
theorem kf50 (P : Params) : KFun (K3 P) 50 49 8 .none := ⟨by kernel_rfl, by kernel_rfl, by kernel_rfl, by kernel_rfl, by kernel_rfl, by kernel_rfl⟩
theorem kf55 (P : Params) : KFun (K3 P) 55 54 9 .none := ⟨by kernel_rfl, by kernel_rfl, by kernel_rfl, by kernel_rfl, by kernel_rfl, by kernel_rfl⟩
theorem kf60 (P : Params) : KFun (K3 P) 60 59 10 .none := ⟨by kernel_rfl, by kernel_rfl, by kernel_rfl, by kernel_rfl, by kernel_rfl, by kernel_rfl⟩
theorem kf21 (P : Params) : KFun (K3 P) 21 20 1 .none := ⟨by kernel_rfl, by kernel_rfl, by kernel_rfl, by kernel_rfl, by kernel_rfl, by kernel_rfl⟩
theorem kn21 (P : Params) : (kFn (K3 P) 21).name = "cmp_to_key" ∧ (kFn (K3 P) 21).qualname = "cmp_to_key" := ⟨by kernel_rfl, by kernel_rfl⟩
theorem kc20 (P : Params) : codeHdIn (K3 P) 20 16 = true := by kernel_rfl
theorem kc59 (P : Params) : codeHdIn (K3 P) 59 57 = true := by kernel_rfl
noncomputable def kGlob : List (Str × Addr) := [("cmp_to_key", 21), ("reduce", 30), ("_c3_merge", 35), ("_law_insert", 40), ("_law_undo", 45), ("_law_columns", 50), ("_law_lists", 55), ("law", 60), ("_initial_missing", 22)]
theorem kglob (P : Params) : ∀ p ∈ kGlob, nsIn (K3 P) mainGlobals p.1 = some (some (.ref p.2)) := by
  intro p hp
  simp only [kGlob, List.mem_cons, List.not_mem_nil, or_false] at hp
  rcases hp with rfl | rfl | rfl | rfl | rfl | rfl | rfl | rfl | rfl <;> kernel_rfl
theorem knone (P : Params) : ∀ x ∈ (["iter", "len", "sum", "min", "sorted", "range", "list", "object"] : List Str), nsIn (K3 P) mainGlobals x = some none := by
  intro p hp
  simp only [List.mem_cons, List.not_mem_nil, or_false] at hp
  rcases hp with rfl | rfl | rfl | rfl | rfl | rfl | rfl | rfl <;> kernel_rfl
theorem kbuil : ∀ p ∈ ([("iter", .builtin "iter"), ("len", .builtin "len"), ("sum", .builtin "sum"), ("min", .builtin "min"), ("sorted", .builtin "sorted"), ("range", .type "range"), ("list", .type "list"), ("object", .type "object"), ("__build_class__", .builtin "__build_class__")] : List (Str × Value)), bootBuiltins p.1 = some p.2 := by
  intro p hp
  simp only [List.mem_cons, List.not_mem_nil, or_false] at hp
  rcases hp with rfl | rfl | rfl | rfl | rfl | rfl | rfl | rfl | rfl <;> kernel_rfl
theorem kname (P : Params) : nsIn (K3 P) mainGlobals "__name__" = some (some (.str (kStr ((nsIn (K3 P) mainGlobals "__name__").getD none)) (kTok ((nsIn (K3 P) mainGlobals "__name__").getD none)))) := by kernel_rfl
theorem kmiss (P : Params) : (K3 P).lookup 22 = some (kO (K3 P) 22) ∧ (kO (K3 P) 22).cls = .type "object" := ⟨by kernel_rfl, by kernel_rfl⟩
theorem ktup (P : Params) : (K3 P).lookup 23 = some (kO (K3 P) 23) ∧ (kO (K3 P) 23).data = .seq #[.ref 22] (kLen (K3 P) 23) := ⟨by kernel_rfl, by kernel_rfl⟩
theorem kst (P : Params) : (K3 P).lookup cStatics = some (kO (K3 P) cStatics) ∧ (kO (K3 P) cStatics).data = .dict #[] (kEp (K3 P) cStatics) := ⟨by kernel_rfl, by kernel_rfl⟩
end Mine
end

section
set_option Elab.async false
set_option linter.unusedVariables false
set_option maxRecDepth 100000
namespace Mine
open PySem PySem.W PySem.W.X PyProof.Rows PySem.Calls
theorem ns_of {K : Frag} {h : Heap} {m : Str → Option Value} {a : Addr} {n : Str} {v : Option Value} (X : K.In h) (G : h.Ns a m) (e : nsIn K a n = some v) : m n = v := by
  obtain ⟨o, es, ep, ho, hd, _, hf⟩ := G
  rw [← hf]
  unfold nsIn at e
  split at e
  · rename_i q
    have q1 := X _ _ q
    rw [ho] at q1
    cases q1
    cases hd
    unfold nsFind findBy
    rw [← Array.find?_toList]
    split at e
    · rename_i he
      rw [he]; cases e; rfl
    · rename_i he
      split at e
      · cases e
      · rw [he]; cases e; rfl
  · cases e
theorem IntsAre.repL {F : Fz} : ∀ {vs : List Value} {ns : List Int}, IntsAre vs ns → RepL F vs (zs ns)
  | _, _, .nil => .nil
  | _, _, .cons n t r => .cons (.int n t) (IntsAre.repL r)
theorem KFun.fn {K : Frag} {h : Heap} {a c n : Nat} {dV : Value} (k : KFun K a c n dV) (X : ∀ b o, K.lookup b = some o → b ≠ 16 → b ≠ 57 → h.get? b = some o) (h1 : a ≠ 16) (h2 : a ≠ 57) (h3 : c ≠ 16) (h4 : c ≠ 57) :
    FnF h.get? a (fdN n (kFn K a).name (kFn K a).qualname dV .none (kFn K a).doc (kFn K a).pyModule (kFn K a).annotations (.ref c) (kFn K a).closureTuple) :=
  ⟨⟨_, X _ _ k.l1 h1 h2, k.l2.trans (congrArg _ k.l3)⟩, c, _, _, _, rfl, X _ _ k.l4 h3 h4, k.l5, k.l6⟩
theorem law3_of (hins : ∀ w : List Int, w.length ≤ 60 → ∀ k, k < w.length → InsOk (rskW (w.take k))) (hp : ∀ script : List Int, script.length ≤ 63 → LawOk3 script) : PySem.Challenge.rw_sn0003_03.Holds := by
  refine hd3 fun d kwd hdn => ?_
  intro w s₀ s₁ mg mb G Y fa o pm cd doc dV kV ho hd hcd hD hmg hg args vals as hpre hlay hrd hwl hlo
  have X := (Ground.X G).1
  refine Ground.open G ?_
  intro T B D TE TW
  clear hcd hD hd
  have KX := km_in_of (K := K3) Y
  have KT := km_tabs_of (K := K3) (ts := [16, 57]) Y
  clear Y
  wrow_args hpre hlay hrd hwl hlo
  rename_i scr _ _ _ _ _ _ _ l vs _ hL _ hW _ hI _ hcond _
  have hlen : scr.length ≤ 63 := by lia
  have OK := hp scr hlen
  clear hp
  generalize hK : K3 w.params = K at KX
  have t16 := KT 16 (by decide)
  have t57 := KT 57 (by decide)
  have hb0 : ∀ b o, (hideAll s₁.heap [16, 57]).get? b = some o → s₁.heap.get? b = some o := fun b o e => of_hideAll _ e
  have hb1 : ∀ b o, s₁.heap.get? b = some o → b ≠ 16 → b ≠ 57 → (hideAll s₁.heap [16, 57]).get? b = some o := fun b o e n1 n2 => hideAll_get _ e (by simp [n1, n2])
  have kb : ∀ b o, K.lookup b = some o → b ≠ 16 → b ≠ 57 → (hideAll s₁.heap [16, 57]).get? b = some o := fun b o e => hb1 b o (KX _ _ e)
  have hn : ∀ b m, s₁.heap.Ns b m → b ≠ 16 → b ≠ 57 → (hideAll s₁.heap [16, 57]).Ns b m := fun b m ⟨o, es, ep, e, r⟩ n1 n2 => ⟨o, es, ep, hb1 _ _ e n1 n2, r⟩
  have h16 : (hideAll s₁.heap [16, 57]).get? 16 = none := hideAll_none _ (.head _)
  have h57 : (hideAll s₁.heap [16, 57]).get? 57 = none := hideAll_none _ (.tail _ (.head _))
  generalize hhb : hideAll s₁.heap [16, 57] = hb at *
  have glb : ∀ p ∈ kGlob, mg p.1 = some (.ref p.2) := fun p hp => ns_of KX T.g (hK ▸ kglob w.params p hp)
  have non : ∀ x ∈ (["iter", "len", "sum", "min", "sorted", "range", "list", "object"] : List Str), mg x = none := fun x hx => ns_of KX T.g (hK ▸ knone w.params x hx)
  have bui : ∀ p ∈ ([("iter", .builtin "iter"), ("len", .builtin "len"), ("sum", .builtin "sum"), ("min", .builtin "min"), ("sorted", .builtin "sorted"), ("range", .type "range"), ("list", .type "list"), ("object", .type "object"), ("__build_class__", .builtin "__build_class__")] : List (Str × Value)), mb p.1 = some p.2 := fun p hp => by
    refine (T.builtins p.1 ?_).trans (kbuil p hp)
    simp only [List.mem_cons, List.not_mem_nil, or_false] at hp
    rcases hp with rfl | rfl | rfl | rfl | rfl | rfl | rfl | rfl | rfl <;> decide
  have hfa : fa = 60 := by
    have q1 : mg "law" = some (.ref fa) := hdn ▸ hmg
    have q2 : mg "law" = some (.ref 60) := glb ("law", 60) (by simp [kGlob])
    rw [q1] at q2; cases q2; rfl
  subst hfa
  have g0 : ∀ (x : Str) (a : Addr), (x, a) ∈ kGlob → mg x = some (.ref a) := fun x a h => glb (x, a) h
  have f30 := (hK ▸ kf30 w.params : KFun K 30 29 3 (.ref 23)).fn kb (by decide) (by decide) (by decide) (by decide)
  have f35 := (hK ▸ kf35 w.params : KFun K 35 34 4 .none).fn kb (by decide) (by decide) (by decide) (by decide)
  have f40 := (hK ▸ kf40 w.params : KFun K 40 39 6 .none).fn kb (by decide) (by decide) (by decide) (by decide)
  have f45 := (hK ▸ kf45 w.params : KFun K 45 44 7 .none).fn kb (by decide) (by decide) (by decide) (by decide)
  have f50 := (hK ▸ kf50 w.params : KFun K 50 49 8 .none).fn kb (by decide) (by decide) (by decide) (by decide)
  have f55 := (hK ▸ kf55 w.params : KFun K 55 54 9 .none).fn kb (by decide) (by decide) (by decide) (by decide)
  have f60 := (hK ▸ kf60 w.params : KFun K 60 59 10 .none).fn kb (by decide) (by decide) (by decide) (by decide)
  have f21 := (hK ▸ kf21 w.params : KFun K 21 20 1 .none).fn kb (by decide) (by decide) (by decide) (by decide)
  obtain ⟨n21, q21⟩ := (hK ▸ kn21 w.params : (kFn K 21).name = "cmp_to_key" ∧ (kFn K 21).qualname = "cmp_to_key")
  rw [n21, q21] at f21
  have cd20 := codeHd_of_K KX (hK ▸ kc20 w.params)
  have cd59 := codeHd_of_K KX (hK ▸ kc59 w.params)
  have tb16 := cd20.tab t16
  have tb57 := cd59.tab t57
  have hdk : ∀ c P, CodeHd s₁.heap c P → c ≠ 16 → c ≠ 57 → CodeHd hb c P := fun c P ⟨o, vs, file, tf, flags, tg, inF, text, tt, e, r⟩ n1 n2 => ⟨o, vs, file, tf, flags, tg, inF, text, tt, hb1 _ _ e n1 n2, r⟩
  have cd20' := hdk _ _ cd20 (by decide) (by decide)
  have cd59' := hdk _ _ cd59 (by decide) (by decide)
  have miss := (hK ▸ kmiss w.params : K.lookup 22 = some (kO K 22) ∧ (kO K 22).cls = .type "object")
  have tup := (hK ▸ ktup w.params : K.lookup 23 = some (kO K 23) ∧ (kO K 23).data = .seq #[.ref 22] (kLen K 23))
  have st := (hK ▸ kst w.params : K.lookup cStatics = some (kO K cStatics) ∧ (kO K cStatics).data = .dict #[] (kEp K cStatics))
  have sy : ∃ o, s₁.heap.get? sysModules = some o := by
    obtain ⟨ms, ⟨o, es, ep, e, _⟩, _⟩ := (T.seer (by decide +kernel)).mods
    exact ⟨o, e⟩
  have nsS : hb.Ns cStatics (fun _ => none) := ⟨_, _, _, kb _ _ st.1 (by decide) (by decide), st.2, (fun e he => by simp at he), fun _ => rfl⟩
  let G0 : Gx := ⟨PySem.Challenge.rw_sn0003_03.row.prog, w, hb, mg, mb, s₁⟩
  have B0 : Bt G0 := ⟨⟨non _ (by decide), bui ("len", _) (by decide)⟩, ⟨non _ (by decide), bui ("sum", _) (by decide)⟩, ⟨non _ (by decide), bui ("min", _) (by decide)⟩, ⟨non _ (by decide), bui ("sorted", _) (by decide)⟩, ⟨non _ (by decide), bui ("range", _) (by decide)⟩, ⟨non _ (by decide), bui ("list", _) (by decide)⟩⟩
  have Y0 : Lay3 G0 22 23 := ⟨⟨_, ⟨non _ (by decide), bui ("iter", _) (by decide), g0 _ _ (by decide), kb _ _ miss.1 (by decide) (by decide), by rw [miss.2]; nofun, by rw [miss.2]; nofun⟩⟩, ⟨_, _, _, kb _ _ tup.1 (by decide) (by decide), tup.2⟩,
    ⟨30, _, _, _, _, _, _, _, g0 _ _ (by decide), f30⟩, ⟨35, _, _, _, _, _, _, _, g0 _ _ (by decide), f35⟩, ⟨40, _, _, _, _, _, _, _, g0 _ _ (by decide), f40⟩, ⟨45, _, _, _, _, _, _, _, g0 _ _ (by decide), f45⟩,
    ⟨50, _, _, _, _, _, _, _, g0 _ _ (by decide), f50⟩, ⟨55, _, _, _, _, _, _, _, g0 _ _ (by decide), f55⟩⟩
  have H0 : KPre G0.hb G0.mg G0.mb (fun _ => none) 21 20 16 (kFn K 21).doc (kFn K 21).pyModule (.ref 20) (kFn K 21).closureTuple (kFn K 21).annotations := by
    refine ⟨hn _ _ T.g (by decide) (by decide), ?_, ⟨_, _, ns_of KX T.g (hK ▸ kname w.params)⟩, non _ (by decide), hn _ _ T.b (by decide) (by decide), bui ("object", _) (by decide), bui ("__build_class__", _) (by decide), nsS, rfl, rfl, (let ⟨o, e⟩ := sy; ⟨o, hb1 _ _ e (by decide) (by decide)⟩), cd20', ?_, ?_⟩
    · obtain ⟨bm, ob, b1, b2, b3, b4, b5, b6⟩ := T.bmain
      refine ⟨bm, ob, b1, b2, ?_, hb1 _ _ b3 ?_ ?_, b4, b5, b6⟩
      · rintro rfl
        obtain ⟨o, es, ep, e, d, _⟩ := T.g
        rw [b3] at e; cases e; rw [b6] at d; cases d
      · rintro rfl; rw [t16] at b3; cases b3; cases b4
      · rintro rfl; rw [t57] at b3; cases b3; cases b4
    · obtain ⟨_, c, oc, cvs, t, e1, e2, e3, e4⟩ := f21
      cases e1
      exact ⟨20, oc, cvs, t, rfl, e2, e3, e4⟩
    · exact f21.1
  have SEM := law3_sem (G := G0) (f := 60) Y0 B0 hins OK hlen hg f60 H0 (g0 _ _ (by decide)) cd59'
  have hlist : ∃ ln, s₁.heap.get? l = some { cls := .type "list", data := .seq vs.toArray ln } := by
    obtain ⟨o, e1, e2, n, e3⟩ := hL
    have hW : Well w.params s₁.heap (.ref l) (.list _) := hW
    cases hW with
    | list q1 _ =>
      rw [e1] at q1
      cases q1
      cases e3
      exact ⟨_, e1⟩
  obtain ⟨ln, hl⟩ := hlist
  have Am0 : Am G0 (fun _ => none) [(57, tq (kFn K 60).qualname), (16, TabP none)] hb.get? s₁ := by
    refine ⟨⟨hn _ _ T.g (by decide) (by decide), hn _ _ T.b (by decide) (by decide), ⟨_, nsS, rfl⟩⟩, fun _ _ e => e, hb0, (fun _ _ e => nomatch e), (fun _ _ e => nomatch e), fun p hp => ?_, (show ([57, 16] : List Addr).Nodup by decide), rfl, rfl, rfl⟩
    simp only [List.mem_cons, List.not_mem_nil, or_false] at hp
    rcases hp with rfl | rfl
    · exact ⟨⟨_, hb.get?, Fle.refl _, t57, #[], rfl, trivial, fun pos v e => (by cases e)⟩, h57, rfl⟩
    · exact ⟨⟨_, hb.get?, Fle.refl _, t16, #[], rfl, trivial, rfl⟩, h16, rfl⟩
  have nl : ∀ {P : Addr}, s₁.heap.get? P = some (tabObj #[]) → l ≠ P := fun h q => by rw [← q, hl] at h; cases h
  have rl : Rep hb.get? (.ref l) (.list (zs scr)) := .list (hb1 _ _ hl (nl t16) (nl t57)) ⟨by rw [hI.length]; lia, _, rfl⟩ (IntsAre.repL hI)
  refine SEM.sem callerA (fun _ => none) hb.get? s₁ [.ref l] _ _ ⟨rfl, by decide, by decide⟩ trivial Am0 (.cons rl .nil) fun F' v s' d mu hR AM gF r => ?_
  obtain ⟨rfl, cK, PK, rfl⟩ := hR
  cases r
  have m16 : ∃ o, s'.heap.get? 16 = some o ∧ ∃ more, o = tabObj more := by
    obtain ⟨o, F0, _, q, ps, e, _⟩ := (AM.mus (16, _) (.head _)).1
    exact ⟨o, q, ps, e⟩
  have m57 : ∃ o, s'.heap.get? 57 = some o ∧ ∃ more, o = tabObj more := by
    obtain ⟨o, F0, _, q, ps, e, _⟩ := (AM.mus (57, _) (.tail _ (.head _))).1
    exact ⟨o, q, ps, e⟩
  refine ⟨.inl ⟨_, _, [], rfl, fun _ => rfl, ReadsW.bool true, ?_, fun _ => ⟨List.nodup_nil, nofun⟩⟩, ⟨fun b o e => ?_, fun b o e => ?_⟩, AM.os, ?_⟩
  · wrow_post
  · by_cases n1 : b = 16
    · subst n1
      rw [t16] at e; cases e
      obtain ⟨o', q1, more, rfl⟩ := m16
      exact .inr (.inl ⟨tb16.isCodeTable, rfl, #[], more, rfl, by rw [q1]; simp⟩)
    · by_cases n2 : b = 57
      · subst n2
        rw [t57] at e; cases e
        obtain ⟨o', q1, more, rfl⟩ := m57
        exact .inr (.inl ⟨tb57.isCodeTable, rfl, #[], more, rfl, by rw [q1]; simp⟩)
      · exact .inl (AM.frz _ _ (AM.base _ _ (hb1 _ _ e n1 n2)))
  · by_cases n1 : b = 16
    · subst n1
      obtain ⟨o', q1, _⟩ := m16
      exact ⟨o', q1⟩
    · by_cases n2 : b = 57
      · subst n2
        obtain ⟨o', q1, _⟩ := m57
        exact ⟨o', q1⟩
      · exact ⟨o, AM.frz _ _ (AM.base _ _ (hb1 _ _ e n1 n2))⟩
  · have q : s'.gens = #[] := AM.gens.trans hg
    intro y hy
    rw [q] at hy
    simp at hy
end Mine
end

section
set_option linter.unusedVariables false
set_option linter.unusedSimpArgs false
namespace Mine
noncomputable abbrev Inc (r : List Int) : Prop := r.Pairwise (· < ·)
structure Tok (t : Tb) : Prop where
  ne : ∀ r ∈ t, r ≠ []
  inc : ∀ r ∈ t, Inc r
  nd : t.flatten.Nodup
theorem markAt_nil {M : Int} : markAt [] 0 M = [[M]] := rfl
theorem markAt_zero {r : List Int} {t : Tb} {M : Int} : markAt (r :: t) 0 M = (r ++ [M]) :: t := by simp [markAt]
theorem markAt_succ {r : List Int} {t : Tb} {k : Nat} {M : Int} : markAt (r :: t) (k + 1) M = r :: markAt t k M := by
  unfold markAt
  by_cases h : k = t.length
  · rw [if_pos (by simp [h]), if_pos h]; rfl
  · rw [if_neg (by simp; lia), if_neg h]; simp
theorem lastI_snoc {r : List Int} {x : Int} : lastI (r ++ [x]) = x := by simp [lastI]
theorem row_cases {x : Int} : ∀ {r : List Int}, Inc r → x ∉ r → (∃ L b H, r = L ++ b :: H ∧ (∀ a ∈ L, a < x) ∧ x < b) ∨ (∀ a ∈ r, a < x)
  | [], _, _ => .inr (by simp)
  | a :: r, h, hx => by
    obtain ⟨h1, h2⟩ := List.pairwise_cons.mp h
    rw [List.mem_cons, not_or] at hx
    by_cases hax : a < x
    · rcases row_cases h2 hx.2 with ⟨L, b, H, rfl, h3, h4⟩ | h3
      · exact .inl ⟨a :: L, b, H, rfl, List.forall_mem_cons.mpr ⟨hax, h3⟩, h4⟩
      · exact .inr (List.forall_mem_cons.mpr ⟨hax, h3⟩)
    · exact .inl ⟨[], a, r, rfl, by simp, by lia⟩
theorem inc_split {L H : List Int} {b : Int} (h : Inc (L ++ b :: H)) : Inc L ∧ Inc H ∧ (∀ a ∈ L, a < b) ∧ (∀ a ∈ H, b < a) ∧ ∀ a ∈ L, ∀ c ∈ H, a < c := by
  obtain ⟨h1, h2, h3⟩ := List.pairwise_append.mp h
  obtain ⟨h4, h5⟩ := List.pairwise_cons.mp h2
  exact ⟨h1, h5, fun a ha => h3 a ha b (.head _), h4, fun a ha c hc => h3 a ha c (.tail _ hc)⟩
theorem spot_at {L H : List Int} {b x : Int} (h : Inc (L ++ b :: H)) (h1 : ∀ a ∈ L, a < x) (h2 : x < b) : spotI (L ++ b :: H) x = L.length := by
  obtain ⟨_, _, _, h4, _⟩ := inc_split h
  unfold spotI
  rw [List.filter_append, List.filter_cons, if_neg (by simp; lia), List.filter_eq_self.mpr (fun a ha => by simp [h1 a ha]), List.filter_eq_nil_iff.mpr (fun a ha => by have := h4 a ha; simp; lia)]
  simp
theorem last_ge {L H : List Int} {b : Int} (h : Inc (L ++ b :: H)) : b ≤ lastI (L ++ b :: H) := by
  rcases List.eq_nil_or_concat H with rfl | ⟨H', c, rfl⟩
  · rw [lastI_snoc]; exact Int.le_refl _
  · rw [show L ++ b :: (H'.concat c) = (L ++ b :: H') ++ [c] by simp, lastI_snoc]
    have := (inc_split h).2.2.2.1 c (by simp)
    lia
theorem last_lt {r : List Int} {x : Int} (hne : r ≠ []) (h : ∀ a ∈ r, a < x) : lastI r < x := by
  rcases List.eq_nil_or_concat r with rfl | ⟨r', c, rfl⟩
  · exact absurd rfl hne
  · rw [List.concat_eq_append, lastI_snoc]; exact h c (by simp)
theorem ins_bump {L H : List Int} {b x : Int} {t : Tb} (h : Inc (L ++ b :: H)) (h1 : ∀ a ∈ L, a < x) (h2 : x < b) : insR ((L ++ b :: H) :: t) x = ((L ++ x :: H) :: (insR t b).1, (insR t b).2 + 1) := by
  have h3 := last_ge h
  rw [insR, if_pos (by lia), spot_at h h1 h2]
  have e1 : (L ++ b :: H).getD L.length 0 = b := by simp
  have e2 : (L ++ b :: H).set L.length x = L ++ x :: H := by simp
  rw [e1, e2]
theorem ins_app {r : List Int} {x : Int} {t : Tb} (hne : r ≠ []) (h : ∀ a ∈ r, a < x) : insR (r :: t) x = ((r ++ [x]) :: t, 0) := by
  have := last_lt hne h
  rw [insR, if_neg (by lia)]
theorem Tok.tail {r : List Int} {t : Tb} (h : Tok (r :: t)) : Tok t := ⟨fun q hq => h.ne q (.tail _ hq), fun q hq => h.inc q (.tail _ hq), by have := h.nd; rw [List.flatten_cons] at this; exact (List.nodup_append.mp this).2.1⟩
theorem Tok.head {r : List Int} {t : Tb} (h : Tok (r :: t)) : r ≠ [] ∧ Inc r := ⟨h.ne r (.head _), h.inc r (.head _)⟩
theorem Tok.out {r : List Int} {t : Tb} (h : Tok (r :: t)) {b : Int} (hb : b ∈ r) : b ∉ t.flatten := fun q => by
  have := h.nd; rw [List.flatten_cons] at this; exact (List.nodup_append.mp this).2.2 b hb b q rfl
theorem ins_top {t : Tb} {M : Int} (h : Tok t) (hM : ∀ a ∈ t.flatten, a < M) : insR t M = (markAt t 0 M, 0) := by
  cases t with
  | nil => rfl
  | cons r t => rw [ins_app h.head.1 (fun a ha => hM a (by simp [ha])), markAt_zero]
theorem ins_max : ∀ {t : Tb} {x M : Int} {r : Nat}, Tok t → x ∉ t.flatten → (∀ a ∈ t.flatten, a < M) → x < M → r ≤ t.length →
    insR (markAt t r M) x = if (insR t x).2 = r then (markAt (insR t x).1 (r + 1) M, r + 1) else (markAt (insR t x).1 r M, (insR t x).2)
  | [], x, M, r, _, _, _, hx, hr => by
    obtain rfl : r = 0 := Nat.le_zero.mp hr
    rw [markAt_nil, show ([[M]] : Tb) = ([] ++ M :: []) :: [] from rfl, ins_bump (by simp) (by simp) hx]
    simp [insR, markAt]
  | R :: t, x, M, r, h, hx, hM, hxM, hr => by
    have hR := h.head
    rw [List.flatten_cons, List.mem_append, not_or] at hx
    have hMR : ∀ a ∈ R, a < M := fun a ha => hM a (by simp [ha])
    have hMt : ∀ a ∈ t.flatten, a < M := fun a ha => hM a (by rw [List.flatten_cons]; exact List.mem_append_right _ ha)
    rcases row_cases hR.2 hx.1 with ⟨L, b, H, rfl, h1, h2⟩ | h1
    · have hb := h.out (b := b) (by simp)
      have hbM := hMR b (by simp)
      rw [ins_bump hR.2 h1 h2]
      cases r with
      | zero =>
        have hinc : Inc (L ++ b :: (H ++ [M])) := by
          rw [show L ++ b :: (H ++ [M]) = (L ++ b :: H) ++ [M] by simp]
          exact List.pairwise_append.mpr ⟨hR.2, by simp, fun a ha c hc => by simp at hc; subst hc; exact hMR a ha⟩
        rw [markAt_zero, show (L ++ b :: H) ++ [M] = L ++ b :: (H ++ [M]) by simp, ins_bump hinc h1 h2]
        simp [markAt_zero]
      | succ r =>
        rw [markAt_succ, ins_bump hR.2 h1 h2, ins_max h.tail hb hMt hbM (by simpa using hr)]
        by_cases hd : (insR t b).2 = r
        · simp [hd, markAt_succ]
        · simp [hd, markAt_succ]
    · rw [ins_app hR.1 h1]
      cases r with
      | zero =>
        have hinc : Inc (R ++ M :: []) := List.pairwise_append.mpr ⟨hR.2, by simp, fun a ha c hc => by simp at hc; subst hc; exact hMR a ha⟩
        rw [markAt_zero, show R ++ [M] = R ++ M :: [] from rfl, ins_bump hinc h1 hxM, ins_top h.tail hMt]
        simp [markAt_succ]
      | succ r =>
        rw [markAt_succ, ins_app hR.1 h1]
        simp [markAt_succ]
noncomputable def incAt : List Nat → Nat → List Nat
  | [], _ => [1]
  | a :: l, 0 => (a + 1) :: l
  | a :: l, d + 1 => a :: incAt l d
theorem markAt_perm : ∀ {t : Tb} {d : Nat} {M : Int}, d ≤ t.length → (markAt t d M).flatten.Perm (M :: t.flatten) ∧ (markAt t d M).map List.length = incAt (t.map List.length) d
  | [], d, M, h => by
    obtain rfl : d = 0 := Nat.le_zero.mp h
    exact ⟨List.Perm.refl _, rfl⟩
  | r :: t, 0, M, _ => by
    rw [markAt_zero]
    refine ⟨?_, by simp [incAt]⟩
    rw [List.flatten_cons, List.flatten_cons, List.append_assoc]
    exact List.perm_middle
  | r :: t, d + 1, M, h => by
    obtain ⟨h1, h2⟩ := markAt_perm (t := t) (d := d) (M := M) (by simpa using h)
    rw [markAt_succ]
    refine ⟨?_, by simp [incAt, h2]⟩
    rw [List.flatten_cons, List.flatten_cons]
    exact (h1.append_left r).trans List.perm_middle
theorem markAt_ok : ∀ {t : Tb} {d : Nat} {M : Int}, Tok t → (∀ a ∈ t.flatten, a < M) → d ≤ t.length → Tok (markAt t d M)
  | [], d, M, h, hM, hd => by
    obtain rfl : d = 0 := Nat.le_zero.mp hd
    exact ⟨by simp [markAt], by simp [markAt], by simp [markAt]⟩
  | r :: t, 0, M, h, hM, hd => by
    have hp := (markAt_perm (t := r :: t) (M := M) (Nat.zero_le _)).1
    rw [markAt_zero] at hp ⊢
    refine ⟨List.forall_mem_cons.mpr ⟨by simp, h.tail.ne⟩, List.forall_mem_cons.mpr ⟨List.pairwise_append.mpr ⟨h.head.2, by simp, fun a ha c hc => ?_⟩, h.tail.inc⟩, ?_⟩
    · simp at hc; subst hc; exact hM a (by simp [ha])
    · rw [hp.nodup_iff, List.nodup_cons]
      exact ⟨fun q => by have := hM M q; lia, h.nd⟩
  | r :: t, d + 1, M, h, hM, hd => by
    have hp := (markAt_perm (t := r :: t) (M := M) hd).1
    have ih := markAt_ok (M := M) h.tail (fun a ha => hM a (by rw [List.flatten_cons]; exact List.mem_append_right _ ha)) (d := d) (by simpa using hd)
    rw [markAt_succ] at hp ⊢
    refine ⟨List.forall_mem_cons.mpr ⟨h.head.1, ih.ne⟩, List.forall_mem_cons.mpr ⟨h.head.2, ih.inc⟩, ?_⟩
    rw [hp.nodup_iff, List.nodup_cons]
    exact ⟨fun q => by have := hM M q; lia, h.nd⟩
theorem ins_facts : ∀ {t : Tb} {x : Int}, Tok t → x ∉ t.flatten → (insR t x).2 ≤ t.length ∧ (insR t x).1.flatten.Perm (x :: t.flatten) ∧ (insR t x).1.map List.length = incAt (t.map List.length) (insR t x).2 ∧ Tok (insR t x).1
  | [], x, _, _ => ⟨Nat.le_refl _, List.Perm.refl _, rfl, ⟨by simp [insR], by simp [insR], by simp [insR]⟩⟩
  | R :: t, x, h, hx => by
    have hR := h.head
    have hx0 := hx
    rw [List.flatten_cons, List.mem_append, not_or] at hx
    rcases row_cases hR.2 hx.1 with ⟨L, b, H, rfl, h1, h2⟩ | h1
    · have hb := h.out (b := b) (by simp)
      obtain ⟨i1, i2, i3, i4⟩ := ins_facts h.tail hb
      rw [ins_bump hR.2 h1 h2]
      have hp : (((L ++ x :: H) :: (insR t b).1).flatten).Perm (x :: ((L ++ b :: H) :: t).flatten) := by
        rw [List.flatten_cons, List.flatten_cons]
        refine (i2.append_left _).trans ?_
        have e1 : (L ++ x :: H ++ b :: t.flatten).Perm (x :: b :: (L ++ H ++ t.flatten)) := by
          refine (List.perm_middle (l₁ := L ++ x :: H) (l₂ := t.flatten) (a := b)).trans ?_
          refine (List.Perm.cons b (l₂ := x :: (L ++ H ++ t.flatten)) ?_).trans (List.Perm.swap ..)
          rw [List.append_assoc, List.append_assoc]
          exact List.perm_middle (l₁ := L) (l₂ := H ++ t.flatten)
        refine e1.trans (List.Perm.cons x ?_)
        rw [List.append_assoc, List.append_assoc]
        exact (List.perm_middle (l₁ := L) (l₂ := H ++ t.flatten)).symm
      obtain ⟨s1, s2, s3, s4, s5⟩ := inc_split hR.2
      refine ⟨by simpa using i1, hp, by simp [incAt, i3], List.forall_mem_cons.mpr ⟨by simp, i4.ne⟩, List.forall_mem_cons.mpr ⟨?_, i4.inc⟩, ?_⟩
      · refine List.pairwise_append.mpr ⟨s1, List.pairwise_cons.mpr ⟨fun a ha => by have := s4 a ha; lia, s2⟩, fun a ha c hc => ?_⟩
        rcases List.mem_cons.mp hc with rfl | hc
        · exact h1 a ha
        · exact s5 a ha c hc
      · rw [hp.nodup_iff, List.nodup_cons]; exact ⟨hx0, h.nd⟩
    · rw [ins_app hR.1 h1]
      have hp : (((R ++ [x]) :: t).flatten).Perm (x :: (R :: t).flatten) := by
        rw [List.flatten_cons, List.flatten_cons, List.append_assoc]
        exact List.perm_middle
      refine ⟨Nat.zero_le _, hp, by simp [incAt], List.forall_mem_cons.mpr ⟨by simp, h.tail.ne⟩, List.forall_mem_cons.mpr ⟨List.pairwise_append.mpr ⟨hR.2, by simp, fun a ha c hc => ?_⟩, h.tail.inc⟩, ?_⟩
      · simp at hc; subst hc; exact h1 a ha
      · rw [hp.nodup_iff, List.nodup_cons]; exact ⟨hx0, h.nd⟩
end Mine
end

section
set_option linter.unusedVariables false
set_option linter.unusedSimpArgs false
namespace Mine
noncomputable def ins2 (t : Tb × Tb) (p : Int × Int) : Tb × Tb := ((insR t.1 p.2).1, markAt t.2 (insR t.1 p.2).2 p.1)
noncomputable def rsk2 (l : List (Int × Int)) : Tb × Tb := l.foldl ins2 ([], [])
theorem rsk2_snoc (l : List (Int × Int)) (p : Int × Int) : rsk2 (l ++ [p]) = ins2 (rsk2 l) p := by simp [rsk2, List.foldl_append]
noncomputable def swapT (t : Tb × Tb) : Tb × Tb := (t.2, t.1)
structure Bw (l : List (Int × Int)) : Prop where
  lab : (l.map (·.1)).Pairwise (· < ·)
  let_ : (l.map (·.2)).Nodup
structure Rk (l : List (Int × Int)) (t : Tb × Tb) : Prop where
  o1 : Tok t.1
  o2 : Tok t.2
  p1 : t.1.flatten.Perm (l.map (·.2))
  p2 : t.2.flatten.Perm (l.map (·.1))
  sh : t.1.map List.length = t.2.map List.length
theorem Rk.len {l : List (Int × Int)} {t : Tb × Tb} (h : Rk l t) : t.1.length = t.2.length := by
  have := congrArg List.length h.sh
  simpa using this
theorem Bw.sub {l l' : List (Int × Int)} (h : Bw l) (hs : l'.Sublist l) : Bw l' := ⟨h.lab.sublist (hs.map _), h.let_.sublist (hs.map _)⟩
theorem Bw.snoc {l : List (Int × Int)} {p : Int × Int} (h : Bw (l ++ [p])) : Bw l ∧ (∀ q ∈ l, q.1 < p.1) ∧ (∀ q ∈ l, q.2 ≠ p.2) := by
  refine ⟨h.sub (List.sublist_append_left _ _), fun q hq => ?_, fun q hq e => ?_⟩
  · have := h.lab
    rw [List.map_append, List.pairwise_append] at this
    exact this.2.2 q.1 (List.mem_map_of_mem hq) p.1 (by simp)
  · have := h.let_
    rw [List.map_append, List.nodup_append] at this
    exact this.2.2 q.2 (List.mem_map_of_mem hq) p.2 (by simp) e
theorem rk_step {l : List (Int × Int)} {t : Tb × Tb} {p : Int × Int} (h : Rk l t) (hx : ∀ q ∈ l, q.2 ≠ p.2) (hN : ∀ q ∈ l, q.1 < p.1) : Rk (l ++ [p]) (ins2 t p) := by
  have hx' : p.2 ∉ t.1.flatten := fun q => by
    obtain ⟨r, hr, e⟩ := List.mem_map.mp (h.p1.mem_iff.mp q)
    exact hx r hr e
  have hN' : ∀ a ∈ t.2.flatten, a < p.1 := fun a ha => by
    obtain ⟨r, hr, rfl⟩ := List.mem_map.mp (h.p2.mem_iff.mp ha)
    exact hN r hr
  obtain ⟨i1, i2, i3, i4⟩ := ins_facts h.o1 hx'
  have hd : (insR t.1 p.2).2 ≤ t.2.length := by rw [← h.len]; exact i1
  obtain ⟨m1, m2⟩ := markAt_perm (t := t.2) (M := p.1) hd
  refine ⟨i4, markAt_ok h.o2 hN' hd, ?_, ?_, ?_⟩
  · rw [List.map_append]
    exact i2.trans ((List.Perm.cons _ h.p1).trans (List.perm_append_singleton _ _).symm)
  · rw [List.map_append]
    exact m1.trans ((List.Perm.cons _ h.p2).trans (List.perm_append_singleton _ _).symm)
  · show (insR t.1 p.2).1.map List.length = _
    rw [i3, h.sh]
    exact m2.symm
theorem rk_of : ∀ (n : Nat) {l : List (Int × Int)}, l.length = n → Bw l → Rk l (rsk2 l)
  | 0, l, hn, _ => by
    obtain rfl := List.eq_nil_of_length_eq_zero hn
    exact ⟨⟨by simp [rsk2], by simp [rsk2], by simp [rsk2]⟩, ⟨by simp [rsk2], by simp [rsk2], by simp [rsk2]⟩, by simp [rsk2], by simp [rsk2], rfl⟩
  | n + 1, l, hn, h => by
    rcases List.eq_nil_or_concat l with rfl | ⟨l', p, rfl⟩
    · simp at hn
    · rw [List.concat_eq_append] at *
      obtain ⟨h1, h2, h3⟩ := h.snoc
      rw [rsk2_snoc]
      exact rk_step (rk_of n (by simpa using hn) h1) h3 h2
theorem Bw.rk {l : List (Int × Int)} (h : Bw l) : Rk l (rsk2 l) := rk_of _ rfl h
theorem core : ∀ (n : Nat) {a b : List (Int × Int)} {i M : Int}, b.length = n → Bw (a ++ (i, M) :: b) → (∀ q ∈ a ++ b, q.2 < M) →
    rsk2 (a ++ (i, M) :: b) = (markAt (rsk2 (a ++ b)).1 (insR (rsk2 (a ++ b)).2 i).2 M, (insR (rsk2 (a ++ b)).2 i).1)
  | 0, a, b, i, M, hn, hB, hM => by
    obtain rfl := List.eq_nil_of_length_eq_zero hn
    obtain ⟨h1, h2, h3⟩ := hB.snoc
    have R := h1.rk
    rw [rsk2_snoc, List.append_nil]
    have e1 := ins_top R.o1 (M := M) (fun x hx => by
      obtain ⟨r, hr, rfl⟩ := List.mem_map.mp (R.p1.mem_iff.mp hx)
      exact hM r (by simp [hr]))
    have e2 := ins_top R.o2 (M := i) (fun x hx => by
      obtain ⟨r, hr, rfl⟩ := List.mem_map.mp (R.p2.mem_iff.mp hx)
      exact h2 r hr)
    unfold ins2
    dsimp only
    rw [e1, e2]
  | n + 1, a, b, i, M, hn, hB, hM => by
    rcases List.eq_nil_or_concat b with rfl | ⟨b', p, rfl⟩
    · simp at hn
    · obtain ⟨N, x⟩ := p
      rw [List.concat_eq_append] at *
      have e0 : a ++ (i, M) :: (b' ++ [(N, x)]) = (a ++ (i, M) :: b') ++ [(N, x)] := by simp
      have e1 : a ++ (b' ++ [(N, x)]) = (a ++ b') ++ [(N, x)] := by simp
      rw [e0] at hB ⊢
      rw [e1] at hM ⊢
      obtain ⟨h1, h2, h3⟩ := hB.snoc
      have hab : Bw (a ++ b') := h1.sub (List.Sublist.append_left (List.sublist_cons_self _ _) _)
      have R := hab.rk
      have ih := core n (a := a) (b := b') (i := i) (M := M) (by simpa using hn) h1 (fun q hq => hM q (List.mem_append_left _ hq))
      rw [rsk2_snoc, rsk2_snoc, ih]
      generalize rsk2 (a ++ b') = T at *
      have hxM : x < M := hM (N, x) (by simp)
      have hiN : i < N := h2 (i, M) (by simp)
      have hx : x ∉ T.1.flatten := fun q => by
        obtain ⟨r, hr, e⟩ := List.mem_map.mp (R.p1.mem_iff.mp q)
        refine h3 r ?_ e
        rcases List.mem_append.mp hr with hr | hr
        · exact List.mem_append_left _ hr
        · exact List.mem_append_right _ (.tail _ hr)
      have hi : i ∉ T.2.flatten := fun q => by
        obtain ⟨r, hr, e⟩ := List.mem_map.mp (R.p2.mem_iff.mp q)
        have := h1.lab
        rw [List.map_append, List.map_cons, List.pairwise_append, List.pairwise_cons] at this
        rcases List.mem_append.mp hr with hr | hr
        · have := this.2.2 r.1 (List.mem_map_of_mem hr) i (.head _); lia
        · have := this.2.1.1 r.1 (List.mem_map_of_mem hr)
          dsimp only at this; lia
      have hMT : ∀ c ∈ T.1.flatten, c < M := fun c hc => by
        obtain ⟨r, hr, rfl⟩ := List.mem_map.mp (R.p1.mem_iff.mp hc)
        exact hM r (List.mem_append_left _ hr)
      have hNT : ∀ c ∈ T.2.flatten, c < N := fun c hc => by
        obtain ⟨r, hr, rfl⟩ := List.mem_map.mp (R.p2.mem_iff.mp hc)
        refine h2 r ?_
        rcases List.mem_append.mp hr with hr | hr
        · exact List.mem_append_left _ hr
        · exact List.mem_append_right _ (.tail _ hr)
      obtain ⟨i1, _, _, _⟩ := ins_facts R.o1 hx
      obtain ⟨j1, _, _, _⟩ := ins_facts R.o2 hi
      have hl := R.len
      unfold ins2
      dsimp only
      rw [ins_max R.o1 hx hMT hxM (by lia), ins_max R.o2 hi hNT hiN (by lia)]
      by_cases hd : (insR T.1 x).2 = (insR T.2 i).2
      · rw [if_pos hd, if_pos hd.symm, hd]
      · rw [if_neg hd, if_neg (Ne.symm hd)]
theorem swap_map (l : List (Int × Int)) : (l.map Prod.swap).map (·.1) = l.map (·.2) ∧ (l.map Prod.swap).map (·.2) = l.map (·.1) := by
  rw [List.map_map, List.map_map]; exact ⟨rfl, rfl⟩
theorem sym : ∀ (n : Nat) {l l' : List (Int × Int)}, l.length = n → Bw l → Bw l' → l'.Perm (l.map Prod.swap) → rsk2 l' = swapT (rsk2 l)
  | 0, l, l', hn, h, h', hp => by
    obtain rfl := List.eq_nil_of_length_eq_zero hn
    obtain rfl := hp.eq_nil
    rfl
  | n + 1, l, l', hn, h, h', hp => by
    rcases List.eq_nil_or_concat l' with rfl | ⟨v, p, rfl⟩
    · have := hp.length_eq; simp at this; lia
    · obtain ⟨M, i⟩ := p
      rw [List.concat_eq_append] at *
      have hm : (M, i) ∈ l.map Prod.swap := hp.mem_iff.mp (by simp)
      obtain ⟨⟨i', M'⟩, hq, e⟩ := List.mem_map.mp hm
      obtain ⟨rfl, rfl⟩ : M = M' ∧ i = i' := by
        have e : (M', i') = (M, i) := e
        cases e; exact ⟨rfl, rfl⟩
      obtain ⟨a, b, rfl⟩ := List.append_of_mem hq
      obtain ⟨h1, h2, h3⟩ := h'.snoc
      have hpv : v.Perm ((a ++ b).map Prod.swap) := by
        have e1 : (v ++ [(M, i)]).Perm ((M, i) :: v) := List.perm_append_singleton _ _
        have e2 : ((a ++ (i, M) :: b).map Prod.swap).Perm ((M, i) :: (a ++ b).map Prod.swap) := by
          rw [List.map_append, List.map_append, List.map_cons]
          exact List.perm_middle
        exact (List.perm_cons _).mp (e1.symm.trans (hp.trans e2))
      have hM : ∀ q ∈ a ++ b, q.2 < M := fun q hq => by
        have : q.swap ∈ v := hpv.mem_iff.mpr (List.mem_map_of_mem hq)
        exact h2 q.swap this
      have ih := sym n (l := a ++ b) (l' := v) (by simp at hn ⊢; lia) (h.sub (List.Sublist.append_left (List.sublist_cons_self _ _) _)) h1 hpv
      rw [rsk2_snoc, ih, core _ rfl h hM]
      rfl
theorem total_eq (t : Tb) : total t = t.flatten.length := by simp [total]
noncomputable def labW (w : List Int) : List (Int × Int) := (natI w.length).zip w
theorem natI_length (n : Nat) : (natI n).length = n := by simp [natI]
theorem natI_succ (n : Nat) : natI (n + 1) = natI n ++ [(n : Int)] := by simp [natI, List.range_succ]
theorem lab_snoc (w : List Int) (x : Int) : labW (w ++ [x]) = labW w ++ [((w.length : Int), x)] := by
  unfold labW
  rw [List.length_append, List.length_singleton, natI_succ, List.zip_append (by rw [natI_length])]
  rfl
theorem lab_1 (w : List Int) : (labW w).map (·.1) = natI w.length := List.map_fst_zip (by rw [natI_length]; exact Nat.le_refl _)
theorem lab_2 (w : List Int) : (labW w).map (·.2) = w := List.map_snd_zip (by rw [natI_length]; exact Nat.le_refl _)
theorem natI_inc (n : Nat) : (natI n).Pairwise (· < ·) := by
  unfold natI
  rw [List.pairwise_map]
  exact List.pairwise_lt_range.imp fun h => by lia
theorem Bw.of {w : List Int} (h : w.Nodup) : Bw (labW w) := ⟨by rw [lab_1]; exact natI_inc _, by rw [lab_2]; exact h⟩
theorem rskW_snoc (w : List Int) (x : Int) : rskW (w ++ [x]) = insP (rskW w) x := by simp [rskW, List.foldl_append]
theorem ins_total : ∀ (t : Tb) (x : Int), total (insR t x).1 = total t + 1
  | [], x => rfl
  | r :: t, x => by
    have ih := ins_total t
    rw [insR]
    split
    · have := ih (r.getD (spotI r x) 0)
      simp only [total, List.map_cons, List.sum_cons, List.length_set] at this ⊢
      lia
    · simp only [total, List.map_cons, List.sum_cons, List.length_append, List.length_singleton]
      lia
theorem rskW_total : ∀ (n : Nat) {w : List Int}, w.length = n → total (rskW w).1 = n
  | 0, w, h => by obtain rfl := List.eq_nil_of_length_eq_zero h; rfl
  | n + 1, w, h => by
    rcases List.eq_nil_or_concat w with rfl | ⟨v, x, rfl⟩
    · simp at h
    · rw [List.concat_eq_append] at *
      rw [rskW_snoc]
      unfold insP
      rw [ins_total, rskW_total n (by simpa using h)]
theorem rskW_lab : ∀ (n : Nat) {w : List Int}, w.length = n → rskW w = rsk2 (labW w)
  | 0, w, h => by obtain rfl := List.eq_nil_of_length_eq_zero h; rfl
  | n + 1, w, h => by
    rcases List.eq_nil_or_concat w with rfl | ⟨v, x, rfl⟩
    · simp at h
    · rw [List.concat_eq_append] at *
      have hv : v.length = n := by simpa using h
      rw [rskW_snoc, lab_snoc, rsk2_snoc, ← rskW_lab n hv]
      unfold insP ins2
      rw [rskW_total n hv, hv]
structure Sh0 (t : Tb × Tb) (n : Nat) : Prop where
  ne : ∀ r ∈ t.1, r ≠ []
  sh : t.1.map List.length = t.2.map List.length
  tot : total t.1 = n
theorem ins_shape : ∀ (t : Tb) (x : Int), (∀ r ∈ t, r ≠ []) → (insR t x).2 ≤ t.length ∧ (insR t x).1.map List.length = incAt (t.map List.length) (insR t x).2 ∧ ∀ r ∈ (insR t x).1, r ≠ []
  | [], x, _ => ⟨Nat.le_refl _, rfl, by simp [insR]⟩
  | r :: t, x, h => by
    obtain ⟨h1, h2⟩ := List.forall_mem_cons.mp h
    rw [insR]
    split
    · obtain ⟨i1, i2, i3⟩ := ins_shape t (r.getD (spotI r x) 0) h2
      refine ⟨by simpa using i1, by show _ :: List.map _ (insR t _).1 = incAt (_ :: _) (_ + 1); rw [i2, List.length_set]; rfl, List.forall_mem_cons.mpr ⟨?_, i3⟩⟩
      intro e
      have := congrArg List.length e
      rw [List.length_set] at this
      exact h1 (List.eq_nil_of_length_eq_zero this)
    · exact ⟨Nat.zero_le _, by simp [incAt], List.forall_mem_cons.mpr ⟨by simp, h2⟩⟩
theorem sh0_of : ∀ (n : Nat) {w : List Int}, w.length = n → Sh0 (rskW w) n
  | 0, w, h => by obtain rfl := List.eq_nil_of_length_eq_zero h; exact ⟨by simp [rskW], rfl, rfl⟩
  | n + 1, w, h => by
    rcases List.eq_nil_or_concat w with rfl | ⟨v, x, rfl⟩
    · simp at h
    · rw [List.concat_eq_append] at *
      have ih := sh0_of n (w := v) (by simpa using h)
      rw [rskW_snoc]
      obtain ⟨i1, i2, i3⟩ := ins_shape _ x ih.ne
      refine ⟨i3, ?_, ?_⟩
      · unfold insP
        dsimp only
        have hl : (rskW v).1.length = (rskW v).2.length := by
          have := congrArg List.length ih.sh; simpa using this
        rw [i2, ih.sh]
        exact (markAt_perm (t := (rskW v).2) (by lia)).2.symm
      · show total (insR _ _).1 = _
        rw [ins_total, ih.tot]
theorem len_le_total : ∀ {t : Tb}, (∀ r ∈ t, r ≠ []) → t.length ≤ total t ∧ ∀ r ∈ t, r.length ≤ total t
  | [], _ => by simp
  | r :: t, h => by
    obtain ⟨h1, h2⟩ := List.forall_mem_cons.mp h
    obtain ⟨h3, h4⟩ := len_le_total h2
    have h5 := List.length_pos_iff.mpr h1
    have e : total (r :: t) = r.length + total t := by simp [total]
    refine ⟨by simp only [List.length_cons]; lia, List.forall_mem_cons.mpr ⟨by lia, fun q hq => by have := h4 q hq; lia⟩⟩
theorem ins_ok (w : List Int) (hw : w.length ≤ 60) (k : Nat) (hk : k < w.length) : InsOk (rskW (w.take k)) := by
  have h := sh0_of k (w := w.take k) (by simp; lia)
  obtain ⟨h1, h2⟩ := len_le_total h.ne
  rw [h.tot] at h1 h2
  have hl := congrArg List.length h.sh
  simp only [List.length_map] at hl
  refine ⟨h.ne, hl.symm, by lia, fun r hr => by have := h2 r hr; lia, fun r hr => ?_⟩
  have : r.length ∈ (rskW (w.take k)).2.map List.length := List.mem_map_of_mem hr
  rw [← h.sh] at this
  obtain ⟨q, hq, e⟩ := List.mem_map.mp this
  have := h2 q hq
  lia
end Mine
end

section
set_option linter.unusedVariables false
set_option linter.unusedSimpArgs false
namespace Mine
theorem undo_ins : ∀ {t : Tb} {x : Int}, Tok t → x ∉ t.flatten → (insR t x).2 < (insR t x).1.length ∧ (insR t x).1.getD (insR t x).2 [] ≠ [] ∧
    upR ((insR t x).1.take (insR t x).2) (lastI ((insR t x).1.getD (insR t x).2 [])) = (t.take (insR t x).2, x) ∧ upOk ((insR t x).1.take (insR t x).2) (lastI ((insR t x).1.getD (insR t x).2 [])) ∧
    ((insR t x).1.getD (insR t x).2 []).dropLast = t.getD (insR t x).2 [] ∧ (insR t x).1.drop ((insR t x).2 + 1) = t.drop ((insR t x).2 + 1)
  | [], x, _, _ => by simp [insR, upR, upOk, lastI]
  | R :: t, x, h, hx => by
    have hR := h.head
    rw [List.flatten_cons, List.mem_append, not_or] at hx
    rcases row_cases hR.2 hx.1 with ⟨L, b, H, rfl, h1, h2⟩ | h1
    · have hb := h.out (b := b) (by simp)
      obtain ⟨i1, i2, i3, i4, i5, i6⟩ := undo_ins h.tail hb
      rw [ins_bump hR.2 h1 h2]
      obtain ⟨s1, s2, s3, s4, s5⟩ := inc_split hR.2
      have hs : spotI (L ++ x :: H) b = L.length + 1 := by
        unfold spotI
        rw [List.filter_append, List.filter_cons, if_pos (by simp; lia), List.filter_eq_self.mpr (fun a ha => by simp [s3 a ha]), List.filter_eq_nil_iff.mpr (fun a ha => by have := s4 a ha; simp; lia)]
        simp
      have e1 : (L ++ x :: H).getD L.length 0 = x := by simp
      have e2 : (L ++ x :: H).set L.length b = L ++ b :: H := by simp
      simp only [List.getD_cons_succ, List.take_succ_cons, List.drop_succ_cons, List.length_cons]
      refine ⟨by lia, i2, ?_, ⟨i4, ?_⟩, i5, i6⟩
      · rw [upR, i3]
        dsimp only
        rw [hs, Nat.add_sub_cancel, e1, e2]
      · rw [i3]; dsimp only; lia
    · rw [ins_app hR.1 h1]
      simp [upR, upOk, lastI_snoc]
theorem getD_app {t e : Tb} {d : Nat} (h : d < t.length) : (t ++ e).getD d [] = t.getD d [] := by
  rw [List.getD_eq_getElem?_getD, List.getD_eq_getElem?_getD, List.getElem?_append_left h]
theorem cut_at {t : Tb} {d k : Nat} (h : d ≤ t.length) : ∃ k', t.take d ++ t.getD d [] :: (t.drop (d + 1) ++ List.replicate k []) = t ++ List.replicate k' [] ∧ k' + t.length = max t.length (d + 1) + k := by
  by_cases hd : d < t.length
  · refine ⟨k, ?_, by lia⟩
    have e : t.getD d [] = t[d] := by rw [List.getD_eq_getElem?_getD, List.getElem?_eq_getElem hd]; rfl
    have e2 : t.take d ++ t[d] :: t.drop (d + 1) = t := by rw [List.getElem_cons_drop, List.take_append_drop]
    rw [e, ← List.cons_append, ← List.append_assoc, e2]
  · obtain rfl : d = t.length := by lia
    refine ⟨k + 1, ?_, by lia⟩
    simp [List.replicate_succ]
theorem mark_where : ∀ {u e : Tb} {d : Nat} {N : Int}, (∀ r ∈ u, r ≠ [] ∧ ∀ a ∈ r, a < N) → d ≤ u.length → whereI (markAt u d N ++ e) N = d ∧ (markAt u d N).getD d [] = u.getD d [] ++ [N] ∧ d < (markAt u d N).length ∧ (markAt u d N).take d = u.take d ∧ (markAt u d N).drop (d + 1) = u.drop (d + 1)
  | [], e, d, N, _, hd => by
    obtain rfl : d = 0 := Nat.le_zero.mp hd
    simp [markAt, whereI, lastI, List.findIdx_cons]
  | r :: u, e, 0, N, h, hd => by
    rw [markAt_zero]
    simp [whereI, lastI_snoc, List.findIdx_cons]
  | r :: u, e, d + 1, N, h, hd => by
    obtain ⟨h1, h2⟩ := List.forall_mem_cons.mp h
    obtain ⟨i1, i2, i3, i4, i5⟩ := mark_where (e := e) (N := N) h2 (d := d) (by simpa using hd)
    have := last_lt h1.1 h1.2
    rw [markAt_succ]
    refine ⟨?_, by simpa using i2, by simpa using i3, by simp [i4], by simpa using i5⟩
    unfold whereI at i1 ⊢
    rw [List.cons_append, List.findIdx_cons, beq_eq_false_iff_ne.mpr (by lia)]
    simp [i1]
theorem undo_step {T : Tb × Tb} {l : List (Int × Int)} {N x : Int} {k : Nat} {tl : List Int} (R : Rk l T) (hx : x ∉ T.1.flatten) (hN : ∀ a ∈ T.2.flatten, a < N) :
    ∃ k', undoP (((ins2 T (N, x)).1 ++ List.replicate k [], (ins2 T (N, x)).2 ++ List.replicate k []), tl) N = ((T.1 ++ List.replicate k' [], T.2 ++ List.replicate k' []), x :: tl) ∧ k' + T.1.length = (ins2 T (N, x)).1.length + k ∧
    ((ins2 T (N, x)).1.length + k ≤ 60 → (∀ r ∈ (ins2 T (N, x)).1, r.length ≤ 60) → tl.length ≤ 60 → UndoOk (((ins2 T (N, x)).1 ++ List.replicate k [], (ins2 T (N, x)).2 ++ List.replicate k []), tl) N) := by
  obtain ⟨f1, f2, f3, f4⟩ := ins_facts R.o1 hx
  obtain ⟨u1, u2, u3, u4, u5, u6⟩ := undo_ins R.o1 hx
  have hl := R.len
  have hu : ∀ r ∈ T.2, r ≠ [] ∧ ∀ a ∈ r, a < N := fun r hr => ⟨R.o2.ne r hr, fun a ha => hN a (List.mem_flatten.mpr ⟨r, hr, ha⟩)⟩
  obtain ⟨m1, m2, m3, m4, m5⟩ := mark_where (e := List.replicate k []) (d := (insR T.1 x).2) hu (by lia)
  have hsh : (insR T.1 x).1.map List.length = (markAt T.2 (insR T.1 x).2 N).map List.length := by
    rw [f3, R.sh]; exact (markAt_perm (t := T.2) (by lia)).2.symm
  have hml : (insR T.1 x).1.length = (markAt T.2 (insR T.1 x).2 N).length := by
    have := congrArg List.length hsh; simpa using this
  unfold ins2
  dsimp only
  generalize (insR T.1 x).1 = T' at *
  generalize (insR T.1 x).2 = d at *
  generalize hU : markAt T.2 d N = U' at *
  have tk : ∀ {t : Tb}, d < t.length → (t ++ List.replicate k []).take d = t.take d := fun {t} h => by rw [List.take_append_of_le_length (by lia)]
  have dr : ∀ {t : Tb}, d < t.length → (t ++ List.replicate k []).drop (d + 1) = t.drop (d + 1) ++ List.replicate k [] := fun {t} h => by rw [List.drop_append_of_le_length (by lia)]
  obtain ⟨k1, c1, c2⟩ := cut_at (t := T.1) (k := k) f1
  obtain ⟨k2, c3, c4⟩ := cut_at (t := T.2) (d := d) (k := k) (by lia)
  have hk : k1 = k2 := by lia
  subst hk
  have hmax : max T.1.length (d + 1) = T'.length := by
    have e1 := congrArg List.length m5
    have e2 := congrArg List.length m4
    simp only [List.length_drop, List.length_take] at e1 e2
    lia
  refine ⟨k1, ?_, by lia, fun z1 z2 z3 => ?_⟩
  · unfold undoP
    dsimp only
    rw [m1, tk u1, getD_app u1, dr u1, u3, u5, u6, getD_app m3, m2, List.dropLast_concat]
    dsimp only
    rw [c1]
    congr 2
    rw [List.set_eq_take_append_cons_drop, if_pos (by rw [List.length_append]; lia), tk m3, dr m3, m4, m5]
    exact c3
  · refine ⟨by simp; lia, by dsimp only; rw [m1, List.length_append]; lia, ?_, ?_, ?_, by simp; lia, ?_, ?_, z3⟩
    · dsimp only
      rw [m1]
      intro i m hi hm
      rw [List.getElem?_append_left (by lia)] at hm
      have : m ∈ U' := List.mem_of_getElem? hm
      subst hU
      exact (markAt_ok R.o2 hN (by lia)).ne m this
    · dsimp only
      rw [m1]
      intro r hr
      rw [List.getElem?_append_left u1] at hr
      rw [List.getD_eq_getElem?_getD, hr] at u2
      exact u2
    · dsimp only
      rw [m1, tk u1, getD_app u1]
      exact u4
    · dsimp only
      intro r hr
      rcases List.mem_append.mp hr with hr | hr
      · exact z2 r hr
      · rw [(List.mem_replicate.mp hr).2]; simp
    · dsimp only
      intro r hr
      rcases List.mem_append.mp hr with hr | hr
      · have : r.length ∈ U'.map List.length := List.mem_map_of_mem hr
        rw [← hsh] at this
        obtain ⟨q, hq, e⟩ := List.mem_map.mp this
        have := z2 q hq
        lia
      · rw [(List.mem_replicate.mp hr).2]; simp
theorem undo_all : ∀ (n : Nat) {w tl : List Int} {k : Nat}, w.length = n → w.Nodup → (rskW w).1.length + k ≤ 60 → n + tl.length ≤ 60 →
    UndoRun (((rskW w).1 ++ List.replicate k [], (rskW w).2 ++ List.replicate k []), tl) (natI n).reverse ∧ (undoW (((rskW w).1 ++ List.replicate k [], (rskW w).2 ++ List.replicate k []), tl) (natI n).reverse).2 = w ++ tl
  | 0, w, tl, k, hn, hw, h1, h2 => by
    obtain rfl := List.eq_nil_of_length_eq_zero hn
    exact ⟨fun k x hk => by simp [natI] at hk, rfl⟩
  | n + 1, w, tl, k, hn, hw, h1, h2 => by
    rcases List.eq_nil_or_concat w with rfl | ⟨v, x, rfl⟩
    · simp at hn
    · rw [List.concat_eq_append] at *
      have hv : v.length = n := by simpa using hn
      have hB := Bw.of hw
      rw [lab_snoc] at hB
      obtain ⟨b1, b2, b3⟩ := hB.snoc
      have R := b1.rk
      have hx : x ∉ (rsk2 (labW v)).1.flatten := fun q => by
        obtain ⟨r, hr, e⟩ := List.mem_map.mp (R.p1.mem_iff.mp q)
        exact b3 r hr e
      have hN : ∀ a ∈ (rsk2 (labW v)).2.flatten, a < (v.length : Int) := fun a ha => by
        obtain ⟨r, hr, rfl⟩ := List.mem_map.mp (R.p2.mem_iff.mp ha)
        exact b2 r hr
      have eW : rskW (v ++ [x]) = ins2 (rsk2 (labW v)) ((v.length : Int), x) := by
        rw [rskW_lab _ rfl, lab_snoc, rsk2_snoc]
      obtain ⟨k', s1, s2, s3⟩ := undo_step (k := k) (tl := tl) R hx hN
      rw [← eW] at s1 s2 s3
      rw [← rskW_lab _ rfl] at s1 s2
      have hsz := sh0_of (n + 1) (w := v ++ [x]) hn
      obtain ⟨_, l2⟩ := len_le_total hsz.ne
      rw [hsz.tot] at l2
      have hok := s3 h1 (fun r hr => by have := l2 r hr; lia) (by lia)
      obtain ⟨i1, i2⟩ := undo_all n (w := v) (tl := x :: tl) (k := k') hv (hw.sublist (List.sublist_append_left _ _)) (by lia) (by simp; lia)
      rw [hv] at s1 hok
      have er : (natI (n + 1)).reverse = (n : Int) :: (natI n).reverse := by rw [natI_succ]; simp
      rw [er]
      refine ⟨fun j y hj => ?_, ?_⟩
      · cases j with
        | zero =>
          simp only [List.getElem?_cons_zero, Option.some.injEq] at hj
          subst hj
          exact hok
        | succ j =>
          simp only [List.getElem?_cons_succ] at hj
          have := i1 j y hj
          rw [List.take_succ_cons]
          show UndoOk (undoW (undoP _ _) _) y
          rw [s1]
          exact this
      · show (undoW (undoP _ _) _).2 = _
        rw [s1, i2]
        simp
theorem undo_full {w : List Int} (hw : w.Nodup) (hz : w.length ≤ 60) : UndoRun (((rskW w).1, (rskW w).2), []) (natI w.length).reverse ∧ (undoW (((rskW w).1, (rskW w).2), []) (natI w.length).reverse).2 = w := by
  have hsz := sh0_of w.length (w := w) rfl
  obtain ⟨l1, _⟩ := len_le_total hsz.ne
  rw [hsz.tot] at l1
  have := undo_all w.length (w := w) (tl := []) (k := 0) rfl hw (by lia) (by simp; lia)
  simpa using this
end Mine
end

section
set_option linter.unusedVariables false
set_option linter.unusedSimpArgs false
namespace Mine
noncomputable def Dom (r s : List Int) : Prop := s.length ≤ r.length ∧ ∀ j, j < s.length → r.getD j 0 < s.getD j 0
noncomputable def Cst : Tb → Prop
  | [] => True
  | r :: t => (∀ s, t.head? = some s → Dom r s) ∧ Cst t
theorem getD_set {r : List Int} {i j : Nat} {x : Int} (h : i < r.length) : (r.set i x).getD j 0 = if i = j then x else r.getD j 0 := by
  rw [List.getD_eq_getElem?_getD, List.getElem?_set]
  split
  · simp [h]
  · rw [List.getD_eq_getElem?_getD]
theorem getD_snoc {r : List Int} {j : Nat} {x : Int} : (r ++ [x]).getD j 0 = if j < r.length then r.getD j 0 else if j = r.length then x else 0 := by
  rw [List.getD_eq_getElem?_getD, List.getD_eq_getElem?_getD]
  by_cases h : j < r.length
  · rw [if_pos h, List.getElem?_append_left h]
  · rw [if_neg h, List.getElem?_append_right (by lia)]
    by_cases h2 : j = r.length
    · rw [if_pos h2, h2]; simp
    · rw [if_neg h2, List.getElem?_eq_none (by simp; lia)]; rfl
theorem inc_get {r : List Int} (h : Inc r) {i j : Nat} (hij : i < j) (hj : j < r.length) : r.getD i 0 < r.getD j 0 := by
  have := List.pairwise_iff_getElem.mp h i j (by lia) hj hij
  rw [List.getD_eq_getElem?_getD, List.getD_eq_getElem?_getD, List.getElem?_eq_getElem (by lia), List.getElem?_eq_getElem hj]
  exact this
theorem inc_of {r : List Int} (h : ∀ i j, i < j → j < r.length → r.getD i 0 < r.getD j 0) : Inc r := by
  refine List.pairwise_iff_getElem.mpr fun i j hi hj hij => ?_
  have := h i j hij hj
  rw [List.getD_eq_getElem?_getD, List.getD_eq_getElem?_getD, List.getElem?_eq_getElem hi, List.getElem?_eq_getElem hj] at this
  exact this
theorem getD_mem {r : List Int} {j : Nat} (h : j < r.length) : r.getD j 0 ∈ r := by
  rw [List.getD_eq_getElem?_getD, List.getElem?_eq_getElem h]; exact List.getElem_mem _
theorem split_get {L H : List Int} {b : Int} : (L ++ b :: H).getD L.length 0 = b ∧ (∀ x, (L ++ b :: H).set L.length x = L ++ x :: H) ∧ L.length < (L ++ b :: H).length ∧ ∀ j, j < L.length → (L ++ b :: H).getD j 0 = L.getD j 0 := by
  refine ⟨by simp, fun x => by simp, by simp, fun j hj => ?_⟩
  rw [List.getD_eq_getElem?_getD, List.getD_eq_getElem?_getD, List.getElem?_append_left hj]
theorem row_at {x : Int} {r : List Int} (h : Inc r) (hx : x ∉ r) : spotI r x ≤ r.length ∧ (∀ j, j < spotI r x → r.getD j 0 < x) ∧ (∀ j, spotI r x ≤ j → j < r.length → x < r.getD j 0) ∧
    (∀ t, r ≠ [] → insR (r :: t) x = if spotI r x < r.length then (r.set (spotI r x) x :: (insR t (r.getD (spotI r x) 0)).1, (insR t (r.getD (spotI r x) 0)).2 + 1) else ((r ++ [x]) :: t, 0)) := by
  rcases row_cases h hx with ⟨L, b, H, rfl, h1, h2⟩ | h1
  · obtain ⟨g1, g2, g3, g4⟩ := split_get (L := L) (H := H) (b := b)
    rw [spot_at h h1 h2]
    refine ⟨Nat.le_of_lt g3, fun j hj => ?_, fun j hj hl => ?_, fun t _ => ?_⟩
    · rw [g4 j hj]; exact h1 _ (getD_mem hj)
    · by_cases e : j = L.length
      · rw [e, g1]; exact h2
      · have := inc_get h (i := L.length) (j := j) (by lia) hl
        rw [g1] at this; lia
    · rw [if_pos g3, ins_bump h h1 h2, g1, g2]
  · have hs : spotI r x = r.length := by
      unfold spotI
      rw [List.filter_eq_self.mpr fun a ha => by simp [h1 a ha]]
    rw [hs]
    refine ⟨Nat.le_refl _, fun j hj => h1 _ (getD_mem hj), fun j hj hl => by lia, fun t hne => ?_⟩
    rw [if_neg (Nat.lt_irrefl _), ins_app hne h1]
theorem ins_cst : ∀ {t : Tb} {x : Int}, Tok t → Cst t → x ∉ t.flatten → Cst (insR t x).1
  | [], x, _, _, _ => ⟨fun s h => by simp [insR] at h, trivial⟩
  | R :: t, x, h, hc, hx => by
    have hR := h.head
    rw [List.flatten_cons, List.mem_append, not_or] at hx
    obtain ⟨r1, r2, r3, r4⟩ := row_at hR.2 hx.1
    rw [r4 t hR.1]
    by_cases hs : spotI R x < R.length
    · rw [if_pos hs]
      have hb := h.out (getD_mem hs)
      generalize hsd : spotI R x = s at *
      have hxb := r3 s (Nat.le_refl _) hs
      generalize hbd : R.getD s 0 = b at *
      refine ⟨fun S' hS' => ?_, ins_cst h.tail hc.2 hb⟩
      cases t with
      | nil =>
        simp [insR] at hS'
        subst hS'
        refine ⟨by simp; have := List.length_pos_iff.mpr hR.1; lia, fun j hj => ?_⟩
        obtain rfl : j = 0 := by simpa using hj
        rw [getD_set hs]
        split
        · simpa using hxb
        · have := r2 0 (by lia); simp at this ⊢; lia
      | cons S t =>
        have hS := h.tail.head
        have hD := hc.1 S rfl
        rw [List.flatten_cons, List.mem_append, not_or] at hb
        obtain ⟨q1, q2, q3, q4⟩ := row_at hS.2 hb.1
        rw [q4 t hS.1] at hS'
        have hs2 : spotI S b ≤ s := by
          rcases Nat.lt_or_ge s (spotI S b) with hh | hh
          · have := q2 s hh
            have := hD.2 s (by lia)
            lia
          · exact hh
        generalize spotI S b = s2 at *
        by_cases hs3 : s2 < S.length
        · rw [if_pos hs3] at hS'
          simp at hS'
          subst hS'
          refine ⟨by simp; exact hD.1, fun j hj => ?_⟩
          rw [List.length_set] at hj
          rw [getD_set hs, getD_set hs3]
          have := hD.2 j hj
          by_cases e1 : s = j
          · rw [if_pos e1]
            subst e1
            split <;> lia
          · rw [if_neg e1]
            split
            · rename_i e2; subst e2
              have := r2 s2 (by lia); lia
            · exact this
        · rw [if_neg hs3] at hS'
          simp at hS'
          subst hS'
          have := hD.1
          refine ⟨by simp; lia, fun j hj => ?_⟩
          rw [List.length_append, List.length_singleton] at hj
          rw [getD_set hs, getD_snoc]
          by_cases e0 : j < S.length
          · rw [if_pos e0]
            have := hD.2 j e0
            split
            · rename_i e1; subst e1; lia
            · exact this
          · rw [if_neg e0, if_pos (show j = S.length by lia)]
            split
            · exact hxb
            · have := r2 j (by lia); lia
    · rw [if_neg hs]
      refine ⟨fun S hS => ?_, hc.2⟩
      have hD := hc.1 S hS
      refine ⟨by simp; have := hD.1; lia, fun j hj => ?_⟩
      rw [getD_snoc, if_pos (by have := hD.1; lia)]
      exact hD.2 j hj
noncomputable def Corner (t : Tb) (d : Nat) : Prop := d < t.length ∧ ∀ s, t[d + 1]? = some s → s.length < (t.getD d []).length
theorem set_perm {r : List Int} {i : Nat} {y : Int} (h : i < r.length) : (r.getD i 0 :: r.set i y).Perm (y :: r) := by
  have e : r = r.take i ++ r.getD i 0 :: r.drop (i + 1) := by
    rw [List.getD_eq_getElem?_getD, List.getElem?_eq_getElem h, Option.getD_some, List.getElem_cons_drop, List.take_append_drop]
  have e2 : r.set i y = r.take i ++ y :: r.drop (i + 1) := by rw [List.set_eq_take_append_cons_drop, if_pos h]
  rw [e2]
  conv => rhs; rw [e]
  have p1 : (r.getD i 0 :: (r.take i ++ y :: r.drop (i + 1))).Perm (r.getD i 0 :: y :: (r.take i ++ r.drop (i + 1))) := List.Perm.cons _ List.perm_middle
  have p2 : (y :: (r.take i ++ r.getD i 0 :: r.drop (i + 1))).Perm (y :: r.getD i 0 :: (r.take i ++ r.drop (i + 1))) := List.Perm.cons _ List.perm_middle
  exact p1.trans ((List.Perm.swap ..).trans p2.symm)
theorem rev_ins : ∀ {t : Tb} {d : Nat}, Tok t → Cst t → Corner t d → ∃ t0 x, Tok t0 ∧ Cst t0 ∧ x ∉ t0.flatten ∧ insR t0 x = (t, d)
  | [], d, _, _, h => absurd h.1 (by simp)
  | R :: t, 0, h, hc, hd => by
    have hR := h.head
    rcases List.eq_nil_or_concat R with rfl | ⟨R0, x, rfl⟩
    · exact absurd rfl hR.1
    · rw [List.concat_eq_append] at *
      have hcor := hd.2
      have hlt : ∀ a ∈ R0, a < x := fun a ha => (List.pairwise_append.mp hR.2).2.2 a ha x (by simp)
      have hnd := h.nd
      rw [List.flatten_cons, List.append_assoc] at hnd
      have hp : (R0 ++ ([x] ++ t.flatten)).Perm (x :: (R0 ++ t.flatten)) := List.perm_middle
      rw [hp.nodup_iff, List.nodup_cons] at hnd
      cases R0 with
      | nil =>
        cases t with
        | nil => exact ⟨[], x, ⟨by simp, by simp, by simp⟩, trivial, by simp, rfl⟩
        | cons S t =>
          have : S.length < 1 := hcor S rfl
          have h2 := List.length_pos_iff.mpr (h.ne S (.tail _ (.head _)))
          lia
      | cons a R0 =>
        refine ⟨(a :: R0) :: t, x, ⟨List.forall_mem_cons.mpr ⟨by simp, h.tail.ne⟩, List.forall_mem_cons.mpr ⟨(List.pairwise_append.mp hR.2).1, h.tail.inc⟩, by rw [List.flatten_cons]; exact hnd.2⟩, ⟨fun S hS => ?_, hc.2⟩, by rw [List.flatten_cons]; exact hnd.1, ins_app (by simp) hlt⟩
        have hD := hc.1 S hS
        have hl : S.length < ((a :: R0) ++ [x]).length := by
          cases t with
          | nil => simp at hS
          | cons S2 t =>
            simp at hS; subst hS
            have := hcor S2 rfl
            simpa using this
        rw [List.length_append, List.length_singleton] at hl
        refine ⟨by lia, fun j hj => ?_⟩
        have := hD.2 j hj
        rw [getD_snoc, if_pos (by lia)] at this
        exact this
  | R :: t, d + 1, h, hc, hd => by
    have hR := h.head
    obtain ⟨t0, y, o1, o2, o3, o4⟩ := rev_ins h.tail hc.2 (d := d) ⟨by have := hd.1; simpa using this, fun s hs => by have := hd.2 s (by simpa using hs); simpa using this⟩
    obtain ⟨f1, f2, f3, f4⟩ := ins_facts o1 o3
    rw [o4] at f2
    dsimp only at f2
    have hyt : y ∈ t.flatten := f2.mem_iff.mpr (.head _)
    have hyR : y ∉ R := fun q => h.out q hyt
    obtain ⟨r1, r2, r3, r4⟩ := row_at hR.2 hyR
    -- the head of t, before and after
    have key : ∃ S s2, t.head? = some S ∧ s2 < S.length ∧ S.getD s2 0 = y ∧ ∀ S0, t0.head? = some S0 → S0.length ≤ S.length ∧ (∀ j, j < S0.length → j ≠ s2 → S0.getD j 0 = S.getD j 0) ∧ (s2 < S0.length → y < S0.getD s2 0) := by
      cases t0 with
      | nil =>
        simp [insR] at o4
        obtain ⟨rfl, _⟩ := o4
        exact ⟨[y], 0, rfl, by simp, by simp, fun S0 hS0 => by simp at hS0⟩
      | cons S0 t0 =>
        have hS0 := o1.head
        rw [List.flatten_cons, List.mem_append, not_or] at o3
        obtain ⟨q1, q2, q3, q4⟩ := row_at hS0.2 o3.1
        rw [q4 t0 hS0.1] at o4
        by_cases hs3 : spotI S0 y < S0.length
        · rw [if_pos hs3] at o4
          have e := congrArg Prod.fst o4
          dsimp only at e
          subst e
          refine ⟨_, spotI S0 y, rfl, by rw [List.length_set]; exact hs3, by rw [getD_set hs3, if_pos rfl], fun S1 hS1 => ?_⟩
          simp at hS1; subst hS1
          exact ⟨by rw [List.length_set]; exact Nat.le_refl _, fun j hj hne => by rw [getD_set hs3, if_neg (Ne.symm hne)], fun _ => q3 _ (Nat.le_refl _) hs3⟩
        · rw [if_neg hs3] at o4
          have e := congrArg Prod.fst o4
          dsimp only at e
          subst e
          refine ⟨_, S0.length, rfl, by simp, by rw [getD_snoc, if_neg (Nat.lt_irrefl _), if_pos rfl], fun S1 hS1 => ?_⟩
          simp at hS1; subst hS1
          exact ⟨by simp, fun j hj hne => by rw [getD_snoc, if_pos hj], fun hh => absurd hh (Nat.lt_irrefl _)⟩
    obtain ⟨S, s2, k1, k2, k3, k4⟩ := key
    have hD := hc.1 S k1
    have hs2 : s2 < spotI R y := by
      rcases Nat.lt_or_ge s2 (spotI R y) with hh | hh
      · exact hh
      · have := r3 s2 hh (by have := hD.1; lia)
        have := hD.2 s2 k2
        lia
    have hSI := h.tail.inc S (List.mem_of_head? k1)
    generalize hsd : spotI R y - 1 = s at *
    have hsR : s < R.length := by lia
    have hspot : spotI R y = s + 1 := by lia
    rw [hspot] at r1 r2 r3 hs2
    have hxy := r2 s (by lia)
    have hgt : ∀ j, s < j → j < R.length → y < R.getD j 0 := fun j h1 h2 => r3 j (by lia) h2
    have hinc' : Inc (R.set s y) := inc_of fun i j hij hj => by
      rw [List.length_set] at hj
      rw [getD_set hsR, getD_set hsR]
      have := inc_get hR.2 hij hj
      split
      · rw [if_neg (by lia)]; exact hgt j (by lia) hj
      · split
        · exact r2 i (by lia)
        · exact this
    have hp : (R.getD s 0 :: ((R.set s y) :: t0).flatten).Perm ((R :: t).flatten) := by
      rw [List.flatten_cons, List.flatten_cons, ← List.cons_append]
      refine ((set_perm hsR).append_right _).trans ?_
      refine List.Perm.trans ?_ (f2.symm.append_left R)
      exact List.perm_middle.symm
    have hnd := h.nd
    rw [← hp.nodup_iff, List.nodup_cons] at hnd
    have hT : Tok ((R.set s y) :: t0) := ⟨List.forall_mem_cons.mpr ⟨fun e => by have := congrArg List.length e; rw [List.length_set] at this; exact hR.1 (List.eq_nil_of_length_eq_zero this), o1.ne⟩, List.forall_mem_cons.mpr ⟨hinc', o1.inc⟩, hnd.2⟩
    refine ⟨(R.set s y) :: t0, R.getD s 0, hT, ⟨fun S0 hS0 => ?_, o2⟩, hnd.1, ?_⟩
    · obtain ⟨z1, z2, z3⟩ := k4 S0 hS0
      refine ⟨by rw [List.length_set]; have := hD.1; lia, fun j hj => ?_⟩
      rw [getD_set hsR]
      have hDj := hD.2 j (by lia)
      split
      · rename_i e; subst e
        by_cases e2 : s = s2
        · subst e2; exact z3 hj
        · rw [z2 s hj e2, ← k3]
          exact inc_get hSI (by lia) (by lia)
      · by_cases e2 : j = s2
        · subst e2
          have := z3 hj; lia
        · rw [z2 j hj e2]; exact hDj
    · have hxR : R.getD s 0 ∉ R.set s y := fun q => hnd.1 (by rw [List.flatten_cons]; exact List.mem_append_left _ q)
      obtain ⟨w1, w2, w3, w4⟩ := row_at hinc' hxR
      have hw : spotI (R.set s y) (R.getD s 0) = s := by
        rcases Nat.lt_trichotomy (spotI (R.set s y) (R.getD s 0)) s with hh | hh | hh
        · have := w3 _ (Nat.le_refl _) (by rw [List.length_set]; lia)
          rw [getD_set hsR, if_neg (by lia)] at this
          have := inc_get hR.2 hh hsR
          lia
        · exact hh
        · have := w2 s hh
          rw [getD_set hsR, if_pos rfl] at this
          lia
      rw [w4 t0 (hT.ne _ (.head _)), hw, if_pos (by rw [List.length_set]; exact hsR), getD_set hsR, if_pos rfl, o4, List.set_set]
      congr 1
      congr 1
      rw [List.getD_eq_getElem?_getD, List.getElem?_eq_getElem hsR]
      simp
end Mine
end

section
set_option linter.unusedVariables false
set_option linter.unusedSimpArgs false
namespace Mine
theorem Dom.init {R S : List Int} {N : Int} (h : Dom R (S ++ [N])) : Dom R S := by
  refine ⟨by have := h.1; simp at this; lia, fun j hj => ?_⟩
  have := h.2 j (by simp; lia)
  rw [getD_snoc, if_pos hj] at this
  exact this
theorem unmark : ∀ {U : Tb}, Tok U → Cst U → U ≠ [] → ∃ U0 d N, U = markAt U0 d N ∧ Tok U0 ∧ Cst U0 ∧ d ≤ U0.length ∧ (∀ a ∈ U0.flatten, a < N) ∧ Corner U d
  | [], _, _, h => absurd rfl h
  | R :: t, h, hc, _ => by
    have hR := h.head
    rcases List.eq_nil_or_concat R with rfl | ⟨R0, N, rfl⟩
    · exact absurd rfl hR.1
    · rw [List.concat_eq_append] at *
      have hlt : ∀ a ∈ R0, a < N := fun a ha => (List.pairwise_append.mp hR.2).2.2 a ha N (by simp)
      have hnd := h.nd
      rw [List.flatten_cons, List.append_assoc] at hnd
      have hp : (R0 ++ ([N] ++ t.flatten)).Perm (N :: (R0 ++ t.flatten)) := List.perm_middle
      rw [hp.nodup_iff, List.nodup_cons] at hnd
      by_cases ht : t = []
      · subst ht
        cases R0 with
        | nil => exact ⟨[], 0, N, rfl, ⟨by simp, by simp, by simp⟩, trivial, Nat.le_refl _, by simp, by simp, fun s hs => by simp at hs⟩
        | cons a R0 =>
          refine ⟨[a :: R0], 0, N, by rw [markAt_zero], ⟨by simp, by simpa using (List.pairwise_append.mp hR.2).1, by simpa using hnd.2⟩, ⟨fun s hs => by simp at hs, trivial⟩, Nat.zero_le _, by simpa using hlt, by simp, fun s hs => by simp at hs⟩
      · obtain ⟨t0, d, M, rfl, o1, o2, o3, o4, o5⟩ := unmark h.tail hc.2 ht
        have hpt := (markAt_perm (M := M) o3).1
        have hMN : M ≠ N := fun e => hnd.1 (List.mem_append_right _ (hpt.mem_iff.mpr (by rw [e]; exact .head _)))
        have hmax : ∀ a ∈ (markAt t0 d M).flatten, a ≤ M := fun a ha => by
          rcases List.mem_cons.mp (hpt.mem_iff.mp ha) with rfl | ha
          · exact Int.le_refl _
          · have := o4 a ha; lia
        by_cases hMN2 : M < N
        · have hall : ∀ a ∈ (markAt t0 d M).flatten, a < N := fun a ha => by have := hmax a ha; lia
          have hcor : ∀ S, (markAt t0 d M).head? = some S → S.length < (R0 ++ [N]).length := fun S hS => by
            have hD := hc.1 S hS
            rcases Nat.lt_or_ge S.length (R0 ++ [N]).length with hh | hh
            · exact hh
            · exfalso
              have := hD.2 R0.length (by simp at hh; lia)
              rw [getD_snoc, if_neg (Nat.lt_irrefl _), if_pos rfl] at this
              have h2 := hall (S.getD R0.length 0) (List.mem_flatten.mpr ⟨S, List.mem_of_head? hS, getD_mem (by simp at hh; lia)⟩)
              lia
          have hR0 : R0 ≠ [] := by
            rintro rfl
            cases hm : markAt t0 d M with
            | nil => exact ht hm
            | cons S t =>
              have : S.length < 1 := hcor S (by rw [hm]; rfl)
              have h2 := List.length_pos_iff.mpr (h.ne S (by rw [hm]; exact .tail _ (.head _)))
              lia
          refine ⟨R0 :: markAt t0 d M, 0, N, by rw [markAt_zero], ⟨List.forall_mem_cons.mpr ⟨hR0, h.tail.ne⟩, List.forall_mem_cons.mpr ⟨(List.pairwise_append.mp hR.2).1, h.tail.inc⟩, by rw [List.flatten_cons]; exact hnd.2⟩, ⟨fun S hS => ?_, hc.2⟩, Nat.zero_le _, fun a ha => ?_, by simp, fun s hs => ?_⟩
          · have hD := hc.1 S hS
            have hl := hcor S hS
            rw [List.length_append, List.length_singleton] at hl
            refine ⟨by lia, fun j hj => ?_⟩
            have := hD.2 j hj
            rw [getD_snoc, if_pos (by lia)] at this
            exact this
          · rw [List.flatten_cons] at ha
            rcases List.mem_append.mp ha with ha | ha
            · exact hlt a ha
            · exact hall a ha
          · exact hcor s (by rw [List.head?_eq_getElem?]; simpa using hs)
        · refine ⟨(R0 ++ [N]) :: t0, d + 1, M, by rw [markAt_succ], ⟨List.forall_mem_cons.mpr ⟨by simp, o1.ne⟩, List.forall_mem_cons.mpr ⟨hR.2, o1.inc⟩, ?_⟩, ⟨fun S hS => ?_, o2⟩, by simpa using o3, fun a ha => ?_, by have := o5.1; simpa using this, fun s hs => by have := o5.2 s (by simpa using hs); simpa using this⟩
          · have := h.nd
            rw [List.flatten_cons] at this ⊢
            have hp2 : ((R0 ++ [N]) ++ (markAt t0 d M).flatten).Perm (M :: ((R0 ++ [N]) ++ t0.flatten)) := (hpt.append_left _).trans List.perm_middle
            rw [hp2.nodup_iff, List.nodup_cons] at this
            exact this.2
          · cases t0 with
            | nil => simp at hS
            | cons S0 t0 =>
              simp at hS; subst hS
              cases d with
              | zero =>
                rw [markAt_zero] at hc
                exact (hc.1 _ rfl).init
              | succ d =>
                rw [markAt_succ] at hc
                exact hc.1 _ rfl
          · rw [List.flatten_cons] at ha
            rcases List.mem_append.mp ha with ha | ha
            · rcases List.mem_append.mp ha with ha | ha
              · have := hlt a ha; lia
              · simp at ha; lia
            · exact o4 a ha
theorem incAt_inj : ∀ {a b : List Nat} {d : Nat}, (∀ v ∈ a, 0 < v) → (∀ v ∈ b, 0 < v) → d ≤ a.length → d ≤ b.length → incAt a d = incAt b d → a = b
  | [], [], _, _, _, _, _, _ => rfl
  | [], v :: b, d, _, hb, hd, _, e => by
    obtain rfl : d = 0 := Nat.le_zero.mp hd
    have := hb v (.head _)
    simp [incAt] at e; lia
  | v :: a, [], d, ha, _, _, hd, e => by
    obtain rfl : d = 0 := Nat.le_zero.mp hd
    have := ha v (.head _)
    simp [incAt] at e; lia
  | v :: a, w :: b, 0, _, _, _, _, e => by
    simp [incAt] at e
    rw [e.1, e.2]
  | v :: a, w :: b, d + 1, ha, hb, hd, hd2, e => by
    simp [incAt] at e
    rw [e.1, incAt_inj (fun u hu => ha u (.tail _ hu)) (fun u hu => hb u (.tail _ hu)) (by simpa using hd) (by simpa using hd2) e.2]
theorem len_pos {t : Tb} (h : ∀ r ∈ t, r ≠ []) : ∀ v ∈ t.map List.length, 0 < v := fun v hv => by
  obtain ⟨r, hr, rfl⟩ := List.mem_map.mp hv
  exact List.length_pos_iff.mpr (h r hr)
theorem corner_shape {T U : Tb} {d : Nat} (h : T.map List.length = U.map List.length) (hc : Corner U d) : Corner T d := by
  have hl := congrArg List.length h
  simp only [List.length_map] at hl
  have key : ∀ i, i < U.length → (T.getD i []).length = (U.getD i []).length := fun i hi => by
    have := congrArg (fun l => l[i]?) h
    simp only [List.getElem?_map, List.getElem?_eq_getElem (show i < T.length by lia), List.getElem?_eq_getElem hi, Option.map_some, Option.some.injEq] at this
    rw [List.getD_eq_getElem?_getD, List.getD_eq_getElem?_getD, List.getElem?_eq_getElem (show i < T.length by lia), List.getElem?_eq_getElem hi]
    exact this
  refine ⟨by have := hc.1; lia, fun s hs => ?_⟩
  have hd := (List.getElem?_eq_some_iff.mp hs).1
  have h1 := key (d + 1) (by lia)
  rw [List.getD_eq_getElem?_getD, hs] at h1
  rw [key d (by lia)]
  have h2 := hc.2 (U.getD (d + 1) []) (by rw [List.getD_eq_getElem?_getD, List.getElem?_eq_getElem (by lia)]; rfl)
  simp only [Option.getD_some] at h1
  lia
theorem surj : ∀ (n : Nat) {T U : Tb}, Tok T → Cst T → Tok U → Cst U → T.map List.length = U.map List.length → U.flatten.length = n → ∃ l, Bw l ∧ rsk2 l = (T, U)
  | 0, T, U, h1, h2, h3, h4, hs, hn => by
    have hU : U = [] := by
      cases U with
      | nil => rfl
      | cons r U =>
        have := List.length_pos_iff.mpr (h3.ne r (.head _))
        simp at hn; exact absurd hn.1 (h3.ne r (.head _))
    subst hU
    have hT : T = [] := by simpa using hs
    subst hT
    exact ⟨[], ⟨by simp, by simp⟩, rfl⟩
  | n + 1, T, U, h1, h2, h3, h4, hs, hn => by
    have hU : U ≠ [] := by rintro rfl; simp at hn
    obtain ⟨U0, d, N, rfl, o1, o2, o3, o4, o5⟩ := unmark h3 h4 hU
    obtain ⟨T0, x, p1, p2, p3, p4⟩ := rev_ins h1 h2 (corner_shape hs o5)
    obtain ⟨f1, f2, f3, f4⟩ := ins_facts p1 p3
    rw [p4] at f1 f2 f3 f4
    dsimp only at f1 f2 f3 f4
    obtain ⟨m1, m2⟩ := markAt_perm (M := N) o3
    have hsh : T0.map List.length = U0.map List.length := incAt_inj (len_pos p1.ne) (len_pos o1.ne) (by simpa using f1) (by simpa using o3) (by rw [← f3, hs, m2])
    obtain ⟨l, hl, e⟩ := surj n p1 p2 o1 o2 hsh (by have := m1.length_eq; simp only [List.length_cons] at this; lia)
    have R := hl.rk
    rw [e] at R
    refine ⟨l ++ [(N, x)], ⟨?_, ?_⟩, ?_⟩
    · rw [List.map_append]
      refine List.pairwise_append.mpr ⟨hl.lab, by simp, fun a ha c hc => ?_⟩
      simp at hc; subst hc
      exact o4 a (R.p2.mem_iff.mpr ha)
    · rw [List.map_append]
      refine List.nodup_append.mpr ⟨hl.let_, by simp, fun a ha c hc e => ?_⟩
      simp at hc; subst hc; subst e
      exact p3 (R.p1.mem_iff.mpr ha)
    · rw [rsk2_snoc, e]
      unfold ins2
      dsimp only
      rw [p4]
theorem mem_lab {w : List Int} {a b : Int} : (a, b) ∈ labW w ↔ ∃ i : Nat, a = i ∧ w[i]? = some b := by
  unfold labW natI
  constructor
  · intro h
    obtain ⟨i, hi, e⟩ := List.getElem_of_mem h
    simp at hi
    simp at e
    exact ⟨i, e.1.symm, by rw [List.getElem?_eq_getElem hi, e.2]⟩
  · rintro ⟨i, rfl, h⟩
    obtain ⟨hi, rfl⟩ := List.getElem?_eq_some_iff.mp h
    refine List.mem_iff_getElem.mpr ⟨i, by simp [hi], by simp⟩
theorem nodup_of_map {α β : Type} (f : α → β) : ∀ {l : List α}, (l.map f).Nodup → l.Nodup
  | [], _ => List.nodup_nil
  | a :: l, h => by
    rw [List.map_cons, List.nodup_cons] at h
    exact List.nodup_cons.mpr ⟨fun q => h.1 (List.mem_map_of_mem q), nodup_of_map f h.2⟩
theorem natI_nodup (n : Nat) : (natI n).Nodup := (natI_inc n).imp fun h => by lia
theorem lab_nodup (w : List Int) : (labW w).Nodup := nodup_of_map (·.1) (by rw [lab_1]; exact natI_nodup _)
theorem mem_natI {n : Nat} {x : Int} : x ∈ natI n ↔ ∃ i, i < n ∧ x = (i : Nat) := by
  unfold natI
  rw [List.mem_map]
  constructor
  · rintro ⟨i, hi, rfl⟩; exact ⟨i, List.mem_range.mp hi, rfl⟩
  · rintro ⟨i, hi, rfl⟩; exact ⟨i, List.mem_range.mpr hi, rfl⟩
theorem nodup_sub_perm {α : Type} : ∀ {l m : List α}, l.Nodup → (∀ a ∈ l, a ∈ m) → m.length ≤ l.length → l.Perm m
  | [], m, _, _, h => by rw [List.eq_nil_of_length_eq_zero (Nat.le_zero.mp h)]
  | a :: l, m, hn, hs, h => by
    obtain ⟨h1, h2⟩ := List.nodup_cons.mp hn
    obtain ⟨s, t, rfl⟩ := List.append_of_mem (hs a (.head _))
    have ih := nodup_sub_perm (l := l) (m := s ++ t) h2 (fun b hb => by
      rcases List.mem_append.mp (hs b (.tail _ hb)) with q | q
      · exact List.mem_append_left _ q
      · rcases List.mem_cons.mp q with rfl | q
        · exact absurd hb h1
        · exact List.mem_append_right _ q) (by simp at h ⊢; lia)
    exact (ih.cons a).trans List.perm_middle.symm
theorem swap_perm {v w : List Int} (hw : w.Nodup) (hl : v.length = w.length) (h : ∀ (i : Nat) (x : Int), v[i]? = some x → ∃ j : Nat, x = j ∧ w[j]? = some ((i : Nat) : Int)) : (labW v).Perm ((labW w).map Prod.swap) := by
  have hs : ∀ q, q ∈ labW v → q ∈ (labW w).map Prod.swap := by
    rintro ⟨a, b⟩ hq
    obtain ⟨i, rfl, hi⟩ := mem_lab.mp hq
    obtain ⟨j, rfl, hj⟩ := h i b hi
    exact List.mem_map.mpr ⟨((j : Int), (i : Int)), mem_lab.mpr ⟨j, rfl, hj⟩, rfl⟩
  have hnd : ((labW w).map Prod.swap).Nodup := nodup_of_map (·.1) (by rw [(swap_map _).1, lab_2]; exact hw)
  have hlen : ∀ u : List Int, (labW u).length = u.length := fun u => by unfold labW; rw [List.length_zip, natI_length, Nat.min_self]
  exact nodup_sub_perm (lab_nodup v) hs (by rw [List.length_map, hlen, hlen, hl]; exact Nat.le_refl _)
end Mine
end

section
set_option linter.unusedVariables false
set_option linter.unusedSimpArgs false
namespace Mine
theorem inc_perm_eq : ∀ {l m : List Int}, Inc l → Inc m → l.Perm m → l = m
  | [], m, _, _, h => by rw [h.symm.eq_nil]
  | a :: l, [], _, _, h => absurd h.eq_nil (by simp)
  | a :: l, b :: m, hl, hm, h => by
    obtain ⟨l1, l2⟩ := List.pairwise_cons.mp hl
    obtain ⟨m1, m2⟩ := List.pairwise_cons.mp hm
    have e : a = b := by
      rcases List.mem_cons.mp (h.mem_iff.mp (.head _)) with e | e
      · exact e
      · rcases List.mem_cons.mp (h.mem_iff.mpr (.head _)) with e2 | e2
        · exact e2.symm
        · have := m1 a e; have := l1 b e2; lia
    subst e
    rw [inc_perm_eq l2 m2 ((List.perm_cons a).mp h)]
noncomputable def invI (n : Nat) (w : List Int) : List Int := (natI n).map fun i => (w.idxOf i : Int)
theorem inv_ex {n : Nat} {w : List Int} (h : w.Perm (natI n)) : (invI n w).length = n ∧ (labW (invI n w)).Perm ((labW w).map Prod.swap) ∧ (invI n w).Perm (natI n) := by
  have hw : w.Nodup := h.nodup_iff.mpr (natI_nodup n)
  have hl : w.length = n := by rw [h.length_eq, natI_length]
  have h1 : (invI n w).length = n := by unfold invI; rw [List.length_map, natI_length]
  have h2 : (labW (invI n w)).Perm ((labW w).map Prod.swap) := by
    refine swap_perm hw (by rw [h1, hl]) fun i x hx => ?_
    have hi : i < n := by rw [← h1]; exact (List.getElem?_eq_some_iff.mp hx).1
    unfold invI natI at hx
    simp [hi] at hx
    have hm : (i : Int) ∈ w := h.mem_iff.mpr (mem_natI.mpr ⟨i, hi, rfl⟩)
    have hlt := List.idxOf_lt_length_of_mem hm
    exact ⟨w.idxOf (i : Int), hx.symm, by rw [List.getElem?_eq_getElem hlt, List.getElem_idxOf]⟩
  refine ⟨h1, h2, ?_⟩
  have := h2.map (·.2)
  rw [lab_2, (swap_map _).2, lab_1, hl] at this
  exact this
theorem sym_inv {n : Nat} {w : List Int} (h : w.Perm (natI n)) : rskW (invI n w) = swapT (rskW w) := by
  obtain ⟨h1, h2, h3⟩ := inv_ex h
  rw [rskW_lab _ rfl, rskW_lab _ rfl]
  exact sym _ rfl (Bw.of (h.nodup_iff.mpr (natI_nodup n))) (Bw.of (h3.nodup_iff.mpr (natI_nodup n))) h2
theorem twice_ex {n : Nat} {T : Tb} (h1 : Tok T) (h2 : Cst T) (hp : T.flatten.Perm (natI n)) (hn : n ≤ 60) : ∃ u : List Int, u.Perm (natI n) ∧ rskW u = (T, T) ∧ ∀ (i : Nat) (x : Int), u[i]? = some x → ∃ j : Nat, x = j ∧ u[j]? = some ((i : Nat) : Int) := by
  obtain ⟨l, hl, e⟩ := surj n h1 h2 h1 h2 rfl (by rw [hp.length_eq, natI_length])
  have R := hl.rk
  rw [e] at R
  have e1 : l.map (·.1) = natI n := inc_perm_eq hl.lab (natI_inc n) (R.p2.symm.trans hp)
  have hlen : l.length = n := by have := congrArg List.length e1; simpa [natI_length] using this
  have e2 : l = labW (l.map (·.2)) := by
    unfold labW
    rw [List.length_map, hlen, ← e1]
    exact List.zip_of_prod rfl rfl
  have hu : (l.map (·.2)).Perm (natI n) := R.p1.symm.trans hp
  have eu : rskW (l.map (·.2)) = (T, T) := by rw [rskW_lab _ rfl, ← e2, e]
  generalize l.map (·.2) = u at *
  refine ⟨u, hu, eu, fun i x hx => ?_⟩
  have ev := sym_inv hu
  rw [eu] at ev
  have ev : rskW (invI n u) = (T, T) := ev
  obtain ⟨v1, v2, v3⟩ := inv_ex hu
  have hul : u.length = n := by rw [hu.length_eq, natI_length]
  have nu := hu.nodup_iff.mpr (natI_nodup n)
  have nv := v3.nodup_iff.mpr (natI_nodup n)
  have a1 := (undo_full nu (by lia)).2
  have a2 := (undo_full nv (by lia)).2
  rw [eu, hul] at a1
  rw [ev, v1] at a2
  have huv : invI n u = u := a2.symm.trans a1
  rw [huv] at v2
  have hm : ((i : Int), x) ∈ (labW u).map Prod.swap := v2.mem_iff.mp (mem_lab.mpr ⟨i, rfl, hx⟩)
  obtain ⟨⟨a, b⟩, hq, e⟩ := List.mem_map.mp hm
  have e : (b, a) = ((i : Int), x) := e
  cases e
  obtain ⟨j, rfl, hj⟩ := mem_lab.mp hq
  exact ⟨j, rfl, hj⟩
structure Std (T : Tb) : Prop where
  ok : Tok T
  cst : Cst T
theorem rsk_cst : ∀ (n : Nat) {w : List Int}, w.length = n → w.Nodup → Cst (rskW w).1
  | 0, w, h, _ => by obtain rfl := List.eq_nil_of_length_eq_zero h; trivial
  | n + 1, w, h, hw => by
    rcases List.eq_nil_or_concat w with rfl | ⟨v, x, rfl⟩
    · simp at h
    · rw [List.concat_eq_append] at *
      have hv : v.Nodup := hw.sublist (List.sublist_append_left _ _)
      have R := (Bw.of hv).rk
      rw [← rskW_lab _ rfl] at R
      rw [rskW_snoc]
      refine ins_cst R.o1 (rsk_cst n (by simpa using h) hv) fun q => ?_
      have := R.p1.mem_iff.mp q
      rw [lab_2] at this
      exact (List.nodup_append.mp hw).2.2 x this x (by simp) rfl
theorem rsk_std {w : List Int} (hw : w.Nodup) : Std (rskW w).1 ∧ (rskW w).1.flatten.Perm w := by
  have R := (Bw.of hw).rk
  rw [← rskW_lab _ rfl] at R
  exact ⟨⟨R.o1, rsk_cst _ rfl hw⟩, by have := R.p1; rwa [lab_2] at this⟩
theorem rsk_std2 {n : Nat} {w : List Int} (h : w.Perm (natI n)) : Std (rskW w).2 ∧ (rskW w).2.flatten.Perm (natI n) := by
  have e := sym_inv h
  obtain ⟨_, _, v3⟩ := inv_ex h
  have := rsk_std (v3.nodup_iff.mpr (natI_nodup n))
  rw [e] at this
  exact ⟨this.1, this.2.trans v3⟩
end Mine
end

section
set_option linter.unusedVariables false
set_option linter.unusedSimpArgs false
namespace Mine
/-! merging lists that one row bears -/
theorem pick_ex : ∀ {o : List Int} {ls : Tb}, o.Nodup → (∀ l ∈ ls, l.Sublist o) → (∃ l ∈ ls, l ≠ []) → ∃ c, pick ls = some c
  | [], ls, _, hs, ⟨l, hl, hne⟩ => absurd (List.sublist_nil.mp (hs l hl)) hne
  | a :: o, ls, ho, hs, hex => by
    obtain ⟨o1, o2⟩ := List.nodup_cons.mp ho
    by_cases ha : ∃ l ∈ ls, a ∈ l
    · obtain ⟨l, hl, hal⟩ := ha
      have hh : l.head? = some a := by
        cases hs l hl with
        | cons _ h => exact absurd (h.subset hal) o1
        | cons_cons _ h => rfl
      have hf : free ls a = true := by
        unfold free
        rw [List.all_eq_true]
        intro r hr
        have : a ∉ r.tail := by
          cases hs r hr with
          | cons _ h => exact fun q => o1 (h.subset (List.mem_of_mem_tail q))
          | cons_cons _ h => exact fun q => o1 (h.subset q)
        simpa using this
      cases e : pick ls with
      | some c => exact ⟨c, rfl⟩
      | none =>
        unfold pick at e
        rw [List.find?_eq_none] at e
        exact absurd hf (e a (List.mem_filterMap.mpr ⟨l, hl, hh⟩))
    · refine pick_ex o2 (fun l hl => ?_) hex
      cases hs l hl with
      | cons _ h => exact h
      | cons_cons _ h => exact absurd ⟨_, hl, .head _⟩ ha
theorem strip1_sub (c : Int) (r : List Int) : (strip1 c r).Sublist r := by
  unfold strip1
  split
  · exact List.tail_sublist r
  · exact List.Sublist.refl _
theorem free_out {ls : Tb} {c : Int} (h : free ls c = true) {r : List Int} (hr : r ∈ ls) : c ∉ r.tail := by
  unfold free at h
  have := List.all_eq_true.mp h r hr
  simpa using this
theorem strip1_out {ls : Tb} {c : Int} (h : free ls c = true) {r : List Int} (hr : r ∈ ls) : c ∉ strip1 c r := by
  have h1 := free_out h hr
  unfold strip1
  split
  · exact h1
  · rename_i h2
    cases r with
    | nil => simp
    | cons a r =>
      rw [List.mem_cons, not_or]
      exact ⟨fun e => h2 (by rw [e]; rfl), h1⟩
theorem le_total {ls : Tb} {l : List Int} (h : l ∈ ls) : l.length ≤ total ls := by
  induction ls with
  | nil => cases h
  | cons a ls ih =>
    have e : total (a :: ls) = a.length + total ls := by simp [total]
    rcases List.mem_cons.mp h with rfl | h
    · lia
    · have := ih h; lia
theorem merge_ok : ∀ (n : Nat) {ls : Tb} {o : List Int}, total ls ≤ n → o.Nodup → (∀ l ∈ ls, l.Sublist o) →
    (∀ r ∈ (mrg ls).2, r = []) ∧ (mrg ls).1.Nodup ∧ (∀ l ∈ ls, l.Sublist (mrg ls).1) ∧ ∀ x ∈ (mrg ls).1, ∃ l ∈ ls, x ∈ l := by
  intro n
  induction n with
  | zero =>
    intro ls o hn ho hs
    have hall : ∀ l ∈ ls, l = [] := fun l hl => by
      have : l.length ≤ total ls := le_total hl
      exact List.eq_nil_of_length_eq_zero (by lia)
    have hp : pick ls = none := by
      cases e : pick ls with
      | none => rfl
      | some c =>
        obtain ⟨l, hl, hh⟩ := List.mem_filterMap.mp (pick_mem e)
        rw [hall l hl] at hh; cases hh
    rw [mrg_none hp]
    exact ⟨hall, List.nodup_nil, fun l hl => by rw [hall l hl]; exact List.Sublist.refl _, fun x hx => nomatch hx⟩
  | succ n ih =>
    intro ls o hn ho hs
    cases e : pick ls with
    | none =>
      rw [mrg_none e]
      have hall : ∀ l ∈ ls, l = [] := fun l hl => by
        cases l with
        | nil => rfl
        | cons a l =>
          obtain ⟨c, hc⟩ := pick_ex ho hs ⟨_, hl, by simp⟩
          rw [e] at hc; cases hc
      exact ⟨hall, List.nodup_nil, fun l hl => by rw [hall l hl]; exact List.Sublist.refl _, fun x hx => nomatch hx⟩
    | some c =>
      have hf := pick_free e
      have hlt := strip_lt (pick_mem e)
      obtain ⟨i1, i2, i3, i4⟩ := ih (ls := strip c ls) (o := o) (by lia) ho (fun l hl => by
        obtain ⟨r, hr, rfl⟩ := List.mem_map.mp hl
        exact (strip1_sub c r).trans (hs r hr))
      rw [mrg_some e]
      refine ⟨i1, List.nodup_cons.mpr ⟨fun q => ?_, i2⟩, fun l hl => ?_, fun x hx => ?_⟩
      · obtain ⟨l, hl, hx⟩ := i4 c q
        obtain ⟨r, hr, rfl⟩ := List.mem_map.mp hl
        exact strip1_out hf hr hx
      · have := i3 (strip1 c l) (List.mem_map_of_mem hl)
        unfold strip1 at this
        split at this
        · rename_i h
          cases l with
          | nil => simp at h
          | cons a l =>
            simp at h; subst h
            exact List.Sublist.cons_cons _ this
        · exact List.Sublist.cons _ this
      · rcases List.mem_cons.mp hx with rfl | hx
        · obtain ⟨l, hl, hh⟩ := List.mem_filterMap.mp (pick_mem e)
          exact ⟨l, hl, List.mem_of_head? hh⟩
        · obtain ⟨l, hl, hx⟩ := i4 x hx
          obtain ⟨r, hr, rfl⟩ := List.mem_map.mp hl
          exact ⟨r, hr, (strip1_sub c r).subset hx⟩
theorem up_merge : ∀ {o : List Int} {A B : Tb}, o.Nodup → (∀ l ∈ A ++ B, l.Sublist o) → A.flatten = o → (mrg (A ++ B)).1 = o ∧ ∀ r ∈ (mrg (A ++ B)).2, r = []
  | [], A, B, _, hs, hA => by
    have hall : ∀ l ∈ A ++ B, l = [] := fun l hl => List.sublist_nil.mp (hs l hl)
    have hp : pick (A ++ B) = none := by
      cases e : pick (A ++ B) with
      | none => rfl
      | some c =>
        obtain ⟨l, hl, hh⟩ := List.mem_filterMap.mp (pick_mem e)
        rw [hall l hl] at hh; cases hh
    rw [mrg_none hp]
    exact ⟨rfl, hall⟩
  | c :: o, A, B, ho, hs, hA => by
    obtain ⟨o1, o2⟩ := List.nodup_cons.mp ho
    -- the first list that is not empty starts with c
    have key : ∀ {A : Tb} {u : List Int}, A.flatten = c :: u → ∃ E l A2, A = E ++ (c :: l) :: A2 ∧ (∀ e ∈ E, e = []) ∧ l ++ A2.flatten = u := fun {A} => by
      induction A with
      | nil => intro u h; simp at h
      | cons a A ih =>
        intro u h
        cases a with
        | nil =>
          obtain ⟨E, l, A2, rfl, h1, h2⟩ := ih (u := u) (by simpa using h)
          exact ⟨[] :: E, l, A2, rfl, List.forall_mem_cons.mpr ⟨rfl, h1⟩, h2⟩
        | cons x a =>
          rw [List.flatten_cons, List.cons_append] at h
          obtain ⟨hx, h2⟩ := List.cons.inj h
          exact ⟨[], a, A, by rw [hx]; rfl, by simp, h2⟩
    obtain ⟨E, l, A2, rfl, hE, hl⟩ := key hA
    have hEh : E.filterMap List.head? = [] := by
      rw [List.filterMap_eq_nil_iff]
      intro e he
      rw [hE e he]; rfl
    have tl : ∀ r ∈ (E ++ (c :: l) :: A2) ++ B, c ∉ r.tail ∧ (strip1 c r).Sublist o := fun r hr => by
      cases hs r hr with
      | cons _ h =>
        have hc : c ∉ r := fun q => o1 (h.subset q)
        refine ⟨fun q => hc (List.mem_of_mem_tail q), (strip1_sub c r).trans h⟩
      | cons_cons _ h =>
        refine ⟨fun q => o1 (h.subset q), ?_⟩
        unfold strip1
        rw [List.head?_cons, if_pos rfl]
        exact h
    have hp : pick ((E ++ (c :: l) :: A2) ++ B) = some c := by
      unfold pick
      rw [List.append_assoc, List.filterMap_append, hEh, List.nil_append, List.cons_append, List.filterMap_cons]
      simp only [List.head?_cons]
      rw [List.find?_cons]
      have : free (E ++ ((c :: l) :: (A2 ++ B))) c = true := by
        unfold free
        rw [List.all_eq_true]
        intro r hr
        have := (tl r (by simpa using hr)).1
        simpa using this
      rw [this]
    rw [mrg_some hp]
    have hst : strip c ((E ++ (c :: l) :: A2) ++ B) = (E ++ l :: A2) ++ strip c B := by
      unfold strip
      rw [List.map_append]
      congr 1
      rw [List.map_append, List.map_cons]
      have e1 : E.map (strip1 c) = E := by
        conv => rhs; rw [← List.map_id E]
        refine List.map_congr_left fun e he => ?_
        rw [hE e he]; rfl
      have e2 : A2.map (strip1 c) = A2 := by
        conv => rhs; rw [← List.map_id A2]
        refine List.map_congr_left fun a ha => ?_
        have hca : c ∉ a := fun q => o1 (by rw [← hl]; exact List.mem_append_right _ (List.mem_flatten.mpr ⟨a, ha, q⟩))
        unfold strip1
        rw [if_neg]
        · rfl
        · intro q; exact hca (List.mem_of_head? q)
      rw [e1, e2]
      simp [strip1]
    rw [hst]
    have hEf : E.flatten = [] := List.flatten_eq_nil_iff.mpr hE
    obtain ⟨i1, i2⟩ := up_merge (o := o) (A := E ++ l :: A2) (B := strip c B) o2 (fun r hr => by
      rw [← hst] at hr
      obtain ⟨q, hq, rfl⟩ := List.mem_map.mp hr
      exact (tl q hq).2) (by rw [List.flatten_append, hEf, List.flatten_cons, ← hl]; rfl)
    exact ⟨by rw [i1], i2⟩
/-! columns, and the rows that they make -/
noncomputable def rowsC : Nat → Tb → Tb
  | 0, _ => []
  | h + 1, cs => if cs.filterMap List.head? = [] then [] else cs.filterMap List.head? :: rowsC h (cs.map List.tail)
theorem rowsC_nil : ∀ (h : Nat) {cs : Tb}, (∀ c ∈ cs, c = []) → rowsC h cs = []
  | 0, _, _ => rfl
  | h + 1, cs, hc => by
    rw [rowsC, if_pos]
    rw [List.filterMap_eq_nil_iff]
    intro c hm
    rw [hc c hm]; rfl
theorem rowsC_fuel : ∀ {h : Nat} {cs : Tb}, (∀ c ∈ cs, c.length ≤ h) → ∀ {k : Nat}, h ≤ k → rowsC k cs = rowsC h cs
  | 0, cs, hc, k, _ => rowsC_nil k fun c hm => List.eq_nil_of_length_eq_zero (Nat.le_zero.mp (hc c hm))
  | h + 1, cs, hc, 0, hk => absurd hk (by lia)
  | h + 1, cs, hc, k + 1, hk => by
    rw [rowsC, rowsC, rowsC_fuel (h := h) (cs := cs.map List.tail) (fun c hm => by
      obtain ⟨d, hd, rfl⟩ := List.mem_map.mp hm
      have := hc d hd
      rw [List.length_tail]; lia) (by lia)]
structure Cgood (cs : Tb) : Prop where
  inc : ∀ c ∈ cs, Inc c
  dom : cs.Pairwise Dom
theorem getD_tail (l : List Int) (j : Nat) : l.tail.getD j 0 = l.getD (j + 1) 0 := by cases l <;> simp
theorem Dom.tail {a b : List Int} (h : Dom a b) : Dom a.tail b.tail := by
  refine ⟨by rw [List.length_tail, List.length_tail]; have := h.1; lia, fun j hj => ?_⟩
  rw [List.length_tail] at hj
  rw [getD_tail, getD_tail]
  exact h.2 (j + 1) (by lia)
theorem Cgood.tails {cs : Tb} (h : Cgood cs) : Cgood (cs.map List.tail) := by
  refine ⟨fun c hc => ?_, ?_⟩
  · obtain ⟨d, hd, rfl⟩ := List.mem_map.mp hc
    exact (h.inc d hd).sublist (List.tail_sublist d)
  · rw [List.pairwise_map]
    exact h.dom.imp Dom.tail
theorem heads_inc {cs : Tb} (h : Cgood cs) : Inc (cs.filterMap List.head?) := by
  have := h.dom
  rw [Inc, List.pairwise_filterMap]
  refine this.imp fun {a b} hd x hx y hy => ?_
  cases a with
  | nil => simp at hx
  | cons a0 a =>
    cases b with
    | nil => simp at hy
    | cons b0 b =>
      simp at hx hy
      subst hx; subst hy
      have := hd.2 0 (by simp)
      simpa using this
theorem push : ∀ (h : Nat) {A B : Tb} {c : List Int} {x : Int}, Cgood (A ++ c :: B) → Cgood (A ++ (x :: c) :: B) → (∀ d ∈ A ++ c :: B, d.length ≤ h) → (insR (rowsC h (A ++ c :: B)) x).1 = rowsC (h + 1) (A ++ (x :: c) :: B)
  | h, A, B, c, x, g1, g2, hl => by
    have hA : ∀ a ∈ A, Dom a (x :: c) := fun a ha => (List.pairwise_append.mp g2.dom).2.2 a ha _ (.head _)
    have hAx : ∀ y ∈ A.filterMap List.head?, y < x := fun y hy => by
      obtain ⟨a, ha, e⟩ := List.mem_filterMap.mp hy
      have := (hA a ha).2 0 (by simp)
      cases a with
      | nil => simp at e
      | cons a0 a => simp at e this; lia
    have hAne : A ≠ [] → A.filterMap List.head? ≠ [] := fun hne e => by
      obtain ⟨a, A', rfl⟩ := List.exists_cons_of_ne_nil hne
      have h1 := (hA a (.head _)).1
      cases a with
      | nil => simp at h1
      | cons a0 a => simp at e
    have hB : ∀ b ∈ B, Dom c b := fun b hb => (List.pairwise_cons.mp (List.pairwise_append.mp g1.dom).2.1).1 b hb
    cases c with
    | nil =>
      have hBe : ∀ b ∈ B, b = [] := fun b hb => List.eq_nil_of_length_eq_zero (Nat.le_zero.mp (hB b hb).1)
      have hBh : B.filterMap List.head? = [] := by
        rw [List.filterMap_eq_nil_iff]
        intro b hb; rw [hBe b hb]; rfl
      have h1 : (A ++ [] :: B).filterMap List.head? = A.filterMap List.head? := by
        rw [List.filterMap_append, List.filterMap_cons]; simp [hBh]
      have h2 : (A ++ [x] :: B).filterMap List.head? = A.filterMap List.head? ++ [x] := by
        rw [List.filterMap_append, List.filterMap_cons]; simp [hBh]
      have h3 : (A ++ [x] :: B).map List.tail = (A ++ [] :: B).map List.tail := by simp
      by_cases hAe : A = []
      · subst hAe
        have h4 : ∀ d ∈ ([] :: B : Tb), d = [] := List.forall_mem_cons.mpr ⟨rfl, hBe⟩
        rw [List.nil_append, rowsC_nil h h4, rowsC, List.nil_append] at *
        rw [h2, if_neg (by simp), h3, rowsC_nil h (fun d hd => by
          obtain ⟨e, he, rfl⟩ := List.mem_map.mp hd
          rw [h4 e he]; rfl)]
        rfl
      · cases h with
        | zero =>
          obtain ⟨a, A', rfl⟩ := List.exists_cons_of_ne_nil hAe
          have h5 := hl a (by simp)
          have h6 := (hA a (.head _)).1
          simp at h6; lia
        | succ h =>
          rw [rowsC, rowsC, h1, h2, h3, if_neg (hAne hAe), if_neg (by simp), ins_app (hAne hAe) hAx]
          have hf := rowsC_fuel (h := h) (cs := (A ++ [] :: B).map List.tail) (k := h + 1) (fun d hd => by
            obtain ⟨e, he, rfl⟩ := List.mem_map.mp hd
            have := hl e he
            rw [List.length_tail]; lia) (by lia)
          rw [hf]
    | cons y ys =>
      cases h with
      | zero => have := hl (y :: ys) (by simp); simp at this
      | succ h =>
        have hxy : x < y := by
          have := g2.inc (x :: y :: ys) (by simp)
          exact (List.pairwise_cons.mp this).1 y (.head _)
        have hi := heads_inc g1
        rw [rowsC, rowsC]
        have h1 : (A ++ (y :: ys) :: B).filterMap List.head? = A.filterMap List.head? ++ y :: B.filterMap List.head? := by
          rw [List.filterMap_append, List.filterMap_cons]; rfl
        have h2 : (A ++ (x :: y :: ys) :: B).filterMap List.head? = A.filterMap List.head? ++ x :: B.filterMap List.head? := by
          rw [List.filterMap_append, List.filterMap_cons]; rfl
        rw [h1] at hi ⊢
        rw [h2, if_neg (by simp), if_neg (by simp), ins_bump hi hAx hxy]
        have t1 := g1.tails
        have t2 := g2.tails
        rw [List.map_append, List.map_cons] at t1 t2 ⊢
        rw [List.map_append, List.map_cons]
        have ih := push h (A := A.map List.tail) (B := B.map List.tail) (c := ys) (x := y) t1 t2 (fun d hd => by
          have : d ∈ (A ++ (y :: ys) :: B).map List.tail := by rw [List.map_append, List.map_cons]; exact hd
          obtain ⟨e, he, rfl⟩ := List.mem_map.mp this
          have := hl e he
          rw [List.length_tail]; lia)
        exact congrArg (List.cons _) ih
termination_by h => h
end Mine
end

section
set_option linter.unusedVariables false
set_option linter.unusedSimpArgs false
namespace Mine
noncomputable def flt (S c : List Int) : List Int := c.filter fun y => decide (y ∈ S)
theorem suffix_of {c w1 w2 : List Int} (hs : c.reverse.Sublist (w1 ++ w2)) (hn : (w1 ++ w2).Nodup) : ∃ k, k ≤ c.length ∧ flt w1 c = c.drop k ∧ ∀ y ∈ c.take k, y ∉ w1 := by
  obtain ⟨l1, l2, e, h1, h2⟩ := List.sublist_append_iff.mp hs
  have hc : c = l2.reverse ++ l1.reverse := by rw [← List.reverse_append, ← e, List.reverse_reverse]
  obtain ⟨n1, n2, n3⟩ := List.nodup_append.mp hn
  have hout : ∀ y ∈ l2.reverse, y ∉ w1 := fun y hy q => n3 y q y (h2.subset (List.mem_reverse.mp hy)) rfl
  refine ⟨l2.reverse.length, by rw [hc]; simp, ?_, ?_⟩
  · unfold flt
    rw [hc, List.filter_append, List.filter_eq_nil_iff.mpr (fun y hy => by simpa using hout y hy), List.filter_eq_self.mpr (fun y hy => by simpa using h1.subset (List.mem_reverse.mp hy)), List.drop_left, List.nil_append]
  · rw [hc, List.take_left]; exact hout
theorem pair_in {a b : Int} {w1 w2 : List Int} (hs : [a, b].Sublist (w1 ++ w2)) (hn : (w1 ++ w2).Nodup) (hb : b ∈ w1) : a ∈ w1 := by
  obtain ⟨l1, l2, e, h1, h2⟩ := List.sublist_append_iff.mp hs
  obtain ⟨n1, n2, n3⟩ := List.nodup_append.mp hn
  cases l1 with
  | nil =>
    rw [List.nil_append] at e
    subst e
    exact absurd rfl (n3 b hb b (h2.subset (by simp)))
  | cons x l1 =>
    rw [List.cons_append] at e
    obtain ⟨rfl, _⟩ := List.cons.inj e
    exact h1.subset (.head _)
theorem getD_drop (l : List Int) (k i : Nat) : (l.drop k).getD i 0 = l.getD (k + i) 0 := by
  rw [List.getD_eq_getElem?_getD, List.getD_eq_getElem?_getD, List.getElem?_drop]
theorem flt_dom {a b w1 w2 : List Int} (ha : Inc a) (hd : Dom a b) (hr : ∀ i, i < b.length → [a.getD i 0, b.getD i 0].Sublist (w1 ++ w2)) (hsa : a.reverse.Sublist (w1 ++ w2)) (hsb : b.reverse.Sublist (w1 ++ w2)) (hn : (w1 ++ w2).Nodup) : Dom (flt w1 a) (flt w1 b) := by
  obtain ⟨k, k1, k2, k3⟩ := suffix_of hsa hn
  obtain ⟨m, m1, m2, m3⟩ := suffix_of hsb hn
  rw [k2, m2]
  have hl := hd.1
  by_cases hm : m = b.length
  · rw [hm, List.drop_length]
    exact ⟨Nat.zero_le _, fun j hj => by simp at hj⟩
  · have hkm : k ≤ m := by
      have hb : b.getD m 0 ∈ w1 := by
        have : b.getD m 0 ∈ flt w1 b := by
          rw [m2, show b.getD m 0 = (b.drop m).getD 0 0 by rw [getD_drop]; rfl]
          exact getD_mem (by simp; lia)
        simpa using (List.mem_filter.mp this).2
      have ha2 := pair_in (hr m (by lia)) hn hb
      rcases Nat.lt_or_ge m k with h | h
      · exfalso
        refine k3 (a.getD m 0) ?_ ha2
        rw [List.getD_eq_getElem?_getD, List.getElem?_eq_getElem (by lia)]
        refine List.mem_iff_getElem.mpr ⟨m, by simp; lia, by simp⟩
      · exact h
    refine ⟨by rw [List.length_drop, List.length_drop]; lia, fun j hj => ?_⟩
    rw [List.length_drop] at hj
    rw [getD_drop, getD_drop]
    have h1 := hd.2 (m + j) (by lia)
    by_cases e : k + j = m + j
    · rw [e]; exact h1
    · have := inc_get ha (i := k + j) (j := m + j) (by lia) (by lia)
      lia
structure Ext (Cs : Tb) (w : List Int) : Prop where
  col : ∀ c ∈ Cs, c.reverse.Sublist w
  row : Cs.Pairwise fun a b => ∀ i, i < b.length → [a.getD i 0, b.getD i 0].Sublist w
theorem flt_good {Cs : Tb} {w1 w2 : List Int} (hg : Cgood Cs) (hE : Ext Cs (w1 ++ w2)) (hn : (w1 ++ w2).Nodup) : Cgood (Cs.map (flt w1)) := by
  refine ⟨fun c hc => ?_, ?_⟩
  · obtain ⟨d, hd, rfl⟩ := List.mem_map.mp hc
    exact (hg.inc d hd).sublist List.filter_sublist
  · rw [List.pairwise_map]
    refine List.Pairwise.imp_of_mem ?_ (List.pairwise_and_iff.mpr ⟨hg.dom, hE.row⟩)
    intro a b ha hb h
    exact flt_dom (hg.inc a ha) h.1 h.2 (hE.col a ha) (hE.col b hb) hn
theorem lin_pre {Cs : Tb} {w : List Int} {h : Nat} (hg : Cgood Cs) (hnd : Cs.flatten.Nodup) (hw : w.Nodup) (hm : ∀ x ∈ w, x ∈ Cs.flatten) (hE : Ext Cs w) (hh : ∀ c ∈ Cs, c.length ≤ h) : ∀ (n : Nat) {w1 w2 : List Int}, w1.length = n → w = w1 ++ w2 → (rskW w1).1 = rowsC h (Cs.map (flt w1))
  | 0, w1, w2, hn, e => by
    obtain rfl := List.eq_nil_of_length_eq_zero hn
    rw [rowsC_nil h fun c hc => ?_]
    · rfl
    · obtain ⟨d, hd, rfl⟩ := List.mem_map.mp hc
      simp [flt]
  | n + 1, w1, w2, hn, e => by
    rcases List.eq_nil_or_concat w1 with rfl | ⟨v, x, rfl⟩
    · simp at hn
    · rw [List.concat_eq_append] at *
      have e' : w = v ++ (x :: w2) := by rw [e]; simp
      have ih := lin_pre hg hnd hw hm hE hh n (w1 := v) (w2 := x :: w2) (by simpa using hn) e'
      have hx : x ∈ Cs.flatten := hm x (by rw [e]; simp)
      obtain ⟨c, hc, hxc⟩ := List.mem_flatten.mp hx
      obtain ⟨A, B, rfl⟩ := List.append_of_mem hc
      have g1 := flt_good (w1 := v) (w2 := x :: w2) hg (e' ▸ hE) (e' ▸ hw)
      have g2 := flt_good (w1 := v ++ [x]) (w2 := w2) hg (e ▸ hE) (e ▸ hw)
      have hn2 := hw
      rw [e'] at hn2
      obtain ⟨n1, n2, n3⟩ := List.nodup_append.mp hn2
      have hxv : x ∉ v := fun q => n3 x q x (.head _) rfl
      -- elsewhere x does not stand
      have hother : ∀ d, (d ∈ A ∨ d ∈ B) → x ∉ d := fun d hd q => by
        rw [List.flatten_append, List.flatten_cons] at hnd
        obtain ⟨_, d2, d3⟩ := List.nodup_append.mp hnd
        obtain ⟨_, _, d4⟩ := List.nodup_append.mp d2
        rcases hd with hd | hd
        · exact d3 x (List.mem_flatten.mpr ⟨d, hd, q⟩) x (List.mem_append_left _ hxc) rfl
        · exact d4 x hxc x (List.mem_flatten.mpr ⟨d, hd, q⟩) rfl
      have hsame : ∀ d, (d ∈ A ∨ d ∈ B) → flt (v ++ [x]) d = flt v d := fun d hd => by
        unfold flt
        refine List.filter_congr fun y hy => ?_
        have : y ≠ x := fun q => hother d hd (q ▸ hy)
        simp [this]
      have hcx : flt (v ++ [x]) c = x :: flt v c := by
        have hs := hE.col c (by simp)
        rw [e'] at hs
        obtain ⟨l1, l2, q1, q2, q3⟩ := List.sublist_append_iff.mp hs
        have hcc : c = l2.reverse ++ l1.reverse := by rw [← List.reverse_append, ← q1, List.reverse_reverse]
        have hx2 : x ∈ l2 := by
          rw [hcc] at hxc
          rcases List.mem_append.mp hxc with q | q
          · exact List.mem_reverse.mp q
          · exact absurd (q2.subset (List.mem_reverse.mp q)) hxv
        obtain ⟨m1, m2⟩ := List.nodup_cons.mp n2
        cases q3 with
        | cons _ q3 => exact absurd (q3.subset hx2) m1
        | cons_cons _ q3 =>
          rename_i l2
          have o1 : ∀ y ∈ l2.reverse, y ∉ v ∧ y ≠ x := fun y hy => by
            have := q3.subset (List.mem_reverse.mp hy)
            exact ⟨fun q => n3 y q y (.tail _ this) rfl, fun q => m1 (q ▸ this)⟩
          have o2 : ∀ y ∈ l1.reverse, y ∈ v := fun y hy => q2.subset (List.mem_reverse.mp hy)
          have f1 : l2.reverse.filter (fun y => decide (y ∈ v ++ [x])) = [] := List.filter_eq_nil_iff.mpr fun y hy => by have := o1 y hy; simp [this.1, this.2]
          have f2 : l2.reverse.filter (fun y => decide (y ∈ v)) = [] := List.filter_eq_nil_iff.mpr fun y hy => by have := o1 y hy; simp [this.1]
          have f3 : l1.reverse.filter (fun y => decide (y ∈ v ++ [x])) = l1.reverse := List.filter_eq_self.mpr fun y hy => by have := o2 y hy; simp [this]
          have f4 : l1.reverse.filter (fun y => decide (y ∈ v)) = l1.reverse := List.filter_eq_self.mpr fun y hy => by have := o2 y hy; simp [this]
          have f5 : [x].filter (fun y => decide (y ∈ v ++ [x])) = [x] := by simp
          have f6 : [x].filter (fun y => decide (y ∈ v)) = [] := by simp [hxv]
          unfold flt
          rw [hcc, List.reverse_cons, List.append_assoc, List.filter_append, List.filter_append, List.filter_append, List.filter_append, f1, f2, f3, f4, f5, f6]
          rfl
      have eA : A.map (flt (v ++ [x])) = A.map (flt v) := List.map_congr_left fun d hd => hsame d (.inl hd)
      have eB : B.map (flt (v ++ [x])) = B.map (flt v) := List.map_congr_left fun d hd => hsame d (.inr hd)
      have hlen : ∀ u, ∀ d ∈ (A ++ c :: B).map (flt u), d.length ≤ h := fun u d hd => by
        obtain ⟨d', hd', rfl⟩ := List.mem_map.mp hd
        have := hh d' hd'
        have := List.length_filter_le (fun y => decide (y ∈ u)) d'
        unfold flt; lia
      have l1 := hlen v
      have l2 := hlen (v ++ [x])
      rw [List.map_append, List.map_cons] at g1 g2 ih l1 l2 ⊢
      rw [eA, eB, hcx] at g2 l2 ⊢
      rw [rskW_snoc]
      show (insR (rskW v).1 x).1 = _
      rw [ih, push h g1 g2 l1, rowsC_fuel l2 (Nat.le_succ h)]
theorem lin_ext {Cs : Tb} {w : List Int} {h : Nat} (hg : Cgood Cs) (hnd : Cs.flatten.Nodup) (hw : w.Nodup) (hm : ∀ x, x ∈ w ↔ x ∈ Cs.flatten) (hE : Ext Cs w) (hh : ∀ c ∈ Cs, c.length ≤ h) : (rskW w).1 = rowsC h Cs := by
  rw [lin_pre hg hnd hw (fun x hx => (hm x).mp hx) hE hh _ rfl (List.append_nil w).symm]
  congr 1
  conv => rhs; rw [← List.map_id Cs]
  refine List.map_congr_left fun c hc => ?_
  unfold flt
  exact List.filter_eq_self.mpr fun y hy => by
    have := (hm y).mpr (List.mem_flatten.mpr ⟨c, hc, hy⟩)
    simp [this]
end Mine
end

section
set_option linter.unusedVariables false
set_option linter.unusedSimpArgs false
namespace Mine
theorem Dom.trans {a b c : List Int} (h1 : Dom a b) (h2 : Dom b c) : Dom a c := by
  refine ⟨Nat.le_trans h2.1 h1.1, fun j hj => ?_⟩
  have := h2.2 j hj
  have := h1.2 j (by have := h2.1; lia)
  lia
theorem Cst.pw : ∀ {t : Tb}, Cst t → t.Pairwise Dom
  | [], _ => List.Pairwise.nil
  | [r], _ => List.pairwise_singleton _ _
  | r :: s :: t, h => by
    have ih := Cst.pw h.2
    have h0 := h.1 s rfl
    refine List.pairwise_cons.mpr ⟨fun u hu => ?_, ih⟩
    rcases List.mem_cons.mp hu with rfl | hu
    · exact h0
    · exact h0.trans ((List.pairwise_cons.mp ih).1 u hu)
theorem colI_cons (r : List Int) (t : Tb) (c : Nat) : colI (r :: t) c = if c < r.length then r.getD c 0 :: colI t c else colI t c := by
  unfold colI
  rw [List.filter_cons]
  by_cases h : c < r.length
  · simp [h]
  · simp [h]
theorem colI_out {t : Tb} {c : Nat} (h : ∀ r ∈ t, r.length ≤ c) : colI t c = [] := by
  unfold colI
  rw [List.filter_eq_nil_iff.mpr fun r hr => by have := h r hr; simp; lia]; rfl
theorem fm_congr {α β : Type} {f g : α → Option β} : ∀ {l : List α}, (∀ a ∈ l, f a = g a) → l.filterMap f = l.filterMap g
  | [], _ => rfl
  | a :: l, h => by rw [List.filterMap_cons, List.filterMap_cons, h a (.head _), fm_congr fun b hb => h b (.tail _ hb)]
theorem heads_row (r : List Int) (f : Nat → List Int) : ∀ (m : Nat), r.length ≤ m → (∀ c, c < r.length → (f c).head? = some (r.getD c 0)) → (∀ c, r.length ≤ c → f c = []) → ((List.range m).map f).filterMap List.head? = r := by
  intro m hm h1 h2
  have hsplit : List.range m = List.range r.length ++ (List.range (m - r.length)).map (r.length + ·) := by
    rw [← List.range_add]; congr 1; lia
  rw [hsplit, List.map_append, List.filterMap_append]
  have e1 : ((List.range r.length).map f).filterMap List.head? = r := by
    rw [List.filterMap_map]
    have : (List.range r.length).filterMap (List.head? ∘ f) = (List.range r.length).map fun c => r.getD c 0 := by
      rw [← List.filterMap_eq_map]
      exact fm_congr fun c hc => h1 c (List.mem_range.mp hc)
    rw [this]
    exact List.ext_getElem (by simp) fun i g1 g2 => by simp at g1 ⊢; simp [g1]
  have e2 : ((List.map (fun x => r.length + x) (List.range (m - r.length))).map f).filterMap List.head? = [] := by
    rw [List.filterMap_eq_nil_iff]
    intro c hc
    obtain ⟨i, hi, rfl⟩ := List.mem_map.mp hc
    obtain ⟨k, hk, rfl⟩ := List.mem_map.mp hi
    rw [h2 _ (Nat.le_add_right _ _)]; rfl
  rw [e1, e2, List.append_nil]
theorem rows_back : ∀ {t : Tb} {h m : Nat}, t.Pairwise Dom → (∀ r ∈ t, r ≠ []) → t.length ≤ h → (∀ r ∈ t, r.length ≤ m) → rowsC h ((List.range m).map (colI t)) = t
  | [], h, m, _, _, _, _ => rowsC_nil h fun c hc => by
    obtain ⟨i, hi, rfl⟩ := List.mem_map.mp hc
    rfl
  | r :: t, 0, m, _, _, hh, _ => absurd hh (by simp)
  | r :: t, h + 1, m, hp, hne, hh, hm => by
    obtain ⟨p1, p2⟩ := List.pairwise_cons.mp hp
    have hr := hm r (.head _)
    have hout : ∀ c, r.length ≤ c → colI t c = [] := fun c hc => colI_out fun s hs => by have := (p1 s hs).1; lia
    have e1 : ((List.range m).map (colI (r :: t))).filterMap List.head? = r := heads_row r _ m hr (fun c hc => by rw [colI_cons, if_pos hc]; rfl) (fun c hc => by rw [colI_cons, if_neg (by lia)]; exact hout c hc)
    have e2 : ((List.range m).map (colI (r :: t))).map List.tail = (List.range m).map (colI t) := by
      rw [List.map_map]
      refine List.map_congr_left fun c _ => ?_
      show (colI (r :: t) c).tail = _
      rw [colI_cons]
      split
      · rfl
      · rename_i hc; rw [hout c (by lia)]; rfl
    rw [rowsC, e1, if_neg (hne r (.head _)), e2, rows_back p2 (fun s hs => hne s (.tail _ hs)) (by simpa using hh) (fun s hs => hm s (.tail _ hs))]
theorem colI_tails (t : Tb) (c : Nat) : colI (t.map List.tail) c = colI t (c + 1) := by
  induction t with
  | nil => rfl
  | cons r t ih =>
    rw [List.map_cons, colI_cons, colI_cons, ih, getD_tail, List.length_tail]
    by_cases h : c + 1 < r.length
    · rw [if_pos (by lia), if_pos h]
    · rw [if_neg (by lia), if_neg h]
theorem heads_col (t : Tb) : t.filterMap List.head? = colI t 0 := by
  induction t with
  | nil => rfl
  | cons r t ih =>
    rw [colI_cons, List.filterMap_cons]
    cases r with
    | nil => simp [ih]
    | cons a r => simp [ih]
theorem rowsC_cols : ∀ {h : Nat} {t : Tb}, t.Pairwise Dom → (t.getD 0 []).length ≤ h → rowsC h t = colsI t
  | 0, t, hp, hl => by
    unfold colsI
    rw [List.eq_nil_of_length_eq_zero (Nat.le_zero.mp hl)]; rfl
  | h + 1, t, hp, hl => by
    cases t with
    | nil => rfl
    | cons r t =>
      obtain ⟨p1, p2⟩ := List.pairwise_cons.mp hp
      rw [rowsC, heads_col]
      have e0 : (r :: t).getD 0 [] = r := rfl
      rw [e0] at hl
      cases r with
      | nil =>
        have : colI ([] :: t) 0 = [] := by
          rw [colI_cons, if_neg (by simp)]
          exact colI_out fun s hs => (p1 s hs).1
        rw [if_pos this]; rfl
      | cons a r =>
        have hne : colI ((a :: r) :: t) 0 ≠ [] := by rw [colI_cons, if_pos (by simp)]; simp
        have hpt : (((a :: r) :: t).map List.tail).Pairwise Dom := by
          rw [List.pairwise_map]; exact hp.imp Dom.tail
        rw [if_neg hne, rowsC_cols hpt (by simpa using hl)]
        unfold colsI
        rw [e0]
        have e1 : (List.map List.tail ((a :: r) :: t)).getD 0 [] = r := rfl
        rw [e1, List.length_cons, List.range_succ_eq_map]
        refine congrArg (List.cons _) ?_
        show List.map _ _ = List.map _ (List.map Nat.succ _)
        rw [List.map_map (l := List.range r.length)]
        exact List.map_congr_left fun c _ => colI_tails _ c
theorem colI_inc {t : Tb} (hp : t.Pairwise Dom) (c : Nat) : Inc (colI t c) := by
  unfold colI
  rw [Inc, List.pairwise_map]
  refine List.Pairwise.imp_of_mem ?_ (hp.sublist List.filter_sublist)
  intro a b ha hb hd
  have := (List.mem_filter.mp hb).2
  exact hd.2 c (by simpa using this)
theorem colI_dom : ∀ {t : Tb} {j k : Nat}, t.Pairwise Dom → (∀ r ∈ t, Inc r) → j < k → Dom (colI t j) (colI t k) ∧ ∀ i, i < (colI t k).length → ∃ r ∈ t, [(colI t j).getD i 0, (colI t k).getD i 0].Sublist r
  | [], j, k, _, _, _ => ⟨⟨Nat.le_refl _, fun i hi => by simp [colI] at hi⟩, fun i hi => by simp [colI] at hi⟩
  | r :: t, j, k, hp, hi, hjk => by
    obtain ⟨p1, p2⟩ := List.pairwise_cons.mp hp
    obtain ⟨d1, d2⟩ := colI_dom p2 (fun s hs => hi s (.tail _ hs)) hjk
    rw [colI_cons, colI_cons]
    by_cases hk : k < r.length
    · rw [if_pos hk, if_pos (by lia)]
      refine ⟨⟨by simp; exact d1.1, fun i hi2 => ?_⟩, fun i hi2 => ?_⟩
      · cases i with
        | zero => exact inc_get (hi r (.head _)) hjk hk
        | succ i => simpa using d1.2 i (by simpa using hi2)
      · cases i with
        | zero =>
          refine ⟨r, .head _, ?_⟩
          show [r.getD j 0, r.getD k 0].Sublist r
          have e : r = r.take (j + 1) ++ r.drop (j + 1) := (List.take_append_drop _ _).symm
          conv => rhs; rw [e]
          refine List.Sublist.append (l₁ := [r.getD j 0]) (r₁ := [r.getD k 0]) ?_ ?_
          · rw [List.singleton_sublist, List.getD_eq_getElem?_getD, List.getElem?_eq_getElem (by lia)]
            exact List.mem_iff_getElem.mpr ⟨j, by simp; lia, by simp⟩
          · rw [List.singleton_sublist, List.getD_eq_getElem?_getD, List.getElem?_eq_getElem hk]
            exact List.mem_iff_getElem.mpr ⟨k - (j + 1), by simp; lia, by simp; congr 1; lia⟩
        | succ i =>
          obtain ⟨s, hs, h⟩ := d2 i (by simpa using hi2)
          exact ⟨s, .tail _ hs, by simpa using h⟩
    · have e : colI t k = [] := colI_out fun s hs => by have := (p1 s hs).1; lia
      rw [if_neg hk, e]
      exact ⟨⟨Nat.zero_le _, fun i h => by simp at h⟩, fun i h => by simp at h⟩
theorem rowsC_perm : ∀ {h : Nat} {cs : Tb}, (∀ c ∈ cs, c.length ≤ h) → (rowsC h cs).flatten.Perm cs.flatten
  | 0, cs, hc => by
    rw [List.flatten_eq_nil_iff.mpr fun c hm => List.eq_nil_of_length_eq_zero (Nat.le_zero.mp (hc c hm))]
    exact List.Perm.refl _
  | h + 1, cs, hc => by
    have key : ∀ cs : Tb, (cs.filterMap List.head? ++ (cs.map List.tail).flatten).Perm cs.flatten := fun cs => by
      induction cs with
      | nil => exact List.Perm.refl _
      | cons c cs ih =>
        cases c with
        | nil => simpa [List.filterMap_cons] using ih
        | cons a c =>
          rw [List.filterMap_cons, List.map_cons, List.flatten_cons, List.flatten_cons]
          simp only [List.head?_cons, List.tail_cons, List.cons_append]
          refine List.Perm.cons a ?_
          have e : (cs.filterMap List.head? ++ (c ++ (cs.map List.tail).flatten)).Perm (c ++ (cs.filterMap List.head? ++ (cs.map List.tail).flatten)) := by
            rw [← List.append_assoc, ← List.append_assoc]
            exact List.perm_append_comm.append_right _
          exact e.trans (ih.append_left c)
    have ih := rowsC_perm (h := h) (cs := cs.map List.tail) (fun c hm => by
      obtain ⟨d, hd, rfl⟩ := List.mem_map.mp hm
      have := hc d hd
      rw [List.length_tail]; lia)
    rw [rowsC]
    split
    · rename_i e
      have := key cs
      rw [e, List.nil_append] at this
      have e2 : (cs.map List.tail).flatten = [] := List.flatten_eq_nil_iff.mpr fun c hm => by
        obtain ⟨d, hd, rfl⟩ := List.mem_map.mp hm
        have := List.filterMap_eq_nil_iff.mp e d hd
        cases d with
        | nil => rfl
        | cons a d => simp at this
      rw [e2] at this
      exact this
    · rw [List.flatten_cons]
      exact (ih.append_left _).trans (key cs)
theorem colI_len (t : Tb) (c : Nat) : (colI t c).length ≤ t.length := by
  unfold colI; rw [List.length_map]; exact List.length_filter_le _ _
theorem colI_sub : ∀ (t : Tb) (c : Nat), (colI t c).Sublist t.flatten
  | [], _ => List.Sublist.refl _
  | r :: t, c => by
    rw [colI_cons, List.flatten_cons]
    split
    · rename_i h
      exact List.Sublist.append (l₁ := [r.getD c 0]) (List.singleton_sublist.mpr (getD_mem h)) (colI_sub t c)
    · exact (colI_sub t c).trans (List.sublist_append_right _ _)
theorem colI_rev (t : Tb) (c : Nat) : (colI t c).reverse = colI t.reverse c := by
  unfold colI
  rw [← List.map_reverse, List.filter_reverse]
section
variable {T : Tb}
theorem Std.max (h : Std T) : ∀ r ∈ T, r.length ≤ (T.getD 0 []).length := by
  intro r hr
  cases T with
  | nil => cases hr
  | cons s t =>
    rcases List.mem_cons.mp hr with rfl | hr
    · exact Nat.le_refl _
    · exact ((List.pairwise_cons.mp h.cst.pw).1 r hr).1
theorem Std.back (h : Std T) {k : Nat} (hk : T.length ≤ k) : rowsC k (colsI T) = T := rows_back h.cst.pw h.ok.ne hk h.max
theorem Std.cperm (h : Std T) : (colsI T).flatten.Perm T.flatten := by
  have := rowsC_perm (h := T.length) (cs := colsI T) (fun c hc => by
    obtain ⟨i, hi, rfl⟩ := List.mem_map.mp hc
    exact colI_len T i)
  rw [h.back (Nat.le_refl _)] at this
  exact this.symm
theorem Std.cgood (h : Std T) : Cgood (colsI T) := by
  refine ⟨fun c hc => ?_, ?_⟩
  · obtain ⟨i, hi, rfl⟩ := List.mem_map.mp hc
    exact colI_inc h.cst.pw i
  · unfold colsI
    rw [List.pairwise_map]
    exact List.pairwise_lt_range.imp fun {a b} hab => (colI_dom h.cst.pw h.ok.inc hab).1
theorem Std.lists (h : Std T) : ∀ l ∈ listsI T, l.Sublist T.reverse.flatten := by
  intro l hl
  unfold listsI at hl
  rcases List.mem_append.mp hl with hl | hl
  · exact List.sublist_flatten_of_mem (List.mem_reverse.mpr hl)
  · obtain ⟨c, hc, rfl⟩ := List.mem_map.mp hl
    obtain ⟨i, hi, rfl⟩ := List.mem_map.mp hc
    rw [colI_rev]
    exact colI_sub _ _
theorem rev_flat (T : Tb) : T.reverse.flatten.Perm T.flatten := (List.reverse_perm T).flatten
theorem Std.ext (h : Std T) {w : List Int} (hw : w.Nodup) (hm : ∀ x, x ∈ w ↔ x ∈ T.flatten) (hs : ∀ l ∈ listsI T, l.Sublist w) : (rskW w).1 = T := by
  have hnd : (colsI T).flatten.Nodup := h.cperm.nodup_iff.mpr h.ok.nd
  have hE : Ext (colsI T) w := by
    refine ⟨fun c hc => hs _ (List.mem_append_right _ (List.mem_map_of_mem hc)), ?_⟩
    unfold colsI
    rw [List.pairwise_map]
    refine List.pairwise_lt_range.imp fun {a b} hab i hi => ?_
    obtain ⟨r, hr, hsub⟩ := (colI_dom h.cst.pw h.ok.inc hab).2 i hi
    exact hsub.trans (hs r (List.mem_append_left _ hr))
  have hl : ∀ c ∈ colsI T, c.length ≤ T.length := fun c hc => by
    obtain ⟨i, hi, rfl⟩ := List.mem_map.mp hc
    exact colI_len T i
  rw [lin_ext h.cgood hnd hw (fun x => (hm x).trans h.cperm.mem_iff.symm) hE hl, h.back (Nat.le_refl _)]
end
theorem perm_of_mem {α : Type} {l m : List α} (hl : l.Nodup) (hm : m.Nodup) (h : ∀ x, x ∈ l ↔ x ∈ m) : l.Perm m := by
  have key : ∀ {l m : List α}, l.Nodup → (∀ x ∈ l, x ∈ m) → l.length ≤ m.length := fun {l} => by
    induction l with
    | nil => intro m _ _; exact Nat.zero_le _
    | cons a l ih =>
      intro m hn hs
      obtain ⟨h1, h2⟩ := List.nodup_cons.mp hn
      obtain ⟨s, t, rfl⟩ := List.append_of_mem (hs a (.head _))
      have := ih (m := s ++ t) h2 fun b hb => by
        rcases List.mem_append.mp (hs b (.tail _ hb)) with q | q
        · exact List.mem_append_left _ q
        · rcases List.mem_cons.mp q with rfl | q
          · exact absurd hb h1
          · exact List.mem_append_right _ q
      simp at this ⊢; lia
  exact nodup_sub_perm hl (fun x hx => (h x).mp hx) (key hm fun x hx => (h x).mpr hx)
theorem Std.tab {T : Tb} {n : Nat} (h : Std T) (hp : T.flatten.length = n) (h0 : 0 < n) (hn : n ≤ 30) : TabOk T := by
  have htot : total T = n := by rw [total_eq, hp]
  obtain ⟨l1, l2⟩ := len_le_total h.ok.ne
  rw [htot] at l1 l2
  have hne : T ≠ [] := by rintro rfl; simp at hp; lia
  have h00 : (T.getD 0 []).length ≤ n := by
    obtain ⟨r, t, rfl⟩ := List.exists_cons_of_ne_nil hne
    exact l2 r (.head _)
  refine ⟨hne, by lia, fun r hr => by have := l2 r hr; lia, by simp [colsI]; simp at h00; lia, fun r hr => ?_, fun ls hls => ?_⟩
  · unfold listsI at hr
    rcases List.mem_append.mp hr with hr | hr
    · exact ⟨h.ok.ne r hr, by have := l2 r hr; lia⟩
    · obtain ⟨c, hc, rfl⟩ := List.mem_map.mp hr
      obtain ⟨i, hi, rfl⟩ := List.mem_map.mp hc
      have hi := List.mem_range.mp hi
      refine ⟨?_, by rw [List.length_reverse]; have := colI_len T i; lia⟩
      obtain ⟨r, t, rfl⟩ := List.exists_cons_of_ne_nil hne
      rw [colI_cons, if_pos (by simpa using hi)]
      simp
  · have hnd : T.reverse.flatten.Nodup := (rev_flat T).nodup_iff.mpr h.ok.nd
    obtain ⟨m1, m2, m3, m4⟩ := merge_ok _ (Nat.le_refl _) hnd (fun l hl => h.lists l (hls.mem_iff.mp hl))
    have hmem : ∀ x, x ∈ (mrg ls).1 ↔ x ∈ T.flatten := fun x => by
      constructor
      · intro hx
        obtain ⟨l, hl, hxl⟩ := m4 x hx
        exact (rev_flat T).mem_iff.mp ((h.lists l (hls.mem_iff.mp hl)).subset hxl)
      · intro hx
        obtain ⟨r, hr, hxr⟩ := List.mem_flatten.mp hx
        exact (m3 r (hls.mem_iff.mpr (List.mem_append_left _ hr))).subset hxr
    have hperm := perm_of_mem m2 h.ok.nd hmem
    refine ⟨m1, by rw [hperm.length_eq]; lia, h.ext m2 hmem fun l hl => m3 l (hls.mem_iff.mpr hl)⟩
theorem Std.up {T : Tb} (h : Std T) : (∀ r ∈ (mrg (upI T)).2, r = []) ∧ (mrg (upI T)).1 = T.reverse.flatten := by
  have hnd : T.reverse.flatten.Nodup := (rev_flat T).nodup_iff.mpr h.ok.nd
  have := up_merge (o := T.reverse.flatten) (A := T.reverse) (B := (colsI T).map List.reverse) hnd (fun l hl => ?_) rfl
  · exact ⟨this.2, this.1⟩
  · rcases List.mem_append.mp hl with hl | hl
    · exact h.lists l (List.mem_append_left _ (List.mem_reverse.mp hl))
    · exact h.lists l (List.mem_append_right _ hl)
end Mine
end

section
set_option linter.unusedVariables false
set_option linter.unusedSimpArgs false
namespace Mine
noncomputable def insL (t : Tb) (w : List Int) : Tb := w.foldl (fun t x => (insR t x).1) t
noncomputable def rF : List Int → List Int → List Int × List Int
  | R, [] => (R, [])
  | R, x :: w => if R ≠ [] ∧ x < lastI R then ((rF (R.set (spotI R x) x) w).1, R.getD (spotI R x) 0 :: (rF (R.set (spotI R x) x) w).2) else rF (R ++ [x]) w
theorem fold_rows : ∀ {w R : List Int} {t : Tb}, R ≠ [] → insL (R :: t) w = (rF R w).1 :: insL t (rF R w).2
  | [], R, t, h => rfl
  | x :: w, R, t, h => by
    show insL (insR (R :: t) x).1 w = _
    rw [insR, rF]
    by_cases hx : x < lastI R
    · rw [if_pos hx, if_pos ⟨h, hx⟩]
      have hne : R.set (spotI R x) x ≠ [] := fun e => h (List.eq_nil_of_length_eq_zero (by have := congrArg List.length e; rwa [List.length_set] at this))
      rw [fold_rows hne]
      rfl
    · rw [if_neg hx, if_neg (fun q => hx q.2), fold_rows (by simp)]
theorem rF_bump {L H : List Int} {b x : Int} {w : List Int} (h1 : ∀ a ∈ L, a < x) (h2 : ∀ a ∈ b :: H, x < a) : rF (L ++ b :: H) (x :: w) = ((rF (L ++ x :: H) w).1, b :: (rF (L ++ x :: H) w).2) := by
  have hl : x < lastI (L ++ b :: H) := by
    rcases List.eq_nil_or_concat H with rfl | ⟨H', c, rfl⟩
    · rw [lastI_snoc]; exact h2 b (.head _)
    · rw [show L ++ b :: (H'.concat c) = (L ++ b :: H') ++ [c] by simp, lastI_snoc]
      exact h2 c (by simp)
  have hs : spotI (L ++ b :: H) x = L.length := by
    unfold spotI
    rw [List.filter_append, List.filter_eq_self.mpr (fun a ha => by simp [h1 a ha]), List.filter_eq_nil_iff.mpr (fun a ha => by have := h2 a ha; simp; lia)]
    simp
  obtain ⟨g1, g2, g3, g4⟩ := split_get (L := L) (H := H) (b := b)
  rw [rF, if_pos ⟨by simp, hl⟩, hs, g1, g2]
theorem rF_app {R : List Int} {x : Int} {w : List Int} (h : ∀ a ∈ R, a < x) : rF R (x :: w) = rF (R ++ [x]) w := by
  rw [rF, if_neg]
  rintro ⟨h1, h2⟩
  have := last_lt h1 h
  lia
inductive KT : List Int → List Int → Prop
  | a {x y z : Int} : x < y → y < z → KT [y, x, z] [y, z, x]
  | b {x y z : Int} : x < y → y < z → KT [x, z, y] [z, x, y]
noncomputable def KS (u v : List Int) : Prop := KT u v ∨ KT v u
theorem row_split {x : Int} : ∀ {R : List Int}, Inc R → x ∉ R → ∃ L H, R = L ++ H ∧ (∀ a ∈ L, a < x) ∧ (∀ a ∈ H, x < a) := fun {R} h hx => by
  rcases row_cases h hx with ⟨L, b, H, rfl, h1, h2⟩ | h1
  · refine ⟨L, b :: H, rfl, h1, List.forall_mem_cons.mpr ⟨h2, fun a ha => ?_⟩⟩
    have := (inc_split h).2.2.2.1 a ha
    lia
  · exact ⟨R, [], by simp, h1, by simp⟩
theorem rF_b {R L H : List Int} {b x : Int} {w : List Int} {q : List Int × List Int} (hR : R = L ++ b :: H) (h1 : ∀ a ∈ L, a < x) (h2 : ∀ a ∈ b :: H, x < a) (hq : rF (L ++ x :: H) w = q) : rF R (x :: w) = (q.1, b :: q.2) := by
  subst hR; subst hq; exact rF_bump h1 h2
theorem rF_e {R R' : List Int} {x : Int} {w : List Int} {q : List Int × List Int} (h : ∀ a ∈ R, a < x) (hR : R ++ [x] = R') (hq : rF R' w = q) : rF R (x :: w) = q := by
  subst hR; subst hq; exact rF_app h
noncomputable def RowR (p q : List Int × List Int) : Prop := p.1 = q.1 ∧ (p.2 = q.2 ∨ KS p.2 q.2)
theorem RowR.eq {p q p' q' : List Int × List Int} (h1 : p = p') (h2 : q = q') (h : RowR p' q') : RowR p q := by subst h1; subst h2; exact h
theorem fa2 {p : Int → Prop} {L M : List Int} (h1 : ∀ a ∈ L, p a) (h2 : ∀ a ∈ M, p a) : ∀ a ∈ L ++ M, p a := fun a ha => (List.mem_append.mp ha).elim (h1 a) (h2 a)
theorem fac {p : Int → Prop} {b : Int} {L : List Int} (h1 : p b) (h2 : ∀ a ∈ L, p a) : ∀ a ∈ b :: L, p a := List.forall_mem_cons.mpr ⟨h1, h2⟩
theorem fan {p : Int → Prop} : ∀ a ∈ ([] : List Int), p a := fun _ h => nomatch h
theorem lts {L : List Int} {x y : Int} (h : ∀ a ∈ L, a < x) (q : x < y) : ∀ a ∈ L, a < y := fun a ha => Int.lt_trans (h a ha) q
theorem gts {L : List Int} {x y : Int} (h : ∀ a ∈ L, y < a) (q : x < y) : ∀ a ∈ L, x < a := fun a ha => Int.lt_trans q (h a ha)
theorem ap3 (L M : List Int) (x : Int) (S : List Int) : L ++ x :: (M ++ S) = (L ++ x :: M) ++ S := by rw [List.append_assoc, List.cons_append]
section
variable {P M S L H R : List Int} {p q x y z : Int} {w : List Int}
theorem comm1 (hP : ∀ a ∈ P, a < x) (hp : x < p) (hpz : p < z) (hM : ∀ a ∈ M, x < a ∧ a < z) (hS : ∀ a ∈ q :: S, z < a) :
    rF (P ++ p :: (M ++ q :: S)) (x :: z :: w) = ((rF ((P ++ x :: M) ++ z :: S) w).1, p :: q :: (rF ((P ++ x :: M) ++ z :: S) w).2) ∧
    rF (P ++ p :: (M ++ q :: S)) (z :: x :: w) = ((rF ((P ++ x :: M) ++ z :: S) w).1, q :: p :: (rF ((P ++ x :: M) ++ z :: S) w).2) := by
  have hxz := Int.lt_trans hp hpz
  have hMx : ∀ a ∈ M, x < a := fun a ha => (hM a ha).1
  have hMz : ∀ a ∈ M, a < z := fun a ha => (hM a ha).2
  have hSx := gts hS hxz
  exact ⟨rF_b rfl hP (fac hp (fa2 hMx hSx)) (rF_b (ap3 ..) (fa2 (lts hP hxz) (fac hxz hMz)) hS rfl),
    rF_b (ap3 ..) (fa2 (lts hP hxz) (fac hpz hMz)) hS (rF_b (ap3 ..).symm hP (fac hp (fa2 hMx (fac hxz fun a ha => hSx a (.tail _ ha)))) (congrArg (rF · w) (ap3 ..)))⟩
theorem comm2 (hP : ∀ a ∈ P, a < x) (hp : x < p) (hpz : p < z) (hM : ∀ a ∈ M, x < a ∧ a < z) :
    rF (P ++ p :: M) (x :: z :: w) = ((rF ((P ++ x :: M) ++ [z]) w).1, p :: (rF ((P ++ x :: M) ++ [z]) w).2) ∧
    rF (P ++ p :: M) (z :: x :: w) = ((rF ((P ++ x :: M) ++ [z]) w).1, p :: (rF ((P ++ x :: M) ++ [z]) w).2) := by
  have hxz := Int.lt_trans hp hpz
  have hMx : ∀ a ∈ M, x < a := fun a ha => (hM a ha).1
  have hMz : ∀ a ∈ M, a < z := fun a ha => (hM a ha).2
  exact ⟨rF_b rfl hP (fac hp hMx) (rF_e (fa2 (lts hP hxz) (fac hxz hMz)) rfl rfl),
    rF_e (fa2 (lts hP hxz) (fac hpz hMz)) rfl (rF_b (ap3 ..).symm hP (fac hp (fa2 hMx (fac hxz fan))) (congrArg (rF · w) (ap3 ..)))⟩
theorem core_a (hP : ∀ a ∈ P, a < x) (hp : x < p) (hpz : p < z) (hM : ∀ a ∈ M, x < a ∧ a < z) (hH : Inc H) (hxH : ∀ a ∈ H, x < a) (hz : z ∉ H) :
    (rF (P ++ p :: (M ++ H)) [x, z]).1 = (rF (P ++ p :: (M ++ H)) [z, x]).1 ∧ ((rF (P ++ p :: (M ++ H)) [x, z]).2 = (rF (P ++ p :: (M ++ H)) [z, x]).2 ∨ ∃ q, q ∈ H ∧ (rF (P ++ p :: (M ++ H)) [x, z]).2 = [p, q] ∧ (rF (P ++ p :: (M ++ H)) [z, x]).2 = [q, p]) := by
  obtain ⟨M1, S, rfl, h1, h2⟩ := row_split hH hz
  have hM' : ∀ a ∈ M ++ M1, x < a ∧ a < z := fa2 hM fun a ha => ⟨hxH a (List.mem_append_left _ ha), h1 a ha⟩
  rw [← List.append_assoc]
  cases S with
  | nil =>
    rw [List.append_nil]
    obtain ⟨e1, e2⟩ := comm2 (w := []) hP hp hpz hM'
    rw [e1, e2]
    exact ⟨rfl, .inl rfl⟩
  | cons q S =>
    obtain ⟨e1, e2⟩ := comm1 (w := []) hP hp hpz hM' h2
    rw [e1, e2]
    exact ⟨rfl, .inr ⟨q, List.mem_append_right _ (.head _), rfl, rfl⟩⟩
theorem core_a' (hP : ∀ a ∈ P, a < x) (hL : ∀ a ∈ L, x < a ∧ a < y) (hxy : x < y) (hyz : y < z) (hH : Inc H) (hyH : ∀ a ∈ H, y < a) (hz : z ∉ H) :
    ∃ p u v, p ≤ y ∧ rF ((P ++ L) ++ y :: H) [x, z] = u ∧ rF ((P ++ L) ++ y :: H) [z, x] = v ∧ u.1 = v.1 ∧ (u.2 = v.2 ∨ ∃ q, q ∈ H ∧ u.2 = [p, q] ∧ v.2 = [q, p]) := by
  cases L with
  | nil =>
    have c := core_a (M := []) hP hxy hyz fan hH (gts hyH hxy) hz
    exact ⟨y, _, _, Int.le_refl _, by rw [List.append_nil]; rfl, by rw [List.append_nil]; rfl, c⟩
  | cons p L =>
    have hp := hL p (.head _)
    have c := core_a (M := L ++ [y]) hP hp.1 (Int.lt_trans hp.2 hyz) (fa2 (fun a ha => ⟨(hL a (.tail _ ha)).1, Int.lt_trans (hL a (.tail _ ha)).2 hyz⟩) (fac ⟨hxy, hyz⟩ fan)) hH (gts hyH hxy) hz
    exact ⟨p, _, _, Int.le_of_lt hp.2, by rw [List.append_assoc, List.cons_append, List.append_cons L y H], by rw [List.append_assoc, List.cons_append, List.append_cons L y H], c⟩
theorem row_a (h : Inc R) (hx : x ∉ R) (hy : y ∉ R) (hz : z ∉ R) (hxy : x < y) (hyz : y < z) : RowR (rF R [y, x, z]) (rF R [y, z, x]) := by
  obtain ⟨L, H, rfl, h1, h2⟩ := row_split h hy
  obtain ⟨i1, i2, _⟩ := List.pairwise_append.mp h
  obtain ⟨P, Q, rfl, h3, h4⟩ := row_split i1 fun q => hx (List.mem_append_left _ q)
  have hQ : ∀ a ∈ Q, x < a ∧ a < y := fun a ha => ⟨h4 a ha, h1 a (List.mem_append_right _ ha)⟩
  cases H with
  | nil =>
    obtain ⟨p, u, v, _, e1, e2, f1, f2⟩ := core_a' h3 hQ hxy hyz .nil fan (fun q => nomatch q)
    rw [List.append_nil]
    refine RowR.eq (rF_e h1 rfl e1) (rF_e h1 rfl e2) ⟨f1, .inl ?_⟩
    rcases f2 with e | ⟨q, hq, _⟩
    · exact e
    · cases hq
  | cons c H =>
    obtain ⟨j1, j2⟩ := List.pairwise_cons.mp i2
    obtain ⟨p, u, v, hp, e1, e2, f1, f2⟩ := core_a' h3 hQ hxy hyz j2 (fun a ha => h2 a (.tail _ ha)) (fun q => hz (List.mem_append_right _ (.tail _ q)))
    refine RowR.eq (rF_b rfl h1 h2 e1) (rF_b rfl h1 h2 e2) ⟨f1, ?_⟩
    rcases f2 with e | ⟨q, hq, e3, e4⟩
    · exact .inl (congrArg (c :: ·) e)
    · dsimp only
      rw [e3, e4]
      exact .inr (.inl (KT.a (Int.lt_of_le_of_lt hp (h2 c (.head _))) (j1 q hq)))
theorem one_b (hP : ∀ a ∈ P, a < y) (hM : Inc M) (hy : y ∉ M) (hyz : y < z) (hMz : ∀ a ∈ M, a < z) (hS : ∀ a ∈ S, z < a) : ∃ r, (r = z ∨ r ∈ M) ∧ (rF ((P ++ M) ++ z :: S) [y]).2 = [r] := by
  obtain ⟨M1, M2, rfl, h1, h2⟩ := row_split hM hy
  cases M2 with
  | nil =>
    refine ⟨z, .inl rfl, congrArg Prod.snd (rF_b (L := P ++ M1) (b := z) (H := S) (by rw [List.append_nil]) (fa2 hP h1) (fac hyz (gts hS hyz)) rfl)⟩
  | cons r M2 =>
    refine ⟨r, .inr (List.mem_append_right _ (.head _)), congrArg Prod.snd (rF_b (L := P ++ M1) (b := r) (H := M2 ++ z :: S) (by simp only [List.append_assoc, List.cons_append]) (fa2 hP h1) ?_ rfl)⟩
    exact fac (h2 r (.head _)) (fa2 (fun a ha => h2 a (.tail _ ha)) (fac hyz (gts hS hyz)))
theorem row_b (h : Inc R) (hx : x ∉ R) (hy : y ∉ R) (hz : z ∉ R) (hxy : x < y) (hyz : y < z) : RowR (rF R [x, z, y]) (rF R [z, x, y]) := by
  obtain ⟨P, W, rfl, h1, h2⟩ := row_split h hx
  obtain ⟨_, i2, _⟩ := List.pairwise_append.mp h
  have hxz := Int.lt_trans hxy hyz
  have hPy : ∀ a ∈ P ++ [x], a < y := fa2 (lts h1 hxy) (fac hxy fan)
  have hPz : ∀ a ∈ P ++ [x], a < z := lts hPy hyz
  have one : ∀ a ∈ [z], x < a := fac hxz fan
  have oney : ∀ a ∈ [z], y < a := fac hyz fan
  cases W with
  | nil =>
    rw [List.append_nil]
    exact RowR.eq (rF_e h1 rfl (rF_e hPz rfl (rF_b rfl hPy oney rfl))) (rF_e (lts h1 hxz) rfl (rF_b rfl h1 one (rF_e hPy rfl rfl))) ⟨rfl, .inl rfl⟩
  | cons p W =>
    obtain ⟨j1, j2⟩ := List.pairwise_cons.mp i2
    have hp := h2 p (.head _)
    have hpz : p ≠ z := fun e => hz (e ▸ List.mem_append_right _ (.head _))
    by_cases q : p < z
    · obtain ⟨M, S, rfl, h3, h4⟩ := row_split j2 fun q => hz (List.mem_append_right _ (.tail _ q))
      have hM : ∀ a ∈ M, x < a ∧ a < z := fun a ha => ⟨h2 a (.tail _ (List.mem_append_left _ ha)), h3 a ha⟩
      cases S with
      | nil =>
        rw [List.append_nil]
        obtain ⟨e1, e2⟩ := comm2 (w := [y]) h1 hp q hM
        exact RowR.eq e1 e2 ⟨rfl, .inl rfl⟩
      | cons c S =>
        obtain ⟨e1, e2⟩ := comm1 (w := [y]) h1 hp q hM h4
        obtain ⟨r, hr, e⟩ := one_b (P := P ++ [x]) (M := M) hPy (List.pairwise_append.mp j2).1 (fun q => hy (List.mem_append_right _ (.tail _ (List.mem_append_left _ q)))) hyz h3 (fun a ha => h4 a (.tail _ ha))
        rw [show (P ++ [x]) ++ M = P ++ x :: M by rw [List.append_assoc]; rfl] at e
        refine RowR.eq e1 e2 ⟨rfl, .inr (.inl ?_)⟩
        dsimp only
        rw [e]
        have hc := h4 c (.head _)
        rcases hr with rfl | hr
        · exact KT.b q hc
        · exact KT.b (j1 r (List.mem_append_left _ hr)) (Int.lt_trans (h3 r hr) hc)
    · have hzp : z < p := by lia
      cases W with
      | nil => exact RowR.eq (rF_b rfl h1 h2 (rF_e hPz rfl (rF_b rfl hPy oney rfl))) (rF_b rfl (lts h1 hxz) (fac hzp fan) (rF_b rfl h1 one (rF_e hPy rfl rfl))) ⟨rfl, .inl rfl⟩
      | cons d W =>
        have hd := j1 d (.head _)
        have hdW : ∀ a ∈ d :: W, p < a := j1
        have hdz := gts hdW hzp
        have hdx := gts hdz hxz
        have hdy := gts hdz hyz
        have eA : ∀ H, P ++ x :: H = (P ++ [x]) ++ H := fun H => by rw [List.append_assoc]; rfl
        exact RowR.eq (rF_b rfl h1 h2 (rF_b (eA _) hPz hdz (rF_b rfl hPy (fac hyz fun a ha => hdy a (.tail _ ha)) rfl)))
          (rF_b rfl (lts h1 hxz) (fac hzp hdz) (rF_b rfl h1 (fac hxz hdx) (rF_b (eA _) hPy hdy rfl))) ⟨rfl, .inr (.inr (KT.a hzp hd))⟩
end
end Mine
end

section
set_option linter.unusedVariables false
set_option linter.unusedSimpArgs false
namespace Mine
theorem KT.row {R u v : List Int} (h : KT u v) (hR : Inc R) (hu : ∀ a ∈ u, a ∉ R) : RowR (rF R u) (rF R v) := by
  cases h with
  | a h1 h2 =>
    rename_i x y z
    exact row_a hR (hu x (by simp)) (hu y (by simp)) (hu z (by simp)) h1 h2
  | b h1 h2 =>
    rename_i x y z
    exact row_b hR (hu x (by simp)) (hu y (by simp)) (hu z (by simp)) h1 h2
theorem KT.perm {u v : List Int} (h : KT u v) : u.Perm v := by
  cases h with
  | a h1 h2 => exact List.Perm.cons _ (List.Perm.swap ..)
  | b h1 h2 => exact List.Perm.swap ..
theorem KS.perm {u v : List Int} (h : KS u v) : u.Perm v := h.elim KT.perm fun h => h.perm.symm
theorem KS.symm {u v : List Int} (h : KS u v) : KS v u := Or.symm h
theorem RowR.symm {p q : List Int × List Int} (h : RowR p q) : RowR q p := ⟨h.1.symm, h.2.imp Eq.symm KS.symm⟩
theorem KS.row {R u v : List Int} (h : KS u v) (hR : Inc R) (hu : ∀ a ∈ u, a ∉ R) : RowR (rF R u) (rF R v) := by
  rcases h with h | h
  · exact h.row hR hu
  · exact (h.row hR fun a ha => hu a (h.perm.mem_iff.mp ha)).symm
theorem rF_mem : ∀ {w R : List Int} {b : Int}, b ∈ (rF R w).2 → b ∈ R ∨ b ∈ w
  | [], R, b, h => by simp [rF] at h
  | x :: w, R, b, h => by
    rw [rF] at h
    split at h
    · rename_i hc
      rcases List.mem_cons.mp h with rfl | h
      · refine .inl ?_
        by_cases hs : spotI R x < R.length
        · exact getD_mem hs
        · exfalso
          have hl : spotI R x < R.length := spotI_lt hc.2 hc.1
          exact hs hl
      · rcases rF_mem h with h | h
        · rcases List.mem_or_eq_of_mem_set h with h | h
          · exact .inl h
          · exact .inr (by rw [h]; exact .head _)
        · exact .inr (.tail _ h)
    · rcases rF_mem h with h | h
      · rcases List.mem_append.mp h with h | h
        · exact .inl h
        · exact .inr (by rw [List.mem_singleton.mp h]; exact .head _)
      · exact .inr (.tail _ h)
theorem KT.empty {u v : List Int} (h : KT u v) : insL [] u = insL [] v := by
  cases h with
  | a h1 h2 =>
    rename_i x y z
    have h3 : x < z := by lia
    have e1 : ¬ z < x := by lia
    have e2 : ¬ z < y := by lia
    have e3 : ¬ y < x := by lia
    simp [insL, insR, lastI, spotI, h1, h2, h3, e1, e2, e3, List.filter_cons]
  | b h1 h2 =>
    rename_i x y z
    have h3 : x < z := by lia
    have e1 : ¬ z < x := by lia
    have e2 : ¬ y < x := by lia
    have e3 : ¬ z < y := by lia
    simp [insL, insR, lastI, spotI, h1, h2, h3, e1, e2, e3, List.filter_cons]
theorem KS.ins : ∀ {t : Tb} {u v : List Int}, Tok t → KS u v → (∀ a ∈ u, a ∉ t.flatten) → insL t u = insL t v
  | [], u, v, _, h, _ => h.elim KT.empty fun h => h.empty.symm
  | R :: t, u, v, ht, h, hu => by
    have hR := ht.head
    have hr := h.row hR.2 fun a ha q => hu a ha (by rw [List.flatten_cons]; exact List.mem_append_left _ q)
    rw [fold_rows hR.1, fold_rows hR.1, hr.1]
    congr 1
    rcases hr.2 with e | e
    · rw [e]
    · refine KS.ins ht.tail e fun a ha q => ?_
      rcases rF_mem ha with ha | ha
      · exact ht.out ha q
      · exact hu a ha (by rw [List.flatten_cons]; exact List.mem_append_right _ q)
inductive Kn : List Int → List Int → Prop
  | refl (w : List Int) : Kn w w
  | step (a b : List Int) {u v w : List Int} : KS u v → Kn (a ++ v ++ b) w → Kn (a ++ u ++ b) w
theorem Kn.trans {u v w : List Int} (h1 : Kn u v) (h2 : Kn v w) : Kn u w := by
  induction h1 with
  | refl => exact h2
  | step a b hs _ ih => exact .step a b hs (ih h2)
theorem Kn.one {u v : List Int} (a b : List Int) (h : KS u v) : Kn (a ++ u ++ b) (a ++ v ++ b) := .step a b h (.refl _)
theorem Kn.ctx {u v : List Int} (h : Kn u v) (a b : List Int) : Kn (a ++ u ++ b) (a ++ v ++ b) := by
  induction h with
  | refl => exact .refl _
  | step c d hs _ ih =>
    rename_i p q w _
    have e1 : a ++ (c ++ p ++ d) ++ b = (a ++ c) ++ p ++ (d ++ b) := by simp
    have e2 : a ++ (c ++ q ++ d) ++ b = (a ++ c) ++ q ++ (d ++ b) := by simp
    rw [e1]
    rw [e2] at ih
    exact .step _ _ hs ih
theorem Kn.perm {u v : List Int} (h : Kn u v) : u.Perm v := by
  induction h with
  | refl => exact List.Perm.refl _
  | step a b hs _ ih => exact ((hs.perm.append_left a).append_right b).trans ih
theorem KT.rev {u v : List Int} (h : KT u v) : KT v.reverse u.reverse := by
  cases h with
  | a h1 h2 => exact KT.b h1 h2
  | b h1 h2 => exact KT.a h1 h2
theorem KS.rev {u v : List Int} (h : KS u v) : KS u.reverse v.reverse := h.elim (fun h => .inr h.rev) fun h => .inl h.rev
theorem Kn.rev {u v : List Int} (h : Kn u v) : Kn u.reverse v.reverse := by
  induction h with
  | refl => exact .refl _
  | step a b hs _ ih =>
    rename_i p q w _
    have e : ∀ p : List Int, (a ++ p ++ b).reverse = b.reverse ++ p.reverse ++ a.reverse := fun p => by simp
    rw [e] at ih ⊢
    exact .step _ _ hs.rev ih
theorem rsk_insL (w : List Int) : (rskW w).1 = insL [] w := by
  have key : ∀ (w : List Int) (t : Tb × Tb), (w.foldl insP t).1 = insL t.1 w := fun w => by
    induction w with
    | nil => intro t; rfl
    | cons x w ih => intro t; exact ih _
  exact key w _
theorem insL_append (t : Tb) (a b : List Int) : insL t (a ++ b) = insL (insL t a) b := List.foldl_append
theorem Kn.ins {u v : List Int} (h : Kn u v) : u.Nodup → insL [] u = insL [] v := by
  induction h with
  | refl => intro _; rfl
  | step a b hs _ ih =>
    rename_i p q w _
    intro hn
    have hp := ((hs.perm.append_left a).append_right b)
    rw [← ih (hp.nodup_iff.mp hn), insL_append, insL_append, insL_append, insL_append]
    congr 1
    have ha : a.Nodup := hn.sublist ((List.sublist_append_left a p).trans (List.sublist_append_left _ b))
    have R := rsk_std ha
    rw [rsk_insL] at R
    refine KS.ins R.1.ok hs fun x hx hq => ?_
    have hxa := R.2.mem_iff.mp hq
    have := (List.nodup_append.mp (List.nodup_append.mp hn).1).2.2
    exact this x hxa x hx rfl
theorem slip_right : ∀ (H : List Int) {b x : Int}, Inc (b :: H) → x < b → Kn (b :: (H ++ [x])) (b :: x :: H)
  | [], b, x, _, _ => .refl _
  | r :: H, b, x, h, hx => by
    obtain ⟨h1, h2⟩ := List.pairwise_cons.mp h
    have hbr := h1 r (.head _)
    have ih := slip_right H (b := r) (x := x) h2 (by lia)
    have e1 := ih.ctx [b] []
    simp only [List.append_nil, List.singleton_append] at e1
    refine Kn.trans e1 ?_
    exact Kn.one [] H (.inr (KT.a hx hbr))
theorem slip_left : ∀ (n : Nat) {L : List Int} {b x : Int} {H : List Int}, L.length = n → Inc L → (∀ a ∈ L, a < x) → x < b → Kn (L ++ b :: x :: H) (b :: (L ++ x :: H))
  | 0, L, b, x, H, hn, _, _, _ => by
    obtain rfl := List.eq_nil_of_length_eq_zero hn
    exact .refl _
  | n + 1, L, b, x, H, hn, h, h1, h2 => by
    rcases List.eq_nil_or_concat L with rfl | ⟨L, l, rfl⟩
    · simp at hn
    · rw [List.concat_eq_append] at *
      obtain ⟨i1, i2, i3⟩ := List.pairwise_append.mp h
      have hl := h1 l (by simp)
      have e1 : (L ++ [l]) ++ b :: x :: H = L ++ [l, b, x] ++ H := by simp
      have e2 : L ++ [b, l, x] ++ H = L ++ b :: l :: (x :: H) := by simp
      rw [e1]
      refine .step L H (.inl (KT.b hl h2)) ?_
      rw [e2]
      have := slip_left n (L := L) (b := b) (x := l) (H := x :: H) (by simpa using hn) i1 (fun a ha => i3 a ha l (by simp)) (by lia)
      simpa using this
noncomputable def readI (t : Tb) : List Int := t.reverse.flatten
theorem readI_cons (r : List Int) (t : Tb) : readI (r :: t) = readI t ++ r := by simp [readI]
theorem read_ins : ∀ {t : Tb} {x : Int}, Tok t → x ∉ t.flatten → Kn (readI t ++ [x]) (readI (insR t x).1)
  | [], x, _, _ => .refl _
  | R :: t, x, h, hx => by
    have hR := h.head
    rw [List.flatten_cons, List.mem_append, not_or] at hx
    rcases row_cases hR.2 hx.1 with ⟨L, b, H, rfl, h1, h2⟩ | h1
    · have hb := h.out (b := b) (by simp)
      obtain ⟨s1, s2, s3, s4, s5⟩ := inc_split hR.2
      have ih := read_ins h.tail hb
      rw [ins_bump hR.2 h1 h2, readI_cons, readI_cons]
      have k1 : Kn (readI t ++ (L ++ b :: H) ++ [x]) (readI t ++ L ++ (b :: x :: H)) := by
        have := (slip_right H (b := b) (x := x) (List.pairwise_cons.mpr ⟨s4, s2⟩) h2).ctx (readI t ++ L) []
        simpa using this
      have k2 : Kn (readI t ++ L ++ (b :: x :: H)) (readI t ++ [b] ++ (L ++ x :: H)) := by
        have := (slip_left _ (L := L) (b := b) (x := x) (H := H) rfl s1 h1 h2).ctx (readI t) []
        simpa using this
      have k3 := ih.ctx [] (L ++ x :: H)
      simp only [List.nil_append] at k3
      exact (k1.trans k2).trans k3
    · rw [ins_app hR.1 h1, readI_cons, readI_cons, List.append_assoc]
      exact .refl _
theorem read_word : ∀ (n : Nat) {w : List Int}, w.length = n → w.Nodup → Kn w (readI (rskW w).1)
  | 0, w, hn, _ => by
    obtain rfl := List.eq_nil_of_length_eq_zero hn
    exact .refl _
  | n + 1, w, hn, hw => by
    rcases List.eq_nil_or_concat w with rfl | ⟨v, x, rfl⟩
    · simp at hn
    · rw [List.concat_eq_append] at *
      have hv : v.Nodup := hw.sublist (List.sublist_append_left _ _)
      obtain ⟨R1, R2⟩ := rsk_std hv
      have hx : x ∉ (rskW v).1.flatten := fun q => (List.nodup_append.mp hw).2.2 x (R2.mem_iff.mp q) x (by simp) rfl
      have ih := (read_word n (w := v) (by simpa using hn) hv).ctx [] [x]
      simp only [List.nil_append] at ih
      rw [rskW_snoc]
      exact ih.trans (read_ins R1.ok hx)
theorem rows_pairs : ∀ {t : Tb}, t.Pairwise Dom → t.Pairwise fun a b => ∀ i, i < b.length → [a.getD i 0, b.getD i 0].Sublist (t.map List.reverse).flatten
  | [], _ => List.Pairwise.nil
  | r :: t, h => by
    obtain ⟨h1, h2⟩ := List.pairwise_cons.mp h
    refine List.pairwise_cons.mpr ⟨fun b hb i hi => ?_, (rows_pairs h2).imp fun {a b} q i hi => ?_⟩
    · rw [List.map_cons, List.flatten_cons]
      refine List.Sublist.append (l₁ := [r.getD i 0]) (r₁ := [b.getD i 0]) ?_ ?_
      · rw [List.singleton_sublist, List.mem_reverse]
        exact getD_mem (by have := (h1 b hb).1; lia)
      · rw [List.singleton_sublist]
        exact List.mem_flatten.mpr ⟨b.reverse, List.mem_map_of_mem hb, List.mem_reverse.mpr (getD_mem hi)⟩
    · rw [List.map_cons, List.flatten_cons]
      exact (q i hi).trans (List.sublist_append_right _ _)
theorem rev_turn {w : List Int} (hw : w.Nodup) : (rskW w.reverse).1 = colsI (rskW w).1 := by
  obtain ⟨S, P⟩ := rsk_std hw
  have K := (read_word _ rfl hw).rev
  have hwr : w.reverse.Nodup := (List.reverse_perm w).nodup_iff.mpr hw
  rw [rsk_insL, K.ins hwr, ← rsk_insL]
  have hn := K.perm.nodup_iff.mp hwr
  generalize (rskW w).1 = T at *
  have hp : (readI T).reverse.Perm T.flatten := (List.reverse_perm _).trans (rev_flat T)
  have e : (readI T).reverse = (T.map List.reverse).flatten := by
    unfold readI
    rw [List.reverse_flatten, List.map_reverse, List.reverse_reverse]
  rw [← rowsC_cols (h := (T.getD 0 []).length) S.cst.pw (Nat.le_refl _)]
  refine lin_ext ⟨S.ok.inc, S.cst.pw⟩ S.ok.nd hn (fun x => hp.mem_iff) ⟨fun c hc => ?_, ?_⟩ S.max
  · unfold readI
    exact (List.sublist_flatten_of_mem (List.mem_reverse.mpr hc)).reverse
  · rw [e]; exact rows_pairs S.cst.pw
end Mine
end

section
set_option Elab.async false
set_option linter.unusedVariables false
set_option linter.unusedSimpArgs false
namespace Mine
theorem ord_perm {n : Nat} {p : Array Nat} (hp : Ok n p) : (ordI p).Perm (natI n) := by
  have h1 : p.toList.Perm (List.range n) := by
    have := Array.perm_iff_toList_perm.mp hp
    simpa using this
  exact h1.map _
theorem rank_at {drawn : List Int} {p : Array Nat} (hp : Ok drawn.length p) (hs : Asc (keyI drawn) p drawn.length) {k : Nat} (hk : k < drawn.length) : ((rankI drawn ((p.getD k 0 : Nat) : Int)).length : Int) = (k : Int) := by
  have hop := ord_perm hp
  have hol : (ordI p).length = drawn.length := by rw [hop.length_eq, natI_length]
  have hps : p.size = drawn.length := by simpa using hp.size_eq
  have hat : ∀ j, j < drawn.length → (ordI p)[j]? = some ((p.getD j 0 : Nat) : Int) := fun j hj => by
    unfold ordI
    rw [List.getElem?_map, Array.getElem?_toList]
    simp [Array.getD, hps, hj]
  have hlen : (rankI drawn ((p.getD k 0 : Nat) : Int)).length = k := by
    unfold rankI
    rw [(hop.symm.filter _).length_eq]
    conv => lhs; rw [← List.take_append_drop k (ordI p)]
    rw [List.filter_append, List.filter_eq_self.mpr, List.filter_eq_nil_iff.mpr, List.append_nil, List.length_take, hol]
    · lia
    · intro x hx
      obtain ⟨j, hj, rfl⟩ := List.getElem_of_mem hx
      rw [List.length_drop, hol] at hj
      have e : ((ordI p).drop k)[j]? = some ((p.getD (k + j) 0 : Nat) : Int) := by rw [List.getElem?_drop]; exact hat _ (by lia)
      rw [List.getElem?_eq_getElem (by rw [List.length_drop, hol]; lia)] at e
      rw [Option.some.inj e]
      by_cases hj0 : j = 0
      · subst hj0; simp
      · have := hs k (k + j) (by lia) (by lia)
        unfold Bf keyI at this
        simp only [Int.toNat_natCast, Bool.or_eq_true, Bool.and_eq_true, decide_eq_true_eq, beq_iff_eq, not_or, not_and]
        refine ⟨by lia, fun h => by lia⟩
    · intro x hx
      obtain ⟨j, hj, rfl⟩ := List.getElem_of_mem hx
      rw [List.length_take, hol] at hj
      have e : ((ordI p).take k)[j]? = some ((p.getD j 0 : Nat) : Int) := by rw [List.getElem?_take, if_pos (by lia)]; exact hat _ (by lia)
      rw [List.getElem?_eq_getElem (by rw [List.length_take, hol]; lia)] at e
      rw [Option.some.inj e]
      have := hs j k (by lia) hk
      unfold Bf keyI at this
      simp only [Int.toNat_natCast, Bool.or_eq_true, Bool.and_eq_true, decide_eq_true_eq, beq_iff_eq]
      lia
  rw [hlen]
theorem ranks_inv {drawn : List Int} {p : Array Nat} (hp : Ok drawn.length p) (hs : Asc (keyI drawn) p drawn.length) : ranksI drawn = invI drawn.length (ordI p) := by
  have hop := ord_perm hp
  have hol : (ordI p).length = drawn.length := by rw [hop.length_eq, natI_length]
  have hps : p.size = drawn.length := by simpa using hp.size_eq
  unfold ranksI invI
  refine List.map_congr_left fun x hx => ?_
  have hm : x ∈ ordI p := hop.mem_iff.mpr hx
  have hlt := List.idxOf_lt_length_of_mem hm
  have e := List.getElem_idxOf hlt
  have gen : ∀ (k : Nat) (h : k < (ordI p).length), (ordI p)[k] = ((p.getD k 0 : Nat) : Int) := fun k h => by
    have : k < p.size := by lia
    simp [ordI, Array.getD, this]
  have e2 := gen _ hlt
  have := rank_at hp hs (k := (ordI p).idxOf x) (by lia)
  rw [← e2, e] at this
  exact this
theorem law3_plain (script : List Int) (hlen : script.length ≤ 63) : LawOk3 script := by
  intro p hp hs
  have hn0 : 0 < (drawnI script).length := by simp [drawnI]
  have hn8 : (drawnI script).length ≤ 8 := by simp [drawnI]; lia
  generalize drawnI script = drawn at *
  have hop := ord_perm hp
  have hinv := ranks_inv hp hs
  obtain ⟨i1, i2, i3⟩ := inv_ex hop
  have hsym := sym_inv hop
  rw [← hinv] at i1 i3 hsym
  generalize hw : ranksI drawn = w at *
  have nw := i3.nodup_iff.mpr (natI_nodup _)
  obtain ⟨S1, P1⟩ := rsk_std nw
  obtain ⟨S2, P2⟩ := rsk_std2 i3
  have l1 : (rskW w).1.flatten.length = drawn.length := by rw [P1.length_eq, i1]
  have l2 : (rskW w).2.flatten.length = drawn.length := by rw [P2.length_eq, natI_length]
  obtain ⟨u, hu, eu, hinvo⟩ := twice_ex S1.ok S1.cst (P1.trans i3) (by lia)
  have hul : u.length = drawn.length := by rw [hu.length_eq, natI_length]
  have U := undo_full nw (by lia)
  rw [i1] at U
  have V := undo_full (hu.nodup_iff.mpr (natI_nodup _)) (by lia)
  rw [hul, eu] at V
  have up := S1.up
  subst hw
  refine ⟨?_, rev_turn nw, S1.tab l1 hn0 (by lia), S2.tab l2 hn0 (by lia), up.1, up.2, by lia, U.1, U.2, V.1, fun tw htw => ?_⟩
  · rw [hsym]; rfl
  · obtain rfl : tw = u := htw.trans V.2
    refine ⟨by lia, fun x hx => ?_, ?_, eu⟩
    · obtain ⟨i, hi, rfl⟩ := mem_natI.mp (hu.mem_iff.mp hx)
      exact ⟨by lia, by rw [Int.toNat_natCast]; lia⟩
    · refine List.ext_getElem (by rw [List.length_map, hul, natI_length]) fun i g1 g2 => ?_
      rw [List.length_map] at g1
      rw [List.getElem_map]
      obtain ⟨j, e1, e2⟩ := hinvo i tw[i] (List.getElem?_eq_getElem g1)
      rw [e1, Int.toNat_natCast, List.getD_eq_getElem?_getD, e2]
      simp [natI]
end Mine
end

theorem PySem.Challenge.cw_sn0003_03_holds : PySem.Challenge.rw_sn0003_03.Holds :=
  Mine.law3_of Mine.ins_ok Mine.law3_plain
