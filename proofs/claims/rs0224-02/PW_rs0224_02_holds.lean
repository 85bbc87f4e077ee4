import PyProof.Rows.All
import PyProof.Methods
import PyProof.MeetsDict
import PyProof.DictIter
import PyProof.DictDisplay
import PyProof.DictTable
import PyProof.Draws
import PyProof.EqKinds
import PyProof.SliceStr2
import PyProof.ListRange
import PyProof.StrBlockG
import PyProof.Rows.StrNews2
import PyProof.SumAny
import PyProof.Rows.SeqMore
import PyProof.SumWalkG
import PyProof.SetRoads
import Open.Head
import KE.KNest
import KE.KEqDict
import KE.KMulAny
import KE.KRevIter
import OpenK.AllK
import Wide.All
import Lean
import PySem.Challenge.RW_rs0224_02
set_option Elab.async false
set_option compiler.extract_closed false
section
open PySem PyProof.Rows
set_option Elab.async false
namespace Mine

/-- lengths that every list met stays under -/
noncomputable def lid : Nat := 2 ^ 20

section
variable (prog : Program) (w : World)
mutual
/-- the value v shows the datum, in heap h; every list, dict and tuple of it lies outside M -/
noncomputable def Rp (h : Heap) (M : Addr → Prop) : PyData → Value → Prop
  | .none, v => v = .none
  | .bool b, v => v = .bool b
  | .int i, v => ∃ t, v = .int i t
  | .str x, v => ∃ t, v = .str x t
  | .list ds, v => ∃ a items, v = .ref a ∧ ¬ M a ∧ h.PlainList a items ∧ RpL h M ds items.toList ∧ ds.length ≤ lid
  | .tuple ds, v => ∃ a items, v = .ref a ∧ ¬ M a ∧ h.IsTuple a items ∧ RpL h M ds items.toList
  | .dict D, v => ∃ a kvs, v = .ref a ∧ ¬ M a ∧ (a == sysModules) = false ∧ h.DictOf (strKind prog w) a kvs ∧ RpD h M D kvs ∧ D.length ≤ lid
noncomputable def RpL (h : Heap) (M : Addr → Prop) : List PyData → List Value → Prop
  | [], vs => vs = []
  | d :: ds, vs => ∃ v r, vs = v :: r ∧ Rp h M d v ∧ RpL h M ds r
noncomputable def RpD (h : Heap) (M : Addr → Prop) : List (PyData × PyData) → List (Str × Value) → Prop
  | [], kvs => kvs = []
  | kd :: D, kvs => ∃ x v r, kvs = (x, v) :: r ∧ kd.1 = .str x ∧ Rp h M kd.2 v ∧ RpD h M D r
end
end

/-- a table of inner codes -/
noncomputable def tabO (vs : Array Value) : Obj := { cls := .none, data := .fields vs }
noncomputable def NT (o : Obj) : Prop := ∀ vs, o ≠ tabO vs
theorem NT.cls {o : Obj} {x : String} (h : o.cls = .type x) : NT o := fun vs e => by rw [e] at h; cases h
theorem NT.cell {o : Obj} {v} (h : o.data = .cell v) : NT o := fun vs e => by rw [e] at h; cases h
theorem NT.dict {o : Obj} {es n} (h : o.data = .dict es n) : NT o := fun vs e => by rw [e] at h; cases h
theorem NT.func {o : Obj} {fd} (h : o.data = .func fd) : NT o := fun vs e => by rw [e] at h; cases h

/-- a code object -/
noncomputable def IsCo (o : Obj) : Prop := o.cls = .type "code" ∧ ∃ vs, o.data = .fields vs
noncomputable def CodeO (h : Heap) (c : Addr) (q : Str) : Prop := ∃ o vs t, h.get? c = some o ∧ o.cls = .type "code" ∧ o.data = .fields vs ∧ vs[1]? = some (.str q t)
theorem IsCo.nt {o : Obj} (h : IsCo o) : NT o := .cls h.1

/-- which tables may grow, by which one code: table, line, column, name -/
noncomputable abbrev TabS := Addr → Int → Int → Str → Prop

/-- the object o at b stands, or is a table of T that took its code -/
noncomputable def Gr (T : TabS) (h' : Heap) (b : Addr) (o : Obj) : Prop :=
  h'.get? b = some o ∨ ∃ l c q c2, T b l c q ∧ o = tabO #[] ∧ h'.get? b = some (tabO #[rawInt l, rawInt c, .ref c2]) ∧ CodeO h' c2 q
section
variable {T : TabS}
theorem Gr.nt {h' : Heap} {b : Addr} {o : Obj} (g : Gr T h' b o) (n : NT o) : h'.get? b = some o := by
  rcases g with g | ⟨_, _, _, _, _, e, _⟩
  · exact g
  · exact absurd e (n _)
theorem Gr.al {h' : Heap} {b : Addr} {o : Obj} (g : Gr T h' b o) : ∃ o', h'.get? b = some o' := by
  rcases g with g | ⟨_, _, _, _, _, _, g, _⟩ <;> exact ⟨_, g⟩
theorem CodeO.gr {h h' : Heap} {c : Addr} {q : Str} (x : CodeO h c q) (e : ∀ o, IsCo o → h.get? c = some o → Gr T h' c o) : CodeO h' c q := by
  obtain ⟨o, vs, t, ho, hc, hd, r⟩ := x
  exact ⟨o, vs, t, (e _ ⟨hc, _, hd⟩ ho).nt (.cls hc), hc, hd, r⟩
theorem Gr.trans {h' h'' : Heap} {b : Addr} {o : Obj} (g : Gr T h' b o) (kc : ∀ c o', IsCo o' → h'.get? c = some o' → Gr T h'' c o') (k : ∀ o', h'.get? b = some o' → Gr T h'' b o') : Gr T h'' b o := by
  rcases g with g | ⟨l, c, q, c2, ht, rfl, g, hc⟩
  · exact k o g
  · rcases k _ g with g2 | ⟨_, _, _, _, _, e, _⟩
    · exact .inr ⟨l, c, q, c2, ht, rfl, g2, hc.gr (kc c2)⟩
    · exfalso
      unfold tabO at e
      have := congrArg Obj.data e
      simp at this
end

/-- the objects outside M stand as they stood -/
noncomputable def Agr (M : Addr → Prop) (h h' : Heap) : Prop := ∀ b o, ¬ M b → NT o → h.get? b = some o → h'.get? b = some o
theorem Agr.push {M : Addr → Prop} {h : Heap} {o' : Obj} : Agr M h (h.push o') := fun _ _ _ _ e => Heap.get?_push_of_some _ e
theorem PL.push {h : Heap} {a : Addr} {items : Array Value} {o' : Obj} (x : h.PlainList a items) : (h.push o').PlainList a items := by
  obtain ⟨n, q⟩ := x
  exact ⟨n, Heap.get?_push_of_some _ q⟩
theorem PL.gr {h h' : Heap} {a : Addr} {items : Array Value} (x : h.PlainList a items) (e : ∀ o, NT o → h.get? a = some o → h'.get? a = some o) : h'.PlainList a items := by
  obtain ⟨n, q⟩ := x
  exact ⟨n, e _ (.cls rfl) q⟩
theorem LI.gr {h h' : Heap} {a l : Addr} {i : Nat} (x : h.IsListIter a l i) (e : ∀ o, NT o → h.get? a = some o → h'.get? a = some o) : h'.IsListIter a l i := by
  obtain ⟨o, q, hc, r⟩ := x
  exact ⟨o, e _ (.cls hc) q, hc, r⟩
theorem Cel.gr {h h' : Heap} {c : Addr} {v : Option Value} (x : h.IsCell c v) (e : ∀ o, NT o → h.get? c = some o → h'.get? c = some o) : h'.IsCell c v := by
  obtain ⟨o, q, hd⟩ := x
  exact ⟨o, e _ (.cell hd) q, hd⟩
theorem Nsp.gr {h h' : Heap} {a : Addr} {m : Str → Option Value} (x : h.Ns a m) (e : ∀ o, NT o → h.get? a = some o → h'.get? a = some o) : h'.Ns a m := by
  obtain ⟨o, es, ep, q, hd, r⟩ := x
  exact ⟨o, es, ep, e _ (.dict hd) q, hd, r⟩

section
variable {prog : Program} {w : World}

theorem Tup.gr {h h' : Heap} {a : Addr} {items : Array Value} (x : h.IsTuple a items) (e : ∀ o, NT o → h.get? a = some o → h'.get? a = some o) : h'.IsTuple a items := by
  obtain ⟨o, q, hc, r⟩ := x
  exact ⟨o, e _ (.cls hc) q, hc, r⟩
theorem Dic.gr {K : Type} [DecidableEq K] {knd : KeyKind prog w K} {h h' : Heap} {a : Addr} {kvs : List (K × Value)} (x : h.DictOf knd a kvs) (e : ∀ o, NT o → h.get? a = some o → h'.get? a = some o) : h'.DictOf knd a kvs := by
  obtain ⟨o, es, ep, q, hx, hd, r⟩ := x
  exact ⟨o, es, ep, e _ (.dict hd) q, hx, hd, r⟩

mutual
theorem Rp.agr {h h' : Heap} {M : Addr → Prop} (hk : Agr M h h') : ∀ (d : PyData) (v : Value), Rp prog w h M d v → Rp prog w h' M d v
  | .none, _, r => by simpa only [Rp] using r
  | .bool _, _, r => by simpa only [Rp] using r
  | .int _, _, r => by simpa only [Rp] using r
  | .str _, _, r => by simpa only [Rp] using r
  | .list ds, _, r => by
    simp only [Rp] at r ⊢
    obtain ⟨a, items, e, ha, hl, hr, hb⟩ := r
    exact ⟨a, items, e, ha, PL.gr hl fun o n e => hk a o ha n e, RpL.agr hk ds _ hr, hb⟩
  | .tuple ds, _, r => by
    simp only [Rp] at r ⊢
    obtain ⟨a, items, e, ha, hl, hr⟩ := r
    exact ⟨a, items, e, ha, Tup.gr hl fun o n e => hk a o ha n e, RpL.agr hk ds _ hr⟩
  | .dict D, _, r => by
    simp only [Rp] at r ⊢
    obtain ⟨a, kvs, e, ha, hs, hl, hr, hb⟩ := r
    exact ⟨a, kvs, e, ha, hs, Dic.gr hl fun o n e => hk a o ha n e, RpD.agr hk D _ hr, hb⟩
theorem RpL.agr {h h' : Heap} {M : Addr → Prop} (hk : Agr M h h') : ∀ (ds : List PyData) (vs : List Value), RpL prog w h M ds vs → RpL prog w h' M ds vs
  | [], _, r => by simpa only [RpL] using r
  | d :: ds, _, r => by
    simp only [RpL] at r ⊢
    obtain ⟨v, q, e, h1, h2⟩ := r
    exact ⟨v, q, e, Rp.agr hk d v h1, RpL.agr hk ds q h2⟩
theorem RpD.agr {h h' : Heap} {M : Addr → Prop} (hk : Agr M h h') : ∀ (ds : List (PyData × PyData)) (vs : List (Str × Value)), RpD prog w h M ds vs → RpD prog w h' M ds vs
  | [], _, r => by simpa only [RpD] using r
  | (k, d) :: ds, _, r => by
    simp only [RpD] at r ⊢
    obtain ⟨x, v, q, e, h0, h1, h2⟩ := r
    exact ⟨x, v, q, e, h0, Rp.agr hk d v h1, RpD.agr hk ds q h2⟩
end

mutual
theorem Rp.sub {h : Heap} {M M' : Addr → Prop} (hk : ∀ a o, h.get? a = some o → M' a → M a) : ∀ (d : PyData) (v : Value), Rp prog w h M d v → Rp prog w h M' d v
  | .none, _, r => by simpa only [Rp] using r
  | .bool _, _, r => by simpa only [Rp] using r
  | .int _, _, r => by simpa only [Rp] using r
  | .str _, _, r => by simpa only [Rp] using r
  | .list ds, _, r => by
    simp only [Rp] at r ⊢
    obtain ⟨a, items, e, ha, hl, hr, hb⟩ := r
    exact ⟨a, items, e, fun q => ha (hk a _ hl.choose_spec q), hl, RpL.sub hk ds _ hr, hb⟩
  | .tuple ds, _, r => by
    simp only [Rp] at r ⊢
    obtain ⟨a, items, e, ha, hl, hr⟩ := r
    exact ⟨a, items, e, fun q => ha (hk a _ hl.choose_spec.1 q), hl, RpL.sub hk ds _ hr⟩
  | .dict D, _, r => by
    simp only [Rp] at r ⊢
    obtain ⟨a, kvs, e, ha, hs, hl, hr, hb⟩ := r
    refine ⟨a, kvs, e, fun q => ?_, hs, hl, RpD.sub hk D _ hr, hb⟩
    obtain ⟨o, es, ep, ho, _⟩ := hl
    exact ha (hk a _ ho q)
theorem RpL.sub {h : Heap} {M M' : Addr → Prop} (hk : ∀ a o, h.get? a = some o → M' a → M a) : ∀ (ds : List PyData) (vs : List Value), RpL prog w h M ds vs → RpL prog w h M' ds vs
  | [], _, r => by simpa only [RpL] using r
  | d :: ds, _, r => by
    simp only [RpL] at r ⊢
    obtain ⟨v, q, e, h1, h2⟩ := r
    exact ⟨v, q, e, Rp.sub hk d v h1, RpL.sub hk ds q h2⟩
theorem RpD.sub {h : Heap} {M M' : Addr → Prop} (hk : ∀ a o, h.get? a = some o → M' a → M a) : ∀ (ds : List (PyData × PyData)) (vs : List (Str × Value)), RpD prog w h M ds vs → RpD prog w h M' ds vs
  | [], _, r => by simpa only [RpD] using r
  | (k, d) :: ds, _, r => by
    simp only [RpD] at r ⊢
    obtain ⟨x, v, q, e, h0, h1, h2⟩ := r
    exact ⟨x, v, q, e, h0, Rp.sub hk d v h1, RpD.sub hk ds q h2⟩
end

theorem RpL.length {h : Heap} {M : Addr → Prop} : ∀ {ds : List PyData} {vs : List Value}, RpL prog w h M ds vs → vs.length = ds.length
  | [], _, r => by simp only [RpL] at r; subst r; rfl
  | d :: ds, _, r => by
    simp only [RpL] at r
    obtain ⟨v, q, rfl, _, h2⟩ := r
    simp [RpL.length h2]
theorem RpL.get {h : Heap} {M : Addr → Prop} : ∀ {ds : List PyData} {vs : List Value}, RpL prog w h M ds vs → ∀ {i : Nat} {d : PyData}, ds[i]? = some d → ∃ v, vs[i]? = some v ∧ Rp prog w h M d v
  | d :: ds, _, r, i, d', e => by
    simp only [RpL] at r
    obtain ⟨v, q, rfl, h1, h2⟩ := r
    cases i with
    | zero => simp at e; subst e; exact ⟨v, rfl, h1⟩
    | succ i => simpa using RpL.get h2 (by simpa using e)
theorem RpL.append {h : Heap} {M : Addr → Prop} : ∀ {ds es : List PyData} {vs us : List Value}, RpL prog w h M ds vs → RpL prog w h M es us → RpL prog w h M (ds ++ es) (vs ++ us)
  | [], _, _, _, r, r' => by simp only [RpL] at r; subst r; simpa using r'
  | d :: ds, es, _, us, r, r' => by
    simp only [RpL] at r
    obtain ⟨v, q, rfl, h1, h2⟩ := r
    simp only [List.cons_append, RpL]
    exact ⟨v, q ++ us, rfl, h1, RpL.append h2 r'⟩
theorem RpL.nil {h : Heap} {M : Addr → Prop} : RpL prog w h M [] [] := by simp only [RpL]
theorem RpL.cons {h : Heap} {M : Addr → Prop} {d : PyData} {v : Value} {ds : List PyData} {vs : List Value} (a : Rp prog w h M d v) (b : RpL prog w h M ds vs) : RpL prog w h M (d :: ds) (v :: vs) := by
  simp only [RpL]; exact ⟨v, vs, rfl, a, b⟩
theorem RpL.iff {h : Heap} {M : Addr → Prop} : ∀ {ds : List PyData} {vs : List Value}, vs.length = ds.length → (∀ (i : Nat) (d : PyData) (v : Value), ds[i]? = some d → vs[i]? = some v → Rp prog w h M d v) → RpL prog w h M ds vs := by
  intro ds
  induction ds with
  | nil =>
    intro vs hl _
    rw [List.length_eq_zero_iff.mp hl]
    exact RpL.nil
  | cons d ds ih =>
    intro vs hl hx
    cases vs with
    | nil => cases hl
    | cons v vs => exact RpL.cons (hx 0 d v rfl rfl) (ih (Nat.succ.inj hl) fun i d v e1 e2 => hx (i + 1) d v e1 e2)
theorem RpL.of_get {h : Heap} {M : Addr → Prop} {ds : List PyData} {vs : List Value} (r : RpL prog w h M ds vs) {i : Nat} {d : PyData} {v : Value} (e : ds[i]? = some d) (e' : vs[i]? = some v) : Rp prog w h M d v := by
  obtain ⟨u, hu, hr⟩ := RpL.get r e
  rw [hu] at e'; cases e'; exact hr

end
end Mine
end
section
open PySem PyProof.Rows
set_option Elab.async false
namespace Mine

structure Kp (T : TabS) (s s' : Shared) : Prop where
  same : ∃ h t, s' = { s with heap := h, toks := t }
  tk : ∀ b o, s.heap.get? b = some o → Gr T s'.heap b o
section
variable {T : TabS}
theorem Kp.code {s s' : Shared} (h : Kp T s s') : ∀ c o, IsCo o → s.heap.get? c = some o → Gr T s'.heap c o := fun c o _ e => h.tk c o e
theorem Kp.nt {s s' : Shared} (h : Kp T s s') : ∀ b o, NT o → s.heap.get? b = some o → s'.heap.get? b = some o := fun b o n e => (h.tk b o e).nt n
theorem Kp.refl {s : Shared} : Kp T s s := ⟨⟨s.heap, s.toks, rfl⟩, fun _ _ e => .inl e⟩
theorem Kp.trans {s s' s'' : Shared} (a : Kp T s s') (b : Kp T s' s'') : Kp T s s'' := by
  have hc := b.code
  obtain ⟨⟨h1, t1, rfl⟩, k1⟩ := a
  obtain ⟨⟨h2, t2, rfl⟩, k2⟩ := b
  exact ⟨⟨h2, t2, rfl⟩, fun b o e => (k1 b o e).trans hc fun o' e' => k2 b o' e'⟩
theorem Kp.tok {s : Shared} (t : Nat) : Kp T s { s with toks := t } := ⟨⟨s.heap, t, rfl⟩, fun _ _ e => .inl e⟩
theorem Kp.mk' {s : Shared} {h : Heap} {t : Nat} (hk : ∀ b o, s.heap.get? b = some o → h.get? b = some o) : Kp T s { s with heap := h, toks := t } := ⟨⟨h, t, rfl⟩, fun b o e => .inl (hk b o e)⟩
theorem Kp.push {s : Shared} (o : Obj) (t : Nat) : Kp T s { s with heap := s.heap.push o, toks := t } := ⟨⟨_, t, rfl⟩, fun _ _ e => .inl (Heap.get?_push_of_some _ e)⟩
theorem Kp.al {s s' : Shared} (h : Kp T s s') {b : Addr} {o : Obj} (e : s.heap.get? b = some o) : ∃ o', s'.heap.get? b = some o' := (h.tk b o e).al
theorem Kp.agr {s s' : Shared} (h : Kp T s s') {M : Addr → Prop} : Agr M s.heap s'.heap := fun b o _ n e => h.nt b o n e
end

/-- what the top has left -/
structure Gl (prog : Program) (w : World) where
  hB : Heap
  mg : Str → Option Value
  mb : Str → Option Value
  g : hB.Ns mainGlobals mg
  b : hB.Ns builtinsNs mb
  lim : hB.NoLimit
  T : TabS

inductive B where
  | un
  | own (d : PyData)
  | mu (ds : List PyData)
  | mud (D : List (PyData × PyData))

noncomputable abbrev VEnv := List (Str × B)

/-- room for calls k deep -/
structure Ok (k : Nat) (A : Around) : Prop where
  hh : A.handled = none
  depth : A.depth + k < 900
  units : A.units + 4 * k < 9000

theorem Ok.mono {k k' : Nat} {A : Around} (o : Ok k A) (h : k' ≤ k) : Ok k' A := ⟨o.hh, by have := o.depth; lia, by have := o.units; lia⟩
theorem Ok.deeper {k : Nat} {A : Around} (o : Ok (k + 1) A) (env : Env) : Ok k (A.deeper env) :=
  ⟨o.hh, by have := o.depth; show A.depth + 1 + k < 900; lia, by have := o.units; show A.units + 3 + 4 * k < 9000; lia⟩

structure EnvOk (sc : Scope) (env : Env) : Prop where
  kind : env.scope.kind = .function
  glob : env.globals = mainGlobals
  blt : env.builtins = builtinsNs
  kindG : ∀ x, sc.names.lookup x = some .globalImplicit → env.kindOf x = some .globalImplicit
  kindC : ∀ x, (sc.names.lookup x = some .cell ∨ sc.names.lookup x = some .free) → (env.kindOf x = some .cell ∨ env.kindOf x = some .free)
  kindN : ∀ x, (env.kindOf x == some .local) = (sc.names.lookup x == some .local)
  noDbg : env.kindOf "__debug__" = none
  cells : ∀ x, (sc.names.lookup x = some .cell ∨ sc.names.lookup x = some .free) → ∃ c, env.cells.lookup x = some c
  noCd : env.kindOf "__classdict__" = none

theorem EnvOk.kindL {sc : Scope} {env : Env} (h : EnvOk sc env) (x : Str) (hx : sc.names.lookup x = some .local) : env.kindOf x = some .local := by
  have := h.kindN x; rw [hx] at this; simpa using this
theorem EnvOk.dbg {sc : Scope} {env : Env} (h : EnvOk sc env) {x : Str} (hx : env.kindOf x ≠ none) : (x == ("__debug__" : Str)) = false := by
  cases e : x == ("__debug__" : Str) with
  | false => rfl
  | true => exact absurd (by rw [beq_iff_eq.mp e]; exact h.noDbg) hx
theorem EnvOk.cd {sc : Scope} {env : Env} (h : EnvOk sc env) {x : Str} (hx : env.kindOf x ≠ none) : (x == ("__classdict__" : Str)) = false := by
  cases e : x == ("__classdict__" : Str) with
  | false => rfl
  | true => exact absurd (by rw [beq_iff_eq.mp e]; exact h.noCd) hx

/-- the name x of the frame holds v -/
noncomputable def Acc (env : Env) (h : Heap) (x : Str) (v : Value) : Prop :=
  (env.kindOf x = some .local ∧ ∃ m, h.Ns env.locals m ∧ m x = some v) ∨
  ((env.kindOf x = some .cell ∨ env.kindOf x = some .free) ∧ ∃ c, env.cells.lookup x = some c ∧ h.IsCell c (some v))

theorem Acc.keeps {env : Env} {h h' : Heap} {x : Str} {v : Value} (a : Acc env h x v) (hk : ∀ b o, NT o → h.get? b = some o → h'.get? b = some o) : Acc env h' x v := by
  rcases a with ⟨a, m, b, c⟩ | ⟨a, c, b, d⟩
  · exact .inl ⟨a, m, Nsp.gr b (hk _), c⟩
  · exact .inr ⟨a, c, b, Cel.gr d (hk _)⟩

section
variable {prog : Program} {w : World}

noncomputable def ER (prog : Program) (w : World) (env : Env) (h : Heap) (M : Addr → Prop) (x : Str) : B → Prop
  | .un => True
  | .own d => ∃ v, Acc env h x v ∧ Rp prog w h M d v
  | .mu ds => ∃ a items, Acc env h x (.ref a) ∧ M a ∧ h.PlainList a items ∧ RpL prog w h M ds items.toList ∧ ds.length ≤ lid
  | .mud D => ∃ a kvs, Acc env h x (.ref a) ∧ M a ∧ a ≠ env.locals ∧ (a == sysModules) = false ∧ h.DictOf (strKind prog w) a kvs ∧ RpD prog w h M D kvs ∧ D.length ≤ lid

theorem ER.keeps {env : Env} {h h' : Heap} {M : Addr → Prop} {x : Str} {b : B} (r : ER prog w env h M x b) (hk : ∀ b o, NT o → h.get? b = some o → h'.get? b = some o) : ER prog w env h' M x b := by
  cases b with
  | un => trivial
  | own d => obtain ⟨v, a, r⟩ := r; exact ⟨v, a.keeps hk, Rp.agr (fun b o _ => hk b o) _ _ r⟩
  | mu ds => obtain ⟨a, items, h1, h2, h3, h4, h5⟩ := r; exact ⟨a, items, h1.keeps hk, h2, PL.gr h3 (hk _), RpL.agr (fun b o _ => hk b o) _ _ h4, h5⟩
  | mud D => obtain ⟨a, kvs, h1, h2, hl, h2', h3, h4, h5⟩ := r; exact ⟨a, kvs, h1.keeps hk, h2, hl, h2', Dic.gr h3 (hk _), RpD.agr (fun b o _ => hk b o) _ _ h4, h5⟩

structure VR (G : Gl prog w) (env : Env) (M : Addr → Prop) (ρ : VEnv) (s : Shared) : Prop where
  base : ∀ b o, G.hB.get? b = some o → Gr G.T s.heap b o
  dom : ∀ a, M a → ∃ o, s.heap.get? a = some o
  ent : ∀ x b, (x, b) ∈ ρ → ER prog w env s.heap M x b
  cel : ∀ x c, env.cells.lookup x = some c → M c
  nd : (ρ.map (·.1)).Nodup

theorem VR.bnt {G : Gl prog w} {env : Env} {M : Addr → Prop} {ρ : VEnv} {s : Shared} (v : VR G env M ρ s) : ∀ b o, NT o → G.hB.get? b = some o → s.heap.get? b = some o := fun b o n e => (v.base b o e).nt n
theorem VR.keeps {G : Gl prog w} {env : Env} {M : Addr → Prop} {ρ : VEnv} {s s' : Shared} (v : VR G env M ρ s) (k : Kp G.T s s') : VR G env M ρ s' :=
  ⟨fun b o e => (v.base b o e).trans k.code (k.tk b), fun a ha => let ⟨o, e⟩ := v.dom a ha; k.al e, fun x b hx => (v.ent x b hx).keeps k.nt, v.cel, v.nd⟩

/-- e comes to d -/
noncomputable def EvTo (G : Gl prog w) (k : Nat) (sc : Scope) (ρ : VEnv) (e : Expr) (d : PyData) : Prop :=
  ∀ (A : Around) (env : Env) (M : Addr → Prop) (s : Shared) (Q : Value → Shared → Prop) (E : Value → Shared → Prop), Ok k A → EnvOk sc env → VR G env M ρ s →
    (∀ v s', Kp G.T s s' → Rp prog w s'.heap M d v → Q v s') → wpAny (model prog w) A (eval e env) Q E s

/-- e, asked as a test, comes to b -/
noncomputable def TrTo (G : Gl prog w) (k : Nat) (sc : Scope) (ρ : VEnv) (e : Expr) (b : Bool) : Prop :=
  ∀ (A : Around) (env : Env) (M : Addr → Prop) (s : Shared) (Q : Bool → Shared → Prop) (E : Value → Shared → Prop), Ok k A → EnvOk sc env → VR G env M ρ s →
    (∀ s', Kp G.T s s' → Q b s') → wpAny (model prog w) A (isTrue e env (eval e env)) Q E s

noncomputable def NotStar (e : Expr) : Prop := ∀ rest env, starEach (e :: rest) env = (false, eval e env) :: starEach rest env

inductive EvAll (G : Gl prog w) (k : Nat) (sc : Scope) (ρ : VEnv) : List Expr → List PyData → Prop
  | nil : EvAll G k sc ρ [] []
  | cons {e es d ds} : NotStar e → EvTo G k sc ρ e d → EvAll G k sc ρ es ds → EvAll G k sc ρ (e :: es) (d :: ds)

variable {G : Gl prog w} {k : Nat} {sc : Scope} {ρ : VEnv}

theorem backTo_cons {pos : Pos} {e : Expr} {rest : List Expr} {env : Env} (h : NotStar e) : backTo pos (starEach (e :: rest) env) = (false, eval e env) :: backTo pos (starEach rest env) := by
  rw [h]; rfl

theorem EvAll.run : ∀ {es : List Expr} {ds : List PyData}, EvAll G k sc ρ es ds → ∀ {A : Around} {env : Env} {M : Addr → Prop} {s : Shared} {Q : List Value → Shared → Prop} {E : Value → Shared → Prop} {pos : Pos},
    Ok k A → EnvOk sc env → VR G env M ρ s → (∀ vs s', Kp G.T s s' → RpL prog w s'.heap M ds vs → Q vs s') → wpAny (model prog w) A (spliced (backTo pos (starEach es env))) Q E s := by
  intro es ds h
  induction h with
  | nil => intro A env M s Q E pos _ _ _ hQ; exact Calls.spliced_nil (hQ [] s Kp.refl RpL.nil)
  | cons hn he _ ih =>
    intro A env M s Q E pos ho hv hr hQ
    rw [backTo_cons hn]
    refine Calls.spliced_cons (he A env M s _ _ ho hv hr fun v s1 k1 r1 => ih ho hv (hr.keeps k1) fun vs s2 k2 r2 => hQ _ _ (k1.trans k2) (RpL.cons (Rp.agr k2.agr _ _ r1) r2))

theorem noStar_any : ∀ {es : List Expr} {ds : List PyData}, EvAll G k sc ρ es ds → ∀ (pos : Pos) (env : Env), (backTo pos (starEach es env)).any (·.1) = false := by
  intro es ds h
  induction h with
  | nil => intro pos env; rfl
  | cons hn _ _ ih => intro pos env; rw [backTo_cons hn]; simp [ih pos env]

theorem EvAll.args : ∀ {es : List Expr} {ds : List PyData}, EvAll G k sc ρ es ds → ∀ {A : Around} {env : Env} {M : Addr → Prop} {s : Shared} {Q : Args → Shared → Prop} {E : Value → Shared → Prop} {pos : Pos} {f : Value},
    Ok k A → EnvOk sc env → VR G env M ρ s → (∀ vs s', Kp G.T s s' → RpL prog w s'.heap M ds vs → Q ⟨vs, []⟩ s') → wpAny (model prog w) A (evalArgs f true (backTo pos (starEach es env)) []) Q E s := by
  intro es ds h A env M s Q E pos f ho hv hr hQ
  cases h with
  | nil => exact evalArgs_nil3 (hQ [] s Kp.refl RpL.nil)
  | cons hn he hr' =>
    have := EvAll.run (pos := pos) (E := E) (EvAll.cons hn he hr') ho hv hr hQ
    rw [backTo_cons hn] at this ⊢
    exact Calls.evalArgs_plain this

/-- what a def of the top, called, gives -/
noncomputable def FnOk (G : Gl prog w) (name : Str) (need : Nat) (f : List PyData → PyData → Prop) : Prop :=
  ∃ a, G.mg name = some (.ref a) ∧ (∃ o fd, G.hB.get? a = some o ∧ o.data = .func fd) ∧
    ∀ (A : Around) (M : Addr → Prop) (s : Shared) (vs : List Value) (ds : List PyData) (d : PyData) (Q : Value → Shared → Prop) (E : Value → Shared → Prop), Ok need A →
      (∀ b o, G.hB.get? b = some o → Gr G.T s.heap b o) → (∀ a, M a → ∃ o, s.heap.get? a = some o) → RpL prog w s.heap M ds vs → f ds d →
      (∀ v s', Kp G.T s s' → Rp prog w s'.heap M d v → Q v s') → wpAny (model prog w) A (call (.ref a) vs) Q E s

theorem EvTo.user {f : List PyData → PyData → Prop} {need : Nat} {x : Str} {p pos : Pos} {es : List Expr} {ds : List PyData} {d : PyData} (F : FnOk G x need f)
    (hx : sc.names.lookup x = some .globalImplicit) (hk : need ≤ k) (ha : EvAll G k sc ρ es ds) (hf : f ds d) : EvTo G k sc ρ (.Call (.Name x p) es [] pos) d := by
  intro A env M s Q E ho hv hr hQ
  obtain ⟨a, hm, ⟨o, fd, hg, hd⟩, hcall⟩ := F
  have hgx := hv.kindG x hx
  refine Call_Name rfl (Calls.Name_function_global hv.kind hgx (Calls.loadGlobal_global (hv.glob ▸ Nsp.gr G.g (hr.bnt _)) hm ?_) (hv.dbg (by rw [hgx]; simp)))
  refine Calls.callWith_function (o := o) (fd := fd) (ha.args ho hv hr fun vs s1 k1 r1 => ⟨⟨k1.nt _ _ (.func hd) (hr.bnt _ _ (.func hd) hg), hd⟩, ?_⟩)
  have hr1 := hr.keeps k1
  exact hcall A M s1 vs ds d Q E (ho.mono hk) hr1.base hr1.dom r1 hf fun v s2 k2 r2 => hQ v s2 (k1.trans k2) r2

/-- a built-in function, called -/
theorem EvTo.blt {x : Str} {id : String} {p pos : Pos} {es : List Expr} {ds : List PyData} {d : PyData}
    (hx : sc.names.lookup x = some .globalImplicit) (hm : G.mg x = none) (hb : G.mb x = some (.builtin id)) (ha : EvAll G k sc ρ es ds)
    (hc : ∀ (A : Around) (M : Addr → Prop) (s : Shared) (vs : List Value) (Q : Value → Shared → Prop) (E : Value → Shared → Prop), Ok k A → (∀ a, M a → ∃ o, s.heap.get? a = some o) → RpL prog w s.heap M ds vs →
      (∀ b o, G.hB.get? b = some o → Gr G.T s.heap b o) →
      (∀ v s', Kp G.T s s' → Rp prog w s'.heap M d v → Q v s') → wpAny (model prog w) A (call (.builtin id) vs) Q E s) : EvTo G k sc ρ (.Call (.Name x p) es [] pos) d := by
  intro A env M s Q E ho hv hr hQ
  have hgx := hv.kindG x hx
  refine Call_Name rfl (Calls.Name_function_global hv.kind hgx (Calls.loadGlobal_builtin (hv.glob ▸ Nsp.gr G.g (hr.bnt _)) hm (hv.blt ▸ Nsp.gr G.b (hr.bnt _)) hb ?_) (hv.dbg (by rw [hgx]; simp)))
  refine Calls.callWith_builtin (noStar_any ha pos env) (ha.args ho hv hr fun vs s1 k1 r1 => ?_)
  have hr1 := hr.keeps k1
  exact hc A M s1 vs Q E ho hr1.dom r1 hr1.base fun v s2 k2 r2 => hQ v s2 (k1.trans k2) r2

theorem EvTo.var {x : Str} {pos : Pos} {d : PyData} (h : (x, .own d) ∈ ρ) : EvTo G k sc ρ (.Name x pos) d := by
  intro A env M s Q E ho hv hr hQ
  obtain ⟨v, a, r⟩ := hr.ent _ _ h
  have q := hQ v s Kp.refl r
  rcases a with ⟨hl, m, hn, hm⟩ | ⟨hl, c, hc, hi⟩
  · exact wpAny_Name (wpAny_loadName_local hv.kind hl hn hm q) (hv.dbg (by rw [hl]; simp))
  · rcases hl with hl | hl
    · exact wpAny_Name (wpAny_loadName_cell hv.kind hl hc hi q) (hv.dbg (by rw [hl]; simp))
    · exact wpAny_Name (wpAny_loadName_free hv.kind hl hc hi q (hv.cd (by rw [hl]; simp))) (hv.dbg (by rw [hl]; simp))

theorem EvTo.global {x : Str} {pos : Pos} {d : PyData} {v : Value} (hx : sc.names.lookup x = some .globalImplicit) (hm : G.mg x = some v) (hd : ∀ h M, Rp prog w h M d v) : EvTo G k sc ρ (.Name x pos) d := by
  intro A env M s Q E ho hv hr hQ
  have hgx := hv.kindG x hx
  exact Calls.Name_function_global hv.kind hgx (Calls.loadGlobal_global (hv.glob ▸ Nsp.gr G.g (hr.bnt _)) hm (hQ v s Kp.refl (hd _ _))) (hv.dbg (by rw [hgx]; simp))

theorem EvTo.intC {i : Int} {n : Nat} {pos : Pos} : EvTo G k sc ρ (.Constant (.int i) n pos) (.int i) := by
  intro A env M s Q E ho hv hr hQ
  exact wpAny_Constant_int (hQ _ _ (Kp.tok _) (by simp [Rp]))
theorem EvTo.strC {x : Str} {n : Nat} {pos : Pos} : EvTo G k sc ρ (.Constant (.str x) n pos) (.str x) := by
  intro A env M s Q E ho hv hr hQ
  exact Calls.Constant_str (hQ _ _ (Kp.tok _) (by simp [Rp]))
theorem EvTo.boolC {b : Bool} {n : Nat} {pos : Pos} : EvTo G k sc ρ (.Constant (.bool b) n pos) (.bool b) := by
  intro A env M s Q E ho hv hr hQ
  exact wpAny_pure (hQ _ _ Kp.refl (by simp [Rp]))
theorem EvTo.noneC {n : Nat} {pos : Pos} : EvTo G k sc ρ (.Constant .none n pos) .none := by
  intro A env M s Q E ho hv hr hQ
  exact wpAny_pure (hQ _ _ Kp.refl (by simp [Rp]))

theorem EvTo.bin {op : Operator} {l r : Expr} {pos : Pos} {a b d : PyData} (ha : EvTo G k sc ρ l a) (hb : EvTo G k sc ρ r b)
    (hop : ∀ (A : Around) (M : Addr → Prop) (s : Shared) (u v : Value) (Q : Value → Shared → Prop) (E : Value → Shared → Prop), Ok k A → (∀ a, M a → ∃ o, s.heap.get? a = some o) → Rp prog w s.heap M a u → Rp prog w s.heap M b v →
      (∀ b o, G.hB.get? b = some o → Gr G.T s.heap b o) →
      (∀ x s', Kp G.T s s' → Rp prog w s'.heap M d x → Q x s') → wpAny (model prog w) A (binaryOp op u v) Q E s) : EvTo G k sc ρ (.BinOp l op r pos) d := by
  intro A env M s Q E ho hv hr hQ
  refine wpAny_BinOp (ha A env M s _ _ ho hv hr fun u s1 k1 r1 => hb A env M s1 _ _ ho hv (hr.keeps k1) fun v s2 k2 r2 => ?_)
  exact hop A M s2 u v Q E ho (hr.keeps (k1.trans k2)).dom (Rp.agr k2.agr _ _ r1) r2 (hr.keeps (k1.trans k2)).base fun x s3 k3 r3 => hQ x s3 ((k1.trans k2).trans k3) r3

/-- ints: one made -/
theorem EvTo.binInt {op : Operator} {l r : Expr} {pos : Pos} {a b c : Int} (ha : EvTo G k sc ρ l (.int a)) (hb : EvTo G k sc ρ r (.int b))
    (hop : ∀ (A : Around) (s : Shared) (t u : Tok) (Q : Value → Shared → Prop) (E : Value → Shared → Prop), A.handled = .none → (∀ b o, G.hB.get? b = some o → Gr G.T s.heap b o) →
      Q (.int c s.toks) { s with toks := s.toks + 1 } → wpAny (model prog w) A (binaryOp op (.int a t) (.int b u)) Q E s) : EvTo G k sc ρ (.BinOp l op r pos) (.int c) :=
  EvTo.bin ha hb fun A M s u v Q E ho _ r1 r2 hb hQ => by
    simp only [Rp] at r1 r2
    obtain ⟨t, rfl⟩ := r1
    obtain ⟨t', rfl⟩ := r2
    exact hop A s t t' Q E ho.hh hb (hQ _ _ (Kp.tok _) (by simp [Rp]))

theorem EvTo.add {l r : Expr} {pos : Pos} {a b : Int} (ha : EvTo G k sc ρ l (.int a)) (hb : EvTo G k sc ρ r (.int b)) : EvTo G k sc ρ (.BinOp l .Add r pos) (.int (a + b)) :=
  EvTo.binInt ha hb fun _ _ _ _ _ _ _ _ h => PyProof.Rows.add_int h
theorem EvTo.sub {l r : Expr} {pos : Pos} {a b : Int} (ha : EvTo G k sc ρ l (.int a)) (hb : EvTo G k sc ρ r (.int b)) : EvTo G k sc ρ (.BinOp l .Sub r pos) (.int (a - b)) :=
  EvTo.binInt ha hb fun _ _ _ _ _ _ _ _ h => PyProof.Rows.sub_int h
theorem EvTo.mul {l r : Expr} {pos : Pos} {a b : Int} (ha : EvTo G k sc ρ l (.int a)) (hb : EvTo G k sc ρ r (.int b)) (hm : IntMulOk a b) : EvTo G k sc ρ (.BinOp l .Mult r pos) (.int (a * b)) :=
  EvTo.binInt ha hb fun _ _ _ _ _ _ _ _ h => PyProof.Rows.mul_int h hm
theorem EvTo.fdiv {l r : Expr} {pos : Pos} {a b : Int} (ha : EvTo G k sc ρ l (.int a)) (hb : EvTo G k sc ρ r (.int b)) (h0 : b ≠ 0) (hs : b.natAbs.log2 < 9000) : EvTo G k sc ρ (.BinOp l .FloorDiv r pos) (.int (a.fdiv b)) :=
  EvTo.binInt ha hb fun _ _ _ _ _ _ _ _ h => PyProof.Rows.floordiv_int h0 h (Or.inl (PyProof.noPylong_of_log2 hs))
theorem EvTo.fmod {l r : Expr} {pos : Pos} {a b : Int} (ha : EvTo G k sc ρ l (.int a)) (hb : EvTo G k sc ρ r (.int b)) (h0 : b ≠ 0) : EvTo G k sc ρ (.BinOp l .Mod r pos) (.int (a.fmod b)) :=
  EvTo.binInt ha hb fun _ _ _ _ _ _ _ _ h => PyProof.Rows.mod_int' h0 h
theorem EvTo.pow {l r : Expr} {pos : Pos} {a b : Int} (ha : EvTo G k sc ρ l (.int a)) (hb : EvTo G k sc ρ r (.int b)) (h0 : 0 ≤ b) (hs : (Builtin.Int.intBits a : Int) * b ≤ 2 ^ 27) : EvTo G k sc ρ (.BinOp l .Pow r pos) (.int (a ^ b.toNat)) :=
  EvTo.binInt ha hb fun _ _ _ _ _ _ _ _ h => PyProof.Rows.pow_int h0 hs h
theorem EvTo.lsh {l r : Expr} {pos : Pos} {a b : Int} (ha : EvTo G k sc ρ l (.int a)) (hb : EvTo G k sc ρ r (.int b)) (h0 : 0 ≤ b) (hs : (Builtin.Int.intBits a : Int) + b ≤ 2 ^ 27) : EvTo G k sc ρ (.BinOp l .LShift r pos) (.int (a * 2 ^ b.toNat)) :=
  EvTo.binInt ha hb fun _ _ _ _ _ _ _ _ h => PyProof.Rows.lshift_int h0 hs h
theorem EvTo.rsh {l r : Expr} {pos : Pos} {a b : Int} (ha : EvTo G k sc ρ l (.int a)) (hb : EvTo G k sc ρ r (.int b)) (h0 : 0 ≤ b) : EvTo G k sc ρ (.BinOp l .RShift r pos) (.int (a.fdiv (2 ^ b.toNat))) :=
  EvTo.binInt ha hb fun _ _ _ _ _ _ _ _ h => PyProof.Rows.rshift_int h0 h
theorem EvTo.bor {l r : Expr} {pos : Pos} {a b : Int} (ha : EvTo G k sc ρ l (.int a)) (hb : EvTo G k sc ρ r (.int b)) : EvTo G k sc ρ (.BinOp l .BitOr r pos) (.int (Builtin.bitOr a b)) :=
  EvTo.binInt ha hb fun _ _ _ _ _ _ _ _ h => PyProof.Rows.or_int h
theorem EvTo.bxor {l r : Expr} {pos : Pos} {a b : Int} (ha : EvTo G k sc ρ l (.int a)) (hb : EvTo G k sc ρ r (.int b)) : EvTo G k sc ρ (.BinOp l .BitXor r pos) (.int (Builtin.bitXor a b)) :=
  EvTo.binInt ha hb fun _ _ _ _ _ _ _ _ h => PyProof.Rows.xor_int h

end
end Mine
end
section
open PySem PyProof.Rows
set_option Elab.async false
namespace Mine
section
variable {prog : Program} {w : World} {G : Gl prog w} {k : Nat} {sc : Scope} {ρ : VEnv}

/-! ## from Rp to the library's Reads -/
mutual
theorem Rp.reads {h : Heap} {M : Addr → Prop} : ∀ (d : PyData) (v : Value), d.canLay0 = true → Rp prog w h M d v → ∃ as, Reads h v d as
  | .none, v, _, r => by simp only [Rp] at r; subst r; exact ⟨[], .none⟩
  | .bool b, v, _, r => by simp only [Rp] at r; subst r; exact ⟨[], .bool b⟩
  | .int i, v, _, r => by simp only [Rp] at r; obtain ⟨t, rfl⟩ := r; exact ⟨[], .int i t⟩
  | .str x, v, _, r => by simp only [Rp] at r; obtain ⟨t, rfl⟩ := r; exact ⟨[], .str x t⟩
  | .list ds, v, hc, r => by
    simp only [Rp] at r
    obtain ⟨a, items, rfl, _, hl, hr, _⟩ := r
    obtain ⟨as, hs⟩ := RpL.reads ds _ (by simpa [PyData.canLay0] using hc) hr
    obtain ⟨o, h1, h2, n, h3⟩ := hl.isList
    exact ⟨_, .list h1 h2 h3 hs⟩
  | .tuple ds, v, hc, r => by
    simp only [Rp] at r
    obtain ⟨a, items, rfl, _, hl, hr⟩ := r
    obtain ⟨as, hs⟩ := RpL.reads ds _ (by simpa [PyData.canLay0] using hc) hr
    obtain ⟨o, h1, h2, n, h3⟩ := hl
    exact ⟨_, .tuple h1 h2 h3 hs⟩
  | .dict D, v, hc, _ => by simp [PyData.canLay0] at hc
theorem RpL.reads {h : Heap} {M : Addr → Prop} : ∀ (ds : List PyData) (vs : List Value), PyData.canLayAll0 ds = true → RpL prog w h M ds vs → ∃ as, ReadsAll h vs ds as
  | [], vs, _, r => by simp only [RpL] at r; subst r; exact ⟨[], .nil⟩
  | d :: ds, vs, hc, r => by
    simp only [RpL] at r
    obtain ⟨v, q, rfl, h1, h2⟩ := r
    rw [PyData.canLayAll0, Bool.and_eq_true] at hc
    obtain ⟨as, r1⟩ := Rp.reads d v hc.1 h1
    obtain ⟨bs, r2⟩ := RpL.reads ds q hc.2 h2
    exact ⟨_, .cons r1 r2⟩
end

/-! ## unary -/
theorem EvTo.neg {e : Expr} {pos : Pos} {a : Int} (ha : EvTo G k sc ρ e (.int a)) : EvTo G k sc ρ (.UnaryOp .USub e pos) (.int (-a)) := by
  intro A env M s Q E ho hv hr hQ
  refine UnaryOp_ (ha A env M s _ _ ho hv hr fun v s1 k1 r1 => ?_)
  simp only [Rp] at r1
  obtain ⟨t, rfl⟩ := r1
  exact PyProof.Rows.neg_int (hQ _ _ (k1.trans (Kp.tok _)) (by simp [Rp]))
theorem EvTo.inv {e : Expr} {pos : Pos} {a : Int} (ha : EvTo G k sc ρ e (.int a)) : EvTo G k sc ρ (.UnaryOp .Invert e pos) (.int (Builtin.bitNot a)) := by
  intro A env M s Q E ho hv hr hQ
  refine UnaryOp_ (ha A env M s _ _ ho hv hr fun v s1 k1 r1 => ?_)
  simp only [Rp] at r1
  obtain ⟨t, rfl⟩ := r1
  exact PyProof.Rows.invert_int (hQ _ _ (k1.trans (Kp.tok _)) (by simp [Rp]))

/-! ## truth -/
/-- the truth of a datum -/
noncomputable def TruD : PyData → Bool
  | .bool b => b
  | .int i => i != 0
  | .list ds => !ds.isEmpty
  | .none => false
  | .str x => !(x.length == 0)
  | .tuple ds => !ds.isEmpty
  | .dict D => !D.isEmpty

noncomputable def Truthable : PyData → Prop
  | .bool _ | .int _ | .list _ | .none => True
  | _ => False

theorem truthy_rp {A : Around} {M : Addr → Prop} {s : Shared} {d : PyData} {v : Value} {Q : Bool → Shared → Prop} {E : Value → Shared → Prop} (hk : Truthable d)
    (r : Rp prog w s.heap M d v) (hQ : ∀ s', Kp G.T s s' → Q (TruD d) s') : wpAny (model prog w) A (truthy v) Q E s := by
  cases d with
  | none => simp only [Rp] at r; subst r; exact truthy_none (hQ _ Kp.refl)
  | bool b => simp only [Rp] at r; subst r; exact wpAny_truthy_bool (hQ _ Kp.refl)
  | int i => simp only [Rp] at r; obtain ⟨t, rfl⟩ := r; exact PyProof.Rows.truthy_int (hQ _ Kp.refl)
  | list ds =>
    simp only [Rp] at r
    obtain ⟨a, items, rfl, _, hl, hr, hb⟩ := r
    have hlen := hr.length
    have hsz : items.size = ds.length := by rw [← hlen]; simp
    refine wpAny_truthy_list hl.isList (by rw [hsz]; unfold lid at hb; lia) ?_
    have q := hQ _ (Kp.tok (s.toks + 1 + 1))
    have e : (decide ((items.size : Int) ≠ 0)) = TruD (.list ds) := by
      rw [hsz]; cases ds <;> simp [TruD]; lia
    first
      | (rw [e]; exact q)
      | (have e' : (!items.isEmpty) = TruD (.list ds) := by
           simp only [TruD]; congr 1
           have : items.isEmpty = items.toList.isEmpty := by simp
           cases ds with
           | nil => simp at hlen; simp [hlen]
           | cons d ds => cases hi : items.toList <;> simp_all
         rw [e']; exact q)
  | str x => exact hk.elim
  | tuple x => exact hk.elim
  | dict x => exact hk.elim

theorem TrTo.of {e : Expr} {d : PyData} (he : EvTo G k sc ρ e d) (hk : Truthable d)
    (hp : ∀ env whole, isTrue e env whole = (do let v ← whole; standAt e.pos; holding [v] (truthy v))) : TrTo G k sc ρ e (TruD d) := by
  intro A env M s Q E ho hv hr hQ
  exact isTrue_plain (he A env M s _ _ ho hv hr fun v s1 k1 r1 => truthy_rp hk r1 fun s2 k2 => hQ s2 (k1.trans k2)) (hp _ _)

theorem TrTo.not {e : Expr} {pos : Pos} {b : Bool} (he : TrTo G k sc ρ e b) : TrTo G k sc ρ (.UnaryOp .Not e pos) (!b) := by
  intro A env M s Q E ho hv hr hQ
  exact isTrue_not (he A env M s _ _ ho hv hr fun s1 k1 => hQ s1 k1)
theorem TrTo.or_nil {pos : Pos} : TrTo G k sc ρ (.BoolOp .Or [] pos) false := by
  intro A env M s Q E ho hv hr hQ
  exact isTrue_or_nil (hQ _ Kp.refl)
theorem TrTo.or_cons {e : Expr} {es : List Expr} {pos : Pos} {b c : Bool} (he : TrTo G k sc ρ e b) (hr' : b = false → TrTo G k sc ρ (.BoolOp .Or es pos) c) (hc : b = true → c = true) :
    TrTo G k sc ρ (.BoolOp .Or (e :: es) pos) c := by
  intro A env M s Q E ho hv hr hQ
  refine isTrue_or (he A env M s _ _ ho hv hr fun s1 k1 => ?_)
  cases b with
  | false => exact hr' rfl A env M s1 Q E ho hv (hr.keeps k1) fun s2 k2 => hQ s2 (k1.trans k2)
  | true => simp only [if_true]; rw [← hc rfl]; exact hQ s1 k1

/-! ## comparisons -/
noncomputable def CmpOk (G : Gl prog w) (k : Nat) (op : CmpOp) (a b : PyData) (c : Bool) : Prop :=
  ∀ (A : Around) (M : Addr → Prop) (s : Shared) (u v : Value) (Q : Value → Shared → Prop) (E : Value → Shared → Prop), Ok k A → Rp prog w s.heap M a u → Rp prog w s.heap M b v →
    (∀ s', Kp G.T s s' → Q (.bool c) s') → wpAny (model prog w) A (compareOp op u v) Q E s

theorem EvTo.cmp {l r : Expr} {op : CmpOp} {pos : Pos} {a b : PyData} {c : Bool} (ha : EvTo G k sc ρ l a) (hb : EvTo G k sc ρ r b) (hop : CmpOk G k op a b c) (hm : behindInMarks op r = false) :
    EvTo G k sc ρ (.Compare l [op] [r] pos) (.bool c) := by
  intro A env M s Q E ho hv hr hQ
  refine wpAny_Compare1 (ha A env M s _ _ ho hv hr fun u s1 k1 r1 => hb A env M s1 _ _ ho hv (hr.keeps k1) fun v s2 k2 r2 => ?_) hm
  exact hop A M s2 u v Q E ho (Rp.agr k2.agr _ _ r1) r2 fun s3 k3 => hQ _ s3 ((k1.trans k2).trans k3) (by simp [Rp])
theorem TrTo.cmp {l r : Expr} {op : CmpOp} {pos : Pos} {a b : PyData} {c : Bool} (ha : EvTo G k sc ρ l a) (hb : EvTo G k sc ρ r b) (hop : CmpOk G k op a b c) (hm : behindInMarks op r = false) :
    TrTo G k sc ρ (.Compare l [op] [r] pos) c := by
  intro A env M s Q E ho hv hr hQ
  refine wpAny_isTrue_Compare1 (ha A env M s _ _ ho hv hr fun u s1 k1 r1 => hb A env M s1 _ _ ho hv (hr.keeps k1) fun v s2 k2 r2 => ?_) hm
  exact hop A M s2 u v _ E ho (Rp.agr k2.agr _ _ r1) r2 fun s3 k3 => wpAny_truthy_bool (hQ s3 ((k1.trans k2).trans k3))

section
variable {i j : Int} {x y : Str}
theorem CmpOk.ints {op : CmpOp} {c : Bool} (h : ∀ (A : Around) (s : Shared) (t u : Tok) (Q : Value → Shared → Prop) (E : Value → Shared → Prop), Q (.bool c) s → wpAny (model prog w) A (compareOp op (.int i t) (.int j u)) Q E s) : CmpOk G k op (.int i) (.int j) c := by
  intro A M s u v Q E ho r1 r2 hQ
  simp only [Rp] at r1 r2
  obtain ⟨t, rfl⟩ := r1
  obtain ⟨t', rfl⟩ := r2
  exact h A s t t' Q E (hQ _ Kp.refl)
theorem CmpOk.eqI : CmpOk G k .Eq (.int i) (.int j) (i == j) := .ints fun _ _ _ _ _ _ h => PyProof.Rows.eq_int h
theorem CmpOk.ltI : CmpOk G k .Lt (.int i) (.int j) (decide (i < j)) := .ints fun _ _ _ _ _ _ h => PyProof.Rows.lt_int h
theorem CmpOk.leI : CmpOk G k .LtE (.int i) (.int j) (decide (i ≤ j)) := .ints fun _ _ _ _ _ _ h => PyProof.Rows.le_int h
theorem CmpOk.gtI : CmpOk G k .Gt (.int i) (.int j) (decide (i > j)) := .ints fun _ _ _ _ _ _ h => PyProof.Rows.gt_int h
theorem CmpOk.geI : CmpOk G k .GtE (.int i) (.int j) (decide (i ≥ j)) := .ints fun _ _ _ _ _ _ h => PyProof.Rows.ge_int h
theorem CmpOk.strs {op : CmpOp} {c : Bool} (h : ∀ (A : Around) (s : Shared) (t u : Tok) (Q : Value → Shared → Prop) (E : Value → Shared → Prop), Q (.bool c) s → wpAny (model prog w) A (compareOp op (.str x t) (.str y u)) Q E s) : CmpOk G k op (.str x) (.str y) c := by
  intro A M s u v Q E ho r1 r2 hQ
  simp only [Rp] at r1 r2
  obtain ⟨t, rfl⟩ := r1
  obtain ⟨t', rfl⟩ := r2
  exact h A s t t' Q E (hQ _ Kp.refl)
theorem CmpOk.eqS : CmpOk G k .Eq (.str x) (.str y) (x == y) := .strs fun _ _ _ _ _ _ h => PyProof.Rows.eq_str h
theorem CmpOk.inS : CmpOk G k .In (.str x) (.str y) (!(Builtin.Str.occurrences y x 0 y.length 1).isEmpty) := .strs fun _ _ _ _ _ _ h => PyProof.Rows.in_str h
theorem CmpOk.ninS : CmpOk G k .NotIn (.str x) (.str y) (!(!(Builtin.Str.occurrences y x 0 y.length 1).isEmpty)) := .strs fun _ _ _ _ _ _ h => PyProof.Rows.notIn_str h
theorem CmpOk.isnB {a b : Bool} : CmpOk G k .IsNot (.bool a) (.bool b) (a != b) := by
  intro A M s u v Q E ho r1 r2 hQ
  simp only [Rp] at r1 r2
  subst r1; subst r2
  exact isnot_bool (hQ _ Kp.refl)
theorem CmpOk.data {op : CmpOp} {a b : PyData} {c : Bool} (ha : a.canLay0 = true) (hb : b.canLay0 = true)
    (h : ∀ (A : Around) (s : Shared) (u v : Value) (as bs : List Addr) (Q : Value → Shared → Prop) (E : Value → Shared → Prop), Ok k A → Reads s.heap u a as → Reads s.heap v b bs → Q (.bool c) s → wpAny (model prog w) A (compareOp op u v) Q E s) : CmpOk G k op a b c := by
  intro A M s u v Q E ho r1 r2 hQ
  obtain ⟨as, r1⟩ := Rp.reads _ _ ha r1
  obtain ⟨bs, r2⟩ := Rp.reads _ _ hb r2
  exact h A s u v as bs Q E ho r1 r2 (hQ _ Kp.refl)
theorem CmpOk.neD {a b : PyData} (ha : a.canLay0 = true) (hb : b.canLay0 = true) (hd : a.depth ≤ 64) : CmpOk G k .NotEq a b (!PyData.eqv a b) :=
  .data ha hb fun A s u v as bs Q E ho r1 r2 h => SeqAt.compareNe_reads r1 r2 ha hb (by have := ho.units; have : cLine = 9900 := rfl; have := Nat.min_le_left a.depth b.depth; lia) h
end

end
end Mine
end
section
open PySem PyProof.Rows
set_option Elab.async false
set_option linter.unusedVariables false
namespace Mine
section
variable {prog : Program} {w : World} {G : Gl prog w} {k : Nat} {sc : Scope} {ρ : VEnv}

theorem lid_le : lid ≤ sizeLine := by decide
theorem fresh_none {h : Heap} {a : Addr} (ha : h.objs.size ≤ a) : h.get? a = none := by
  cases e : h.get? a with
  | none => rfl
  | some o => exact absurd (Heap.lt_size e) (Nat.not_lt.mpr ha)
theorem not_M {s : Shared} {M : Addr → Prop} (hd : ∀ a, M a → ∃ o, s.heap.get? a = some o) {a : Addr} (ha : s.heap.get? a = none) : ¬ M a := fun h => by
  obtain ⟨o, e⟩ := hd a h; rw [ha] at e; cases e

/-! ## displays -/
theorem EvTo.list {es : List Expr} {pos : Pos} {ds : List PyData} (ha : EvAll G k sc ρ es ds) (hl : ds.length ≤ lid) : EvTo G k sc ρ (.List es pos) (.list ds) := by
  intro A env M s Q E ho hv hr hQ
  refine List_ (ha.run ho hv hr fun vs s1 k1 r1 => ?_)
  have hlen := r1.length
  refine wpAny_newObj_type (hQ _ _ (k1.trans (Kp.push _ _)) ?_) (by show vs.toArray.size ≤ sizeLine; rw [List.size_toArray, hlen]; exact Nat.le_trans hl lid_le)
  simp only [Rp]
  refine ⟨_, vs.toArray, rfl, not_M (hr.keeps k1).dom (fresh_none (Nat.le_refl _)), ⟨0, Heap.get?_push_size _ rfl⟩, RpL.agr Agr.push _ _ r1, hl⟩

theorem EvTo.tuple {es : List Expr} {n : Nat} {pos : Pos} {ds : List PyData} (ha : EvAll G k sc ρ es ds) (hl : ds.length ≤ lid := by decide) : EvTo G k sc ρ (.Tuple es n pos) (.tuple ds) := by
  intro A env M s Q E ho hv hr hQ
  refine Tuple_ (ha.run ho hv hr fun vs s1 k1 r1 => ?_)
  have hlen := r1.length
  refine wpAny_newObj_type (hQ _ _ (k1.trans (Kp.push _ _)) ?_) (by show vs.toArray.size ≤ sizeLine; rw [List.size_toArray, hlen]; exact Nat.le_trans hl lid_le)
  simp only [Rp]
  refine ⟨_, vs.toArray, rfl, not_M (hr.keeps k1).dom (fresh_none (Nat.le_refl _)), ⟨_, Heap.get?_push_size _ rfl, rfl, _, rfl⟩, RpL.agr Agr.push _ _ r1⟩

/-! ## a list read: the frame's own growing one, or any other -/
noncomputable def EvL (G : Gl prog w) (k : Nat) (sc : Scope) (ρ : VEnv) (e : Expr) (ds : List PyData) : Prop :=
  ∀ (A : Around) (env : Env) (M : Addr → Prop) (s : Shared) (Q : Value → Shared → Prop) (E : Value → Shared → Prop), Ok k A → EnvOk sc env → VR G env M ρ s →
    (∀ a items s', Kp G.T s s' → s'.heap.PlainList a items → RpL prog w s'.heap M ds items.toList → ds.length ≤ lid → Q (.ref a) s') → wpAny (model prog w) A (eval e env) Q E s

theorem EvL.of {e : Expr} {ds : List PyData} (h : EvTo G k sc ρ e (.list ds)) : EvL G k sc ρ e ds := by
  intro A env M s Q E ho hv hr hQ
  refine h A env M s Q E ho hv hr fun v s1 k1 r1 => ?_
  simp only [Rp] at r1
  obtain ⟨a, items, rfl, _, h1, h2, h3⟩ := r1
  exact hQ a items s1 k1 h1 h2 h3
theorem Acc.name {A : Around} {env : Env} {s : Shared} {x : Str} {pos : Pos} {v : Value} {Q : Value → Shared → Prop} {E : Value → Shared → Prop} (hv : EnvOk sc env) (a : Acc env s.heap x v) (q : Q v s) :
    wpAny (model prog w) A (eval (.Name x pos) env) Q E s := by
  rcases a with ⟨hl, m, hn, hm⟩ | ⟨hl, c, hc, hi⟩
  · exact wpAny_Name (wpAny_loadName_local hv.kind hl hn hm q) (hv.dbg (by rw [hl]; simp))
  · rcases hl with hl | hl
    · exact wpAny_Name (wpAny_loadName_cell hv.kind hl hc hi q) (hv.dbg (by rw [hl]; simp))
    · exact wpAny_Name (wpAny_loadName_free hv.kind hl hc hi q (hv.cd (by rw [hl]; simp))) (hv.dbg (by rw [hl]; simp))
theorem EvL.mu {x : Str} {pos : Pos} {ds : List PyData} (h : (x, .mu ds) ∈ ρ) : EvL G k sc ρ (.Name x pos) ds := by
  intro A env M s Q E ho hv hr hQ
  obtain ⟨a, items, ha, _, hl, hr', hb⟩ := hr.ent _ _ h
  exact ha.name hv (hQ a items s Kp.refl hl hr' hb)

theorem EvTo.item {e i : Expr} {pos : Pos} {ds : List PyData} {n : Int} {d : PyData} (he : EvL G k sc ρ e ds) (hi : EvTo G k sc ρ i (.int n)) (h0 : 0 ≤ n) (hd : ds[n.toNat]? = some d)
    (hs : ∀ o i', subscripted i false o i' = operate [o, i'] (getItem o i')) : EvTo G k sc ρ (.Subscript e i pos) d := by
  intro A env M s Q E ho hv hr hQ
  refine Subscript_ (he A env M s _ _ ho hv hr fun a items s1 k1 hl r1 hb => hi A env M s1 _ _ ho hv (hr.keeps k1) fun v s2 k2 r2 => ?_)
  simp only [Rp] at r2
  obtain ⟨t, rfl⟩ := r2
  have r1' := RpL.agr k2.agr _ _ r1
  obtain ⟨u, hu, ru⟩ := r1'.get hd
  have hl' : s2.heap.PlainList a items := PL.gr hl (k2.nt _)
  have hlt : n.toNat < ds.length := (List.getElem?_eq_some_iff.mp hd).1
  refine tail_any (T := "list") hl'.isList.typeIs slot_list_getitem.lookup (wpAny_getItem_list hl'.isList h0 (by unfold lid at hb; lia) (by simpa using hu) (hQ u s2 (k1.trans k2) ru)) (hs _ _)

theorem EvTo.itemN {e i : Expr} {pos : Pos} {ds : List PyData} {n : Int} {d : PyData} (he : EvL G k sc ρ e ds) (hi : EvTo G k sc ρ i (.int n)) (h0 : n < 0) (h1 : -(ds.length : Int) ≤ n) (hd : ds[(n + ds.length).toNat]? = some d)
    (hs : ∀ o i', subscripted i false o i' = operate [o, i'] (getItem o i')) : EvTo G k sc ρ (.Subscript e i pos) d := by
  intro A env M s Q E ho hv hr hQ
  refine Subscript_ (he A env M s _ _ ho hv hr fun a items s1 k1 hl r1 hb => hi A env M s1 _ _ ho hv (hr.keeps k1) fun v s2 k2 r2 => ?_)
  simp only [Rp] at r2
  obtain ⟨t, rfl⟩ := r2
  have r1' := RpL.agr k2.agr _ _ r1
  obtain ⟨u, hu, ru⟩ := r1'.get hd
  have hlen : items.size = ds.length := by have := r1.length; simpa using this
  have hl' : s2.heap.PlainList a items := PL.gr hl (k2.nt _)
  refine tail_any (T := "list") hl'.isList.typeIs slot_list_getitem.lookup (wpAny_getItem_list_neg hl'.isList h0 (by rw [hlen]; exact h1) (by unfold lid at hb; lia) (by rw [hlen]; simpa using hu) (hQ u s2 (k1.trans k2) ru)) (hs _ _)

theorem EvTo.itemS {e i : Expr} {pos : Pos} {x : Str} {n : Int} (he : EvTo G k sc ρ e (.str x)) (hi : EvTo G k sc ρ i (.int n)) (hf : fitsSsize n = true) (hin : (Txt.charAt x n).isSome = true)
    (hs : ∀ o i', subscripted i false o i' = operate [o, i'] (getItem o i')) : EvTo G k sc ρ (.Subscript e i pos) (.str (Txt.item x n)) := by
  intro A env M s Q E ho hv hr hQ
  refine Subscript_ (he A env M s _ _ ho hv hr fun v0 s1 k1 r1 => hi A env M s1 _ _ ho hv (hr.keeps k1) fun v s2 k2 r2 => ?_)
  simp only [Rp] at r1 r2
  obtain ⟨t, rfl⟩ := r2
  obtain ⟨t', rfl⟩ := r1
  exact tail_any (T := "str") (typeIs_str _ _ _) F.slot_str_getitem.lookup (SB.getItem hf hin (hQ _ _ ((k1.trans k2).trans (Kp.tok _)) (by simp [Rp]))) (hs _ _)

/-! ## slices -/
/-- a bound of a slice: left out, or an int -/
inductive PartTo (G : Gl prog w) (k : Nat) (sc : Scope) (ρ : VEnv) : Option Expr → Option Int → Prop
  | none : PartTo G k sc ρ none none
  | some {e n} : EvTo G k sc ρ e (.int n) → PartTo G k sc ρ (some e) (some n)

theorem PartTo.run {x : Option Expr} {n : Option Int} (h : PartTo G k sc ρ x n) {A : Around} {env : Env} {M : Addr → Prop} {s : Shared} {Q : Value → Shared → Prop} {E : Value → Shared → Prop} (ho : Ok k A) (hv : EnvOk sc env) (hr : VR G env M ρ s)
    (hQ : ∀ v s', Kp G.T s s' → IsPart v n → Q v s') : wpAny (model prog w) A (evalPart x env) Q E s := by
  cases h with
  | none => exact wpAny_pure (hQ _ _ Kp.refl .none)
  | some he =>
    refine he A env M s Q E ho hv hr fun v s1 k1 r1 => ?_
    simp only [Rp] at r1
    obtain ⟨t, rfl⟩ := r1
    exact hQ _ _ k1 (.int _ _)

theorem sub_slice_ops (l u st : Option Expr) (p : Pos) (o i : Value) : ∃ ops, subscripted (.Slice l u st p) false o i = operate ops (getItem o i) := by
  cases st with
  | none => exact ⟨[i, o], rfl⟩
  | some e => exact ⟨[o, i], rfl⟩

theorem slicePick_map {items : Array Value} {lo hi st : Option Int} : (slicePick items lo hi st).toList = (sliceRange (sliceBounds lo hi st items.size).1 (sliceBounds lo hi st items.size).2.1 (sliceBounds lo hi st items.size).2.2).filterMap (items.toList[·]?) := by
  unfold slicePick; simp

noncomputable def pickL (ds : List PyData) (lo hi st : Option Int) : List PyData := (sliceRange (sliceBounds lo hi st ds.length).1 (sliceBounds lo hi st ds.length).2.1 (sliceBounds lo hi st ds.length).2.2).filterMap (ds[·]?)

theorem RpL.picks {h : Heap} {M : Addr → Prop} {ds : List PyData} {vs : List Value} (r : RpL prog w h M ds vs) : ∀ (is : List Nat), RpL prog w h M (is.filterMap (ds[·]?)) (is.filterMap (vs[·]?))
  | [] => RpL.nil
  | i :: is => by
    have ih := RpL.picks r is
    cases hd : ds[i]? with
    | none =>
      have hv : vs[i]? = none := by rw [List.getElem?_eq_none_iff] at hd ⊢; rw [r.length]; exact hd
      simpa [hd, hv] using ih
    | some d =>
      obtain ⟨v, hv, hr⟩ := r.get hd
      simp only [List.filterMap_cons, hd, hv]
      exact RpL.cons hr ih

theorem pickL_length_le (ds : List PyData) (lo hi st : Option Int) : (pickL ds lo hi st).length ≤ ds.length := by
  have h := slicePick_size_le (ds.map fun _ => Value.none).toArray lo hi st
  have e : (pickL ds lo hi st).length = (slicePick (ds.map fun _ => Value.none).toArray lo hi st).size := by
    rw [show (slicePick (ds.map fun _ => Value.none).toArray lo hi st).size = (slicePick (ds.map fun _ => Value.none).toArray lo hi st).toList.length by simp, slicePick_map]
    simp only [pickL, List.size_toArray, List.length_map]
    generalize sliceRange _ _ _ = is
    induction is with
    | nil => rfl
    | cons i is ih =>
      simp only [List.filterMap_cons]
      cases hd : ds[i]? with
      | none => simp [hd, ih]
      | some d => simp [hd, ih]
  rw [e]; simpa using h

theorem EvTo.sliceL {e : Expr} {l u st : Option Expr} {p pos : Pos} {ds : List PyData} {lo hi step : Option Int} (he : EvL G k sc ρ e ds) (hl : PartTo G k sc ρ l lo) (hu : PartTo G k sc ρ u hi) (hst : PartTo G k sc ρ st step)
    (h0 : step ≠ some 0) : EvTo G k sc ρ (.Subscript e (.Slice l u st p) pos) (.list (pickL ds lo hi step)) := by
  intro A env M s Q E ho hv hr hQ
  refine Subscript_ (he A env M s _ _ ho hv hr fun a items s1 k1 hl1 r1 hb => wpAny_Slice (hl.run ho hv (hr.keeps k1) fun vl s2 k2 p2 => hu.run ho hv (hr.keeps (k1.trans k2)) fun vu s3 k3 p3 => hst.run ho hv (hr.keeps ((k1.trans k2).trans k3)) fun vst s4 k4 p4 => ?_))
  have k14 := (k2.trans k3).trans k4
  have hl4 : s4.heap.PlainList a items := PL.gr hl1 (k14.nt _)
  have hlen : items.size = ds.length := by have := r1.length; simpa using this
  obtain ⟨ops, hs⟩ := sub_slice_ops l u st p (.ref a) (.ref s4.heap.objs.size)
  have hp : (s4.heap.push { cls := .type "slice", data := .fields #[vl, vu, vst] }).PlainList a items := PL.push hl4
  refine tail_any (T := "list") (ops := ops) hp.isList.typeIs slot_list_getitem.lookup (wpAny_getItem_list_slice hp.isList (Heap.IsSliceOf.new ..) p2 p3 p4 h0 ?_ (by rw [hlen]; exact Nat.le_trans hb lid_le)) hs
  refine hQ _ _ ((k1.trans k14).trans ((Kp.push _ _).trans (Kp.push _ _))) ?_
  simp only [Rp]
  have kk : Agr M s1.heap ((s4.heap.push { cls := .type "slice", data := .fields #[vl, vu, vst] }).push { cls := .type "list", data := .seq (slicePick items lo hi step) }) :=
    fun b o _ n e => Heap.get?_push_of_some _ (Heap.get?_push_of_some _ (k14.nt _ _ n e))
  refine ⟨_, slicePick items lo hi step, rfl, ?_, ⟨0, Heap.get?_push_size _ rfl⟩, ?_, Nat.le_trans (pickL_length_le ..) hb⟩
  · exact not_M ((hr.keeps (k1.trans k14)).dom) (fresh_none (by simp only [Heap.size_push]; lia))
  · rw [slicePick_map, hlen]
    exact RpL.picks (RpL.agr kk _ _ r1) _

/-! ## len -/
theorem EvTo.lenL {e : Expr} {p pos : Pos} {x : Str} {ds : List PyData} (hx : sc.names.lookup x = some .globalImplicit) (hm : G.mg x = none) (hb : G.mb x = some (.builtin "len")) (he : EvL G k sc ρ e ds) (hn : NotStar e) :
    EvTo G k sc ρ (.Call (.Name x p) [e] [] pos) (.int ds.length) := by
  intro A env M s Q E ho hv hr hQ
  have hgx := hv.kindG x hx
  refine Call_Name rfl (Calls.Name_function_global hv.kind hgx (Calls.loadGlobal_builtin (hv.glob ▸ Nsp.gr G.g (hr.bnt _)) hm (hv.blt ▸ Nsp.gr G.b (hr.bnt _)) hb ?_) (hv.dbg (by rw [hgx]; simp)))
  rw [backTo_cons hn]
  refine Calls.callWith_builtin rfl (Calls.evalArgs_plain (Calls.spliced_cons (he A env M s _ _ ho hv hr fun a items s1 k1 hl1 r1 hb1 => Calls.spliced_nil ?_)))
  have hlen : items.size = ds.length := by have := r1.length; simpa using this
  refine PyProof.Rows.len_list hl1.isList (by rw [hlen]; unfold lid at hb1; lia) (hQ _ _ (k1.trans (Kp.tok _)) ?_)
  simp only [Rp, hlen]; exact ⟨_, rfl⟩
theorem EvTo.lenS {e : Expr} {p pos : Pos} {x : Str} {y : Str} (hx : sc.names.lookup x = some .globalImplicit) (hm : G.mg x = none) (hb : G.mb x = some (.builtin "len")) (he : EvTo G k sc ρ e (.str y)) (hn : NotStar e) (hy : y.length < 2 ^ 62) :
    EvTo G k sc ρ (.Call (.Name x p) [e] [] pos) (.int y.length) :=
  EvTo.blt hx hm hb (.cons hn he .nil) fun A M s vs Q E ho hd r _ hQ => by
    obtain ⟨v, hv, r1⟩ := r.get (i := 0) rfl
    have hlen := r.length
    obtain ⟨v', rfl⟩ : ∃ v', vs = [v'] := by
      cases vs with
      | nil => simp at hlen
      | cons a t => cases t with
        | nil => exact ⟨a, rfl⟩
        | cons b t => simp at hlen
    simp at hv; subst hv
    simp only [Rp] at r1
    obtain ⟨t, rfl⟩ := r1
    exact PyProof.Rows.len_str (by lia) (hQ _ _ (Kp.tok _) (by simp [Rp]))

theorem RpL.one {h : Heap} {M : Addr → Prop} {d : PyData} {vs : List Value} (r : RpL prog w h M [d] vs) : ∃ v, vs = [v] ∧ Rp prog w h M d v := by
  simp only [RpL] at r
  obtain ⟨v, q, rfl, r1, rfl⟩ := r
  exact ⟨v, rfl, r1⟩
theorem RpL.two {h : Heap} {M : Addr → Prop} {d e : PyData} {vs : List Value} (r : RpL prog w h M [d, e] vs) : ∃ u v, vs = [u, v] ∧ Rp prog w h M d u ∧ Rp prog w h M e v := by
  simp only [RpL] at r
  obtain ⟨v, q, rfl, r1, u, q', rfl, r2, rfl⟩ := r
  exact ⟨v, u, rfl, r1, r2⟩

/-! ## built-ins of ints and signs -/
theorem EvTo.divmod {e1 e2 : Expr} {p pos : Pos} {x : Str} {a b : Int} (hx : sc.names.lookup x = some .globalImplicit) (hm : G.mg x = none) (hb : G.mb x = some (.builtin "divmod")) (h1 : EvTo G k sc ρ e1 (.int a)) (h2 : EvTo G k sc ρ e2 (.int b))
    (n1 : NotStar e1) (n2 : NotStar e2) (h0 : b ≠ 0) (hs : b.natAbs.log2 < 9000) : EvTo G k sc ρ (.Call (.Name x p) [e1, e2] [] pos) (.tuple [.int (a.fdiv b), .int (a.fmod b)]) :=
  EvTo.blt hx hm hb (.cons n1 h1 (.cons n2 h2 .nil)) fun A M s vs Q E ho hd r _ hQ => by
    obtain ⟨u, v, rfl, r1, r2⟩ := r.two
    simp only [Rp] at r1 r2
    obtain ⟨t, rfl⟩ := r1
    obtain ⟨t', rfl⟩ := r2
    refine PyProof.Rows.divmod_int h0 (hQ _ _ (Kp.push _ _) ?_) (Or.inl (PyProof.noPylong_of_log2 hs))
    simp only [Rp, RpL]
    exact ⟨_, _, rfl, not_M hd (fresh_none (Nat.le_refl _)), ⟨_, Heap.get?_push_size _ rfl, rfl, _, rfl⟩, _, _, rfl, ⟨_, rfl⟩, _, _, rfl, ⟨_, rfl⟩, rfl⟩
theorem EvTo.abs {e : Expr} {p pos : Pos} {x : Str} {a : Int} (hx : sc.names.lookup x = some .globalImplicit) (hm : G.mg x = none) (hb : G.mb x = some (.builtin "abs")) (h1 : EvTo G k sc ρ e (.int a)) (n1 : NotStar e) :
    EvTo G k sc ρ (.Call (.Name x p) [e] [] pos) (.int (if a < 0 then -a else a)) :=
  EvTo.blt hx hm hb (.cons n1 h1 .nil) fun A M s vs Q E ho hd r _ hQ => by
    obtain ⟨u, rfl, r1⟩ := r.one
    simp only [Rp] at r1
    obtain ⟨t, rfl⟩ := r1
    exact call_abs_int fun u tk => hQ _ _ (Kp.tok tk) (by simp [Rp])
theorem EvTo.max2 {e1 e2 : Expr} {p pos : Pos} {x : Str} {a b : Int} (hx : sc.names.lookup x = some .globalImplicit) (hm : G.mg x = none) (hb : G.mb x = some (.builtin "max")) (h1 : EvTo G k sc ρ e1 (.int a)) (h2 : EvTo G k sc ρ e2 (.int b))
    (n1 : NotStar e1) (n2 : NotStar e2) : EvTo G k sc ρ (.Call (.Name x p) [e1, e2] [] pos) (.int (if b > a then b else a)) :=
  EvTo.blt hx hm hb (.cons n1 h1 (.cons n2 h2 .nil)) fun A M s vs Q E ho hd r _ hQ => by
    obtain ⟨u, v, rfl, r1, r2⟩ := r.two
    simp only [Rp] at r1 r2
    obtain ⟨t, rfl⟩ := r1
    obtain ⟨t', rfl⟩ := r2
    refine max_two_ints ho.hh fun h' tk hk => ?_
    have := hQ (Value.int (if b > a then b else a) (if b > a then t' else t)) { s with heap := h', toks := tk } (Kp.mk' hk) (by simp [Rp])
    by_cases c : b > a
    · simpa only [if_pos c] using this
    · simpa only [if_neg c] using this
theorem EvTo.ord {e : Expr} {p pos : Pos} {x : Str} {c : Nat} (hx : sc.names.lookup x = some .globalImplicit) (hm : G.mg x = none) (hb : G.mb x = some (.builtin "ord")) (h1 : EvTo G k sc ρ e (.str ⟨#[c]⟩)) (n1 : NotStar e) :
    EvTo G k sc ρ (.Call (.Name x p) [e] [] pos) (.int c) :=
  EvTo.blt hx hm hb (.cons n1 h1 .nil) fun A M s vs Q E ho hd r _ hQ => by
    obtain ⟨u, rfl, r1⟩ := r.one
    simp only [Rp] at r1
    obtain ⟨t, rfl⟩ := r1
    exact P.ord_of_char (hQ _ _ (Kp.tok _) (by simp [Rp]))
theorem EvTo.chr {e : Expr} {p pos : Pos} {x : Str} {i : Int} (hx : sc.names.lookup x = some .globalImplicit) (hm : G.mg x = none) (hb : G.mb x = some (.builtin "chr")) (h1 : EvTo G k sc ρ e (.int i)) (n1 : NotStar e) (h0 : 0 ≤ i) (hi : i ≤ 1114111) :
    EvTo G k sc ρ (.Call (.Name x p) [e] [] pos) (.str ⟨#[i.toNat]⟩) :=
  EvTo.blt hx hm hb (.cons n1 h1 .nil) fun A M s vs Q E ho hd r _ hQ => by
    obtain ⟨u, rfl, r1⟩ := r.one
    simp only [Rp] at r1
    obtain ⟨t, rfl⟩ := r1
    exact PyProof.Rows.chr_of_range h0 hi (hQ _ _ (Kp.tok _) (by simp [Rp]))

/-! ## strs and lists added, a list repeated -/
theorem EvTo.cat {l r : Expr} {pos : Pos} {x y : Str} (ha : EvTo G k sc ρ l (.str x)) (hb : EvTo G k sc ρ r (.str y)) (hsz : x.length + y.length ≤ sizeLine) : EvTo G k sc ρ (.BinOp l .Add r pos) (.str (x ++ y)) :=
  EvTo.bin ha hb fun A M s u v Q E ho _ r1 r2 _ hQ => by
    simp only [Rp] at r1 r2
    obtain ⟨t, rfl⟩ := r1
    obtain ⟨t', rfl⟩ := r2
    exact PyProof.Rows.add_str (fun t' tk => hQ _ _ (Kp.tok tk) (by simp [Rp])) hsz
end
end Mine
end
section
open PySem PyProof.Rows
set_option Elab.async false
set_option linter.unusedVariables false
namespace Mine
section
variable {prog : Program} {w : World} {G : Gl prog w} {k : Nat} {sc : Scope} {ρ : VEnv}

theorem notCo {o : Obj} {n : String} (h : o.cls = .type n) (hn : n ≠ "code") : ¬ IsCo o := fun ic => hn (by have := h.symm.trans ic.1; cases this; rfl)
theorem notCoD {o : Obj} {es n} (h : o.data = .dict es n) : ¬ IsCo o := fun ⟨_, vs, e⟩ => by rw [h] at e; cases e
theorem notCoC {o : Obj} {v} (h : o.data = .cell v) : ¬ IsCo o := fun ⟨_, vs, e⟩ => by rw [h] at e; cases e
theorem notCoS {o : Obj} {xs n} (h : o.data = .seq xs n) : ¬ IsCo o := fun ⟨_, vs, e⟩ => by rw [h] at e; cases e
/-- all but own stands; code objects stand -/
structure KB (T : TabS) (own : Addr → Prop) (s s' : Shared) : Prop where
  same : ∃ h t, s' = { s with heap := h, toks := t }
  tk : ∀ b o, ¬ own b → s.heap.get? b = some o → Gr T s'.heap b o
  co : ∀ b o, IsCo o → s.heap.get? b = some o → s'.heap.get? b = some o
theorem KB.code {T : TabS} {own : Addr → Prop} {s s' : Shared} (h : KB T own s s') : ∀ c o, IsCo o → s.heap.get? c = some o → Gr T s'.heap c o := fun c o i e => .inl (h.co c o i e)
theorem KB.of {T : TabS} {own : Addr → Prop} {s s' : Shared} (h : Kp T s s') : KB T own s s' := ⟨h.same, fun b o _ e => h.tk b o e, fun b o i e => h.nt b o i.nt e⟩
theorem KB.nt {T : TabS} {own : Addr → Prop} {s s' : Shared} (h : KB T own s s') (b : Addr) (o : Obj) (hb : ¬ own b) (n : NT o) (e : s.heap.get? b = some o) : s'.heap.get? b = some o := (h.tk b o hb e).nt n
theorem KB.agr {T : TabS} {own M : Addr → Prop} {s s' : Shared} (h : KB T own s s') (hM : ∀ b, own b → M b) : Agr M s.heap s'.heap := fun b o hb n e => h.nt b o (fun q => hb (hM b q)) n e
theorem KB.trans {T : TabS} {own : Addr → Prop} {s s' s'' : Shared} (a : KB T own s s') (b : KB T own s' s'') : KB T own s s'' := by
  have hc := b.code
  obtain ⟨⟨h1, t1, rfl⟩, k1, c1⟩ := a
  obtain ⟨⟨h2, t2, rfl⟩, k2, c2⟩ := b
  exact ⟨⟨h2, t2, rfl⟩, fun b o hb e => (k1 b o hb e).trans hc fun o' e' => k2 b o' hb e', fun b o i e => c2 b o i (c1 b o i e)⟩
/-- from a change told exactly -/
theorem KB.mk' {T : TabS} {own : Addr → Prop} {s s' : Shared} (h : ∃ h t, s' = { s with heap := h, toks := t }) (k : ∀ b o, ¬ own b → s.heap.get? b = some o → s'.heap.get? b = some o)
    (hn : ∀ b o, own b → s.heap.get? b = some o → ¬ IsCo o) : KB T own s s' := ⟨h, fun b o hb e => .inl (k b o hb e), fun b o i e => by
  rcases Classical.em (own b) with q | q
  · exact absurd i (hn b o q e)
  · exact k b o q e⟩

/-- I hands on the data ds, one by one, to the target tgt -/
structure Wk (prog : Program) (w : World) (T : TabS) (A : Around) (I : Addr) (own F M : Addr → Prop) (h0 : Heap) (tgt : Expr) (ds : List PyData) (Co : Nat → Heap → Prop) : Prop where
  frame : ∀ i h h', Co i h → (∀ b o, own b → h.get? b = some o → Gr T h' b o) → Co i h'
  alive : ∀ i h, Co i h → ∀ b, own b → ∃ o, h.get? b = some o
  item : ∀ i d (M' : Addr → Prop) (s : Shared) (Q : Value → Shared → Prop) (E : Value → Shared → Prop), ds[i]? = some d → Co i s.heap → Agr F h0 s.heap → (∀ b o, h0.get? b = some o → M' b → M b) → (∀ a, M' a → ∃ o, s.heap.get? a = some o) →
    (∀ v s', KB T own s s' → Co (i + 1) s'.heap → Rp prog w s'.heap M' d v → Q v s') →
    wpAny (model prog w) A (pyNext (.ref I)) (fun r s1 => match r with | none => False | some v => wpAny (model prog w) A (letOwnedTupleGo tgt (.ref I) v) (fun _ s2 => Q v s2) E s1) E s
  done : ∀ (s : Shared) (Q : Shared → Prop) (E : Value → Shared → Prop), Co ds.length s.heap → Agr F h0 s.heap → (∀ s', KB T own s s' → Q s') →
    wpAny (model prog w) A (pyNext (.ref I)) (fun r s1 => match r with | none => Q s1 | some _ => False) E s
  self : ∀ i (s : Shared) (Q : Value → Shared → Prop) (E : Value → Shared → Prop), Co i s.heap → Agr F h0 s.heap → Q (.ref I) s → wpAny (model prog w) A (pyIter (.ref I)) Q E s

theorem letGo_plain {A : Around} {tgt : Expr} {I : Addr} {v : Value} {s : Shared} {o : Obj} {n : String} {Q : Unit → Shared → Prop} {E : Value → Shared → Prop} (ho : s.heap.get? I = some o) (hc : o.cls = .type n)
    (hn : (["enumerate", "zip", "dict_itemiterator", "dict_reverseitemiterator", "odict_iterator", "itertools.zip_longest", "itertools.pairwise"] : List String).contains n = false) (h : Q () s) :
    wpAny (model prog w) A (letOwnedTupleGo tgt (.ref I) v) Q E s := by
  have key : ∀ a, v = .ref a → wpAny (model prog w) A (do
      let o ← load I
      match o.cls, o.data with
      | .type n, .fields vs =>
        if ["enumerate", "zip", "dict_itemiterator", "dict_reverseitemiterator", "odict_iterator", "itertools.zip_longest", "itertools.pairwise"].contains n && vs[0]? == some (rawInt a) then
          rule "for.unpacks-the-owned-tuple"
          updateField I 0 .none
      | _, _ => pure ()) Q E s := by
    intro a _
    refine wpAny_bind (wpAny_load ho ?_)
    obtain ⟨c, dd, dt, sl⟩ := o
    simp only at hc
    subst hc
    cases dt <;> first | exact wpAny_pure h | (simp only [hn, Bool.false_and, Bool.false_eq_true, if_false]; exact wpAny_pure h)
  unfold letOwnedTupleGo
  cases tgt <;> first | exact wpAny_pure h | (cases v <;> first | exact wpAny_pure h | exact key _ rfl)

theorem Wk.ofWalks {T : TabS} {A : Around} {I : Addr} {fp : List Addr} {n : Nat} {P : Nat → Value → Prop} {St Co : Nat → Heap → Prop} {F M : Addr → Prop} {h0 : Heap} {tgt : Expr} {ds : List PyData}
    (W : Walks prog w A I fp [I] n P St) (hn : ds.length = n) (hFM : ∀ b, F b → M b)
    (hSt : ∀ i h, Co i h → Agr F h0 h → St i h) (hCo : ∀ i h, St i h → Co i h) (hfr : ∀ i h h', Co i h → (∀ b o, b ∈ [I] → h.get? b = some o → Gr T h' b o) → Co i h')
    (hP : ∀ i v d, P i v → ds[i]? = some d → Rp prog w h0 M d v) (hI : ∀ i h, Co i h → ∃ o n, h.get? I = some o ∧ o.cls = .type n ∧ (["enumerate", "zip", "dict_itemiterator", "dict_reverseitemiterator", "odict_iterator", "itertools.zip_longest", "itertools.pairwise"] : List String).contains n = false ∧ n ≠ "code")
    (hw : ∀ b o, b ∈ [I] → h0.get? b = some o → False) :
    Wk prog w T A I (· ∈ [I]) F M h0 tgt ds Co :=
  have noCo : ∀ {i h}, Co i h → ∀ b o, b ∈ [I] → h.get? b = some o → ¬ IsCo o := by
    intro i h hc b o hb e ic
    rw [List.mem_singleton.mp hb] at e
    obtain ⟨o', n, ho, hcl, _, hne⟩ := hI i h hc
    rw [e] at ho; cases ho
    exact notCo hcl hne ic
  { frame := hfr
    alive := fun i h hc b hb => by rw [List.mem_singleton.mp hb]; obtain ⟨o, _, ho, _⟩ := hI i h hc; exact ⟨o, ho⟩
    item := by
      intro i d M' s Q E hd hc ha hM hdom hQ
      have hlt : i < n := by rw [← hn]; exact (List.getElem?_eq_some_iff.mp hd).1
      refine W.item i s _ _ hlt (hSt i _ hc ha) fun v h' tk hp hst hk => ?_
      have hc' := hCo _ _ hst
      obtain ⟨o, nm, ho, hcl, hnm, _⟩ := hI _ _ hc'
      refine letGo_plain ho hcl hnm (hQ v _ (.mk' ⟨_, _, rfl⟩ (fun b o hb e => hk b o hb e) (noCo hc)) hc' ?_)
      have r0 := hP i v d hp hd
      have r1 : Rp prog w h0 (fun b => M b ∨ M' b) d v := Rp.sub (fun a o e q => q.elim id (hM a o e)) _ _ r0
      have r2 : Rp prog w h' (fun b => M b ∨ M' b) d v := Rp.agr (fun b o hb n e => hk b o (fun q => hw b o q e) (ha b o (fun q => hb (.inl (hFM b q))) n e)) _ _ r1
      exact Rp.sub (fun a o e q => .inr q) _ _ r2
    done := by
      intro s Q E hc ha hQ
      exact W.done s _ _ (hn ▸ hSt _ _ hc ha) fun h' tk hk => hQ _ (.mk' ⟨_, _, rfl⟩ (fun b o hb e => hk b o hb e) (noCo hc))
    self := fun i s Q E hc ha hQ => W.self i s Q E (hSt _ _ hc ha) hQ }

/-- e, iterated, hands the data ds to tgt; cf: the frame may write the while -/
noncomputable def ItTo (G : Gl prog w) (k : Nat) (sc : Scope) (ρ : VEnv) (tgt : Expr) (cf : Bool) (e : Expr) (ds : List PyData) : Prop :=
  ∀ (A : Around) (env : Env) (M : Addr → Prop) (s : Shared) (Q : Value → Shared → Prop) (E : Value → Shared → Prop), Ok k A → EnvOk sc env → VR G env M ρ s →
    (∀ I own Co h0 s', Kp G.T s s' → Wk prog w G.T A I own (fun b => cf = true ∧ M b) M h0 tgt ds Co → Co 0 s'.heap → (∀ b o, s.heap.get? b = some o → Gr G.T h0 b o) → (∀ b o, h0.get? b = some o → Gr G.T s'.heap b o) →
      (∀ b, own b → h0.get? b = none ∧ ∃ o, s'.heap.get? b = some o) → Q (.ref I) s') →
    wpAny (model prog w) A (eval e env) (fun x s1 => wpAny (model prog w) A (pyIter x) Q E s1) E s

/-- from a list at hand -/
theorem it_list {A : Around} {M : Addr → Prop} {cf : Bool} {tgt : Expr} {ds : List PyData} {s : Shared} {a : Addr} {items : Array Value} {Q : Value → Shared → Prop} {E : Value → Shared → Prop} (hh : A.handled = none)
    (hl : s.heap.PlainList a items) (hr : RpL prog w s.heap M ds items.toList) (hcf : cf = true → ¬ M a)
    (hQ : ∀ I own Co h0 s', Kp G.T s s' → Wk prog w G.T A I own (fun b => cf = true ∧ M b) M h0 tgt ds Co → Co 0 s'.heap → (∀ b o, s.heap.get? b = some o → Gr G.T h0 b o) → (∀ b o, h0.get? b = some o → Gr G.T s'.heap b o) →
      (∀ b, own b → h0.get? b = none ∧ ∃ o, s'.heap.get? b = some o) → Q (.ref I) s') : wpAny (model prog w) A (pyIter (.ref a)) Q E s := by
  refine wpAny_pyIter_list hl.isList ?_
  have hlen : ds.length = items.size := by have := hr.length; simpa using this.symm
  have hal : a < s.heap.objs.size := by obtain ⟨_, e⟩ := hl; exact Heap.lt_size e
  refine hQ s.heap.objs.size (· ∈ [s.heap.objs.size]) (fun i h => h.IsListIter s.heap.objs.size a i) s.heap _ (Kp.push _ _) ?_ ⟨_, Heap.get?_push_size _ rfl, rfl, rfl⟩ (fun _ _ e => .inl e) (fun _ _ e => .inl (Heap.get?_push_of_some _ e)) ?_
  · refine Wk.ofWalks (Walks.list hh s.heap.objs.size a (Nat.ne_of_lt hal) items) hlen (fun b hb => hb.2) ?_ (fun i h st => st.1) ?_ ?_ ?_ ?_
    · intro i h hc ha
      exact ⟨hc, (PL.gr hl fun o n e => ha a o (fun q => hcf q.1 q.2) n e).isList⟩
    · intro i h h' hc hk; exact LI.gr hc fun o n e => (hk _ o (by simp) e).nt n
    · intro i v d hp hd
      exact hr.of_get hd (by simpa using hp)
    · intro i h hc
      obtain ⟨o, ho, hcl, _⟩ := hc
      exact ⟨o, _, ho, hcl, by decide, by decide⟩
    · intro b o hb e
      simp at hb; subst hb; exact absurd (Heap.lt_size e) (Nat.lt_irrefl _)
  · intro b hb
    simp at hb; subst hb
    exact ⟨fresh_none (Nat.le_refl _), _, Heap.get?_push_size _ rfl⟩

theorem ItTo.list {tgt : Expr} {cf : Bool} {e : Expr} {ds : List PyData} (he : EvTo G k sc ρ e (.list ds)) : ItTo G k sc ρ tgt cf e ds := by
  intro A env M s Q E ho hv hr hQ
  refine he A env M s _ _ ho hv hr fun v s1 k1 r1 => ?_
  simp only [Rp] at r1
  obtain ⟨a, items, rfl, hM, hl, r1, hb⟩ := r1
  exact it_list ho.hh hl r1 (fun _ => hM) fun I own Co h0 s2 k2 W hc h1 h2 h3 => hQ I own Co h0 s2 (k1.trans k2) W hc (fun b o e => (k1.tk b o e).trans (fun c o' _ e' => h1 c o' e') (h1 b)) h2 h3
/-- the signs of a text, each a text -/
noncomputable def signs (x : Str) : List PyData := x.cps.toList.map fun c => .str ⟨#[c]⟩

theorem ItTo.str {tgt : Expr} {cf : Bool} {e : Expr} {x : Str} (he : EvTo G k sc ρ e (.str x)) : ItTo G k sc ρ tgt cf e (signs x) := by
  intro A env M s Q E ho hv hr hQ
  refine he A env M s _ _ ho hv hr fun v s1 k1 r1 => ?_
  simp only [Rp] at r1
  obtain ⟨t, rfl⟩ := r1
  have hlen : (signs x).length = x.cps.size := by simp [signs]
  have hPs : ∀ i v d, SignAt x i v → (signs x)[i]? = some d → Rp prog w s1.heap M d v := by
    rintro i v d ⟨c, u, hc, rfl⟩ hd
    simp only [signs, List.getElem?_map, Array.getElem?_toList, hc, Option.map_some, Option.some.injEq] at hd
    subst hd
    simp [Rp]
  have own1 : ∀ (o : Obj), o.isFreed = false → ∀ b, b ∈ [s1.heap.objs.size] → s1.heap.get? b = none ∧ ∃ o', (s1.heap.push o).get? b = some o' := by
    intro o hf b hb
    simp at hb; subst hb
    exact ⟨fresh_none (Nat.le_refl _), _, Heap.get?_push_size _ hf⟩
  have hw : ∀ b o, b ∈ [s1.heap.objs.size] → s1.heap.get? b = some o → False := by
    intro b o hb e
    simp at hb; subst hb; exact absurd (Heap.lt_size e) (Nat.lt_irrefl _)
  cases ha : x.cps.all (· < 128)
  · refine wpAny_pyIter_wide ha ?_
    refine hQ s1.heap.objs.size (· ∈ [s1.heap.objs.size]) (fun i h => h.IsStrIter s1.heap.objs.size "str_iterator" x t i) s1.heap _ (k1.trans (Kp.push _ _)) ?_ ⟨_, Heap.get?_push_size _ rfl, rfl, rfl⟩ (fun b o e => k1.tk b o e) (fun _ _ e => .inl (Heap.get?_push_of_some _ e)) (own1 _ rfl)
    refine Wk.ofWalks (Walks.strWide ho.hh s1.heap.objs.size x t) hlen (fun b hb => hb.2) (fun _ _ hc _ => hc) (fun i h st => st) ?_ hPs ?_ hw
    · intro i h h' hc hk; obtain ⟨o, ho, hcl, r⟩ := hc; exact ⟨o, (hk _ o (by simp) ho).nt (.cls hcl), hcl, r⟩
    · intro i h hc
      obtain ⟨o, ho, hcl, _⟩ := hc
      exact ⟨o, _, ho, hcl, by decide, by decide⟩
  · refine wpAny_pyIter_ascii ha ?_
    refine hQ s1.heap.objs.size (· ∈ [s1.heap.objs.size]) (fun i h => h.IsStrIter s1.heap.objs.size "str_ascii_iterator" x t i) s1.heap _ (k1.trans (Kp.push _ _)) ?_ ⟨_, Heap.get?_push_size _ rfl, rfl, rfl⟩ (fun b o e => k1.tk b o e) (fun _ _ e => .inl (Heap.get?_push_of_some _ e)) (own1 _ rfl)
    refine Wk.ofWalks (Walks.strAscii ho.hh s1.heap.objs.size x t) hlen (fun b hb => hb.2) (fun _ _ hc _ => hc) (fun i h st => st) ?_ hPs ?_ hw
    · intro i h h' hc hk; obtain ⟨o, ho, hcl, r⟩ := hc; exact ⟨o, (hk _ o (by simp) ho).nt (.cls hcl), hcl, r⟩
    · intro i h hc
      obtain ⟨o, ho, hcl, _⟩ := hc
      exact ⟨o, _, ho, hcl, by decide, by decide⟩

/-- a call of a type's name -/
theorem call_type {A : Around} {env : Env} {M : Addr → Prop} {s : Shared} {Q : Value → Shared → Prop} {E : Value → Shared → Prop} {x : Str} {T : String} {p pos : Pos} {es : List Expr} {ds : List PyData} (ho : Ok k A) (hv : EnvOk sc env) (hr : VR G env M ρ s)
    (hx : sc.names.lookup x = some .globalImplicit) (hm : G.mg x = none) (hb : G.mb x = some (.type T)) (ha : EvAll G k sc ρ es ds)
    (hc : ∀ vs s', Kp G.T s s' → RpL prog w s'.heap M ds vs → wpAny (model prog w) A (call (.type T) vs) Q E s') : wpAny (model prog w) A (eval (.Call (.Name x p) es [] pos) env) Q E s := by
  have hgx := hv.kindG x hx
  refine Call_Name rfl (Calls.Name_function_global hv.kind hgx (Calls.loadGlobal_builtin (hv.glob ▸ Nsp.gr G.g (hr.bnt _)) hm (hv.blt ▸ Nsp.gr G.b (hr.bnt _)) hb ?_) (hv.dbg (by rw [hgx]; simp)))
  exact PySem.callWith_type (noStar_any ha pos env) (ha.args ho hv hr fun vs s1 k1 r1 => hc vs s1 k1 r1)

noncomputable def rangeL (a b c : Int) : List Int := (List.range (Builtin.Range.rangeSize a b c).toNat).map fun i : Nat => a + (i : Int) * c

theorem it_range {A : Around} {M : Addr → Prop} {cf : Bool} {tgt : Expr} {s : Shared} {r : Addr} {a b c : Int} {t u v : Tok} {Q : Value → Shared → Prop} {E : Value → Shared → Prop} (hh : A.handled = none)
    (hr : IsRange s.heap r a b c t u v) (hs : Builtin.Range.small a b c = true)
    (hQ : ∀ I own Co h0 s', Kp G.T s s' → Wk prog w G.T A I own (fun b => cf = true ∧ M b) M h0 tgt ((rangeL a b c).map .int) Co → Co 0 s'.heap → (∀ b o, s.heap.get? b = some o → Gr G.T h0 b o) → (∀ b o, h0.get? b = some o → Gr G.T s'.heap b o) →
      (∀ b, own b → h0.get? b = none ∧ ∃ o, s'.heap.get? b = some o) → Q (.ref I) s') : wpAny (model prog w) A (pyIter (.ref r)) Q E s := by
  refine wpAny_pyIter_range hr hs ?_
  have h0 : 0 ≤ Builtin.Range.rangeSize a b c := by
    unfold Builtin.Range.rangeSize
    split <;> split <;> first | lia | (have := Int.ediv_nonneg (a := b - a - 1) (b := c) (by lia) (by lia); lia) | (have := Int.ediv_nonneg (a := a - b - 1) (b := -c) (by lia) (by lia); lia)
  refine hQ s.heap.objs.size (· ∈ [s.heap.objs.size]) (fun i h => IsRangeIter h s.heap.objs.size (a + (i : Nat) * c) (((Builtin.Range.rangeSize a b c).toNat : Int) - (i : Nat)) c) s.heap _ (Kp.push _ _) ?_ ?_ (fun _ _ e => .inl e) (fun _ _ e => .inl (Heap.get?_push_of_some _ e)) ?_
  · refine Wk.ofWalks (Walks.range hh s.heap.objs.size a c (Builtin.Range.rangeSize a b c).toNat) (by simp [rangeL]) (fun b hb => hb.2) (fun _ _ hc _ => hc) (fun i h st => st) ?_ ?_ ?_ ?_
    · intro i h h' hc hk; exact (hk _ _ (by simp) hc).nt (.cls rfl)
    · rintro i v d ⟨t, rfl⟩ hd
      simp only [rangeL, List.map_map, List.getElem?_map] at hd
      cases hi : (List.range (Builtin.Range.rangeSize a b c).toNat)[i]? with
      | none => rw [hi] at hd; simp at hd
      | some j =>
        rw [hi] at hd
        have hj : j = i := by have := List.getElem?_eq_some_iff.mp hi; obtain ⟨h1, h2⟩ := this; simpa using h2.symm
        subst hj
        simp at hd; subst hd
        simp [Rp]
    · intro i h hc; exact ⟨_, _, hc, rfl, by decide, by decide⟩
    · intro b o hb e
      simp at hb; subst hb; exact absurd (Heap.lt_size e) (Nat.lt_irrefl _)
  · have e1 : a + ((0 : Nat) : Int) * c = a := by simp
    have e2 : ((Builtin.Range.rangeSize a b c).toNat : Int) - ((0 : Nat) : Int) = Builtin.Range.rangeSize a b c := by rw [Int.toNat_of_nonneg h0]; simp
    show IsRangeIter _ _ _ _ _
    rw [e1, e2]
    exact Heap.get?_push_size _ rfl
  · intro b hb
    simp at hb; subst hb
    exact ⟨fresh_none (Nat.le_refl _), _, Heap.get?_push_size _ rfl⟩

theorem ItTo.range1 {tgt : Expr} {cf : Bool} {x : Str} {p pos : Pos} {e : Expr} {n : Int} (hx : sc.names.lookup x = some .globalImplicit) (hm : G.mg x = none) (hb : G.mb x = some (.type "range")) (he : EvTo G k sc ρ e (.int n)) (hn : NotStar e)
    (hs : Builtin.Range.small 0 n 1 = true) : ItTo G k sc ρ tgt cf (.Call (.Name x p) [e] [] pos) ((rangeL 0 n 1).map .int) := by
  intro A env M s Q E ho hv hr hQ
  refine call_type ho hv hr hx hm hb (.cons hn he .nil) fun vs s1 k1 r1 => ?_
  obtain ⟨v, rfl, r⟩ := r1.one
  simp only [Rp] at r
  obtain ⟨t, rfl⟩ := r
  refine call_range_1 (it_range ho.hh (IsRange.new ..) hs fun I own Co h0 s2 k2 W hc h1 h2 h3 => hQ I own Co h0 s2 ((k1.trans (Kp.push _ _)).trans k2) W hc (fun b o e => ((k1.tk b o e).trans (fun c o' _ e' => h1 c o' (Heap.get?_push_of_some _ e')) fun o' e' => h1 b o' (Heap.get?_push_of_some _ e'))) h2 h3)
theorem ItTo.range2 {tgt : Expr} {cf : Bool} {x : Str} {p pos : Pos} {e1 e2 : Expr} {a b : Int} (hx : sc.names.lookup x = some .globalImplicit) (hm : G.mg x = none) (hb : G.mb x = some (.type "range")) (h1 : EvTo G k sc ρ e1 (.int a)) (h2 : EvTo G k sc ρ e2 (.int b))
    (n1 : NotStar e1) (n2 : NotStar e2) (hs : Builtin.Range.small a b 1 = true) : ItTo G k sc ρ tgt cf (.Call (.Name x p) [e1, e2] [] pos) ((rangeL a b 1).map .int) := by
  intro A env M s Q E ho hv hr hQ
  refine call_type ho hv hr hx hm hb (.cons n1 h1 (.cons n2 h2 .nil)) fun vs s1 k1 r1 => ?_
  obtain ⟨u, v, rfl, r, r'⟩ := r1.two
  simp only [Rp] at r r'
  obtain ⟨t, rfl⟩ := r
  obtain ⟨t', rfl⟩ := r'
  refine call_range_2 (it_range ho.hh (IsRange.new ..) hs fun I own Co h0 s2 k2 W hc h1 h2 h3 => hQ I own Co h0 s2 ((k1.trans (Kp.push _ _)).trans k2) W hc (fun b o e => ((k1.tk b o e).trans (fun c o' _ e' => h1 c o' (Heap.get?_push_of_some _ e')) fun o' e' => h1 b o' (Heap.get?_push_of_some _ e'))) h2 h3)
theorem RpL.three {h : Heap} {M : Addr → Prop} {d e f : PyData} {vs : List Value} (r : RpL prog w h M [d, e, f] vs) : ∃ u v x, vs = [u, v, x] ∧ Rp prog w h M d u ∧ Rp prog w h M e v ∧ Rp prog w h M f x := by
  simp only [RpL] at r
  obtain ⟨v, q, rfl, r1, u, q', rfl, r2, x, q'', rfl, r3, rfl⟩ := r
  exact ⟨v, u, x, rfl, r1, r2, r3⟩
end
end Mine
end
section
open PySem PyProof.Rows
set_option Elab.async false
set_option linter.unusedVariables false
namespace Mine
section
variable {prog : Program} {w : World} {G : Gl prog w} {k : Nat} {sc : Scope} {ρ : VEnv}

/-- each with its place -/
noncomputable def enumD : Nat → List PyData → List PyData
  | _, [] => []
  | i, d :: ds => .tuple [.int i, d] :: enumD (i + 1) ds
theorem enumD_length : ∀ (i : Nat) (ds : List PyData), (enumD i ds).length = ds.length
  | _, [] => rfl
  | i, _ :: ds => by simp [enumD, enumD_length (i + 1) ds]
theorem enumD_get : ∀ (n : Nat) (ds : List PyData) (i : Nat), (enumD n ds)[i]? = ds[i]?.map fun d => .tuple [.int ((n + i : Nat) : Int), d]
  | _, [], i => by simp [enumD]
  | n, d :: ds, 0 => by simp [enumD]
  | n, d :: ds, i + 1 => by
    simp only [enumD, List.getElem?_cons_succ, enumD_get (n + 1) ds i]
    have : n + 1 + i = n + (i + 1) := by lia
    rw [this]

theorem Wk.ofWalksT {T : TabS} {A : Around} {I it : Addr} {fp : List Addr} {n : Nat} {P : Nat → Value → Prop} {St Co : Nat → Heap → Prop} {Mid : Nat → Addr → Heap → Prop} {F M : Addr → Prop} {h0 : Heap} {elts : List Expr} {kk : Nat} {pos : Pos} {ds : List PyData}
    (W : WalksT prog w A I fp [I, it] n (fun i vals => ∃ t x, P i x ∧ vals = #[.int i t, x]) St Mid) (hn : ds.length = n) (hFM : ∀ b, F b → M b)
    (hSt : ∀ i h, Co i h → Agr F h0 h → St i h) (hCo : ∀ i h, St i h → Co i h) (hfr : ∀ i h h', Co i h → (∀ b o, b ∈ [I, it] → h.get? b = some o → Gr T h' b o) → Co i h')
    (hP : ∀ i v d, P i v → ds[i]? = some d → Rp prog w h0 M d v) (hw : ∀ b o, b ∈ [I, it] → h0.get? b = some o → False) (hal : ∀ i h, Co i h → ∀ b, b ∈ [I, it] → ∃ o, h.get? b = some o ∧ ¬ IsCo o) :
    Wk prog w T A I (· ∈ [I, it]) F M h0 (.Tuple elts kk pos) (enumD 0 ds) Co :=
  have noCo : ∀ {i h}, Co i h → ∀ b o, b ∈ [I, it] → h.get? b = some o → ¬ IsCo o := by
    intro i h hc b o hb e
    obtain ⟨o', ho, hn⟩ := hal i h hc b hb
    rw [e] at ho; cases ho; exact hn
  { frame := hfr
    alive := fun i h hc b hb => let ⟨o, ho, _⟩ := hal i h hc b hb; ⟨o, ho⟩
    item := by
      intro i d M' s Q E hd hc ha hM hdom hQ
      rw [enumD_get] at hd
      cases hdi : ds[i]? with
      | none => rw [hdi] at hd; simp at hd
      | some d' =>
      rw [hdi] at hd
      simp at hd; subst hd
      have hlt : i < n := by rw [← hn]; exact (List.getElem?_eq_some_iff.mp hdi).1
      refine W.item i s _ _ hlt (hSt i _ hc ha) fun T' vals h' tk hp hT htup hmid hk => ?_
      obtain ⟨t, x, hp, rfl⟩ := hp
      have hap := W.apart i T' h' hmid
      refine W.go elts kk pos i T' _ _ _ hmid fun h'' hst hk2 => hQ _ _ (.mk' ⟨_, _, rfl⟩ (fun b o hb e => hk2 b o hb (hk b o hb e)) (noCo hc)) (hCo _ _ hst) ?_
      have r0 := hP i x d' hp hdi
      have r1 : Rp prog w h0 (fun b => M b ∨ M' b) d' x := Rp.sub (fun a o e q => q.elim id (hM a o e)) _ _ r0
      have r2 : Rp prog w h'' (fun b => M b ∨ M' b) d' x := Rp.agr (fun b o hb n e => hk2 b o (fun q => hw b o q e) (hk b o (fun q => hw b o q e) (ha b o (fun q => hb (.inl (hFM b q))) n e))) _ _ r1
      have r3 : Rp prog w h'' M' d' x := Rp.sub (fun a o e q => .inr q) _ _ r2
      simp only [Rp, RpL]
      exact ⟨T', #[.int i t, x], rfl, fun q => by obtain ⟨o, e⟩ := hdom T' q; exact absurd (Heap.lt_size e) (Nat.not_lt.mpr hT), Tup.gr htup fun o _ e => hk2 T' o hap e, _, _, rfl, ⟨_, rfl⟩, _, _, rfl, r3, rfl⟩
    done := by
      intro s Q E hc ha hQ
      rw [enumD_length] at hc
      exact W.done s _ _ (hn ▸ hSt _ _ hc ha) fun h' tk hk => hQ _ (.mk' ⟨_, _, rfl⟩ (fun b o hb e => hk b o hb e) (noCo hc))
    self := fun i s Q E hc ha hQ => W.self i s Q E (hSt _ _ hc ha) hQ }

theorem Ok.in1 {k : Nat} {A : Around} (o : Ok k A) : A.in1.handled = none := o.hh

theorem ItTo.enumL {x : Str} {p pos : Pos} {cf : Bool} {e : Expr} {ds : List PyData} {elts : List Expr} {kk : Nat} {tp : Pos} (hx : sc.names.lookup x = some .globalImplicit) (hm : G.mg x = none) (hb : G.mb x = some (.type "enumerate")) (he : EvTo G k sc ρ e (.list ds)) (hn : NotStar e) :
    ItTo G k sc ρ (.Tuple elts kk tp) cf (.Call (.Name x p) [e] [] pos) (enumD 0 ds) := by
  intro A env M s Q E ho hv hr hQ
  refine call_type ho hv hr hx hm hb (.cons hn he .nil) fun vs s1 k1 r1 => ?_
  obtain ⟨v, rfl, r⟩ := r1.one
  simp only [Rp] at r
  obtain ⟨a, items, rfl, hM, hl, rr, hbd⟩ := r
  refine call_enumerate_list hl.isList fun h' hen hit hsz hk => ?_
  have hlen : ds.length = items.size := by have := rr.length; simpa using this.symm
  have hal : a < s1.heap.objs.size := by obtain ⟨_, e⟩ := hl; exact Heap.lt_size e
  refine wpAny_pyIter_enum hen ?_
  refine hQ (s1.heap.objs.size + 1) (· ∈ [s1.heap.objs.size + 1, s1.heap.objs.size]) (fun i h => (∃ old, IsEnum h (s1.heap.objs.size + 1) s1.heap.objs.size i old) ∧ h.IsListIter s1.heap.objs.size a i) s1.heap _ (k1.trans (Kp.mk' (t := s1.toks) hk)) ?_ ⟨⟨_, hen⟩, hit⟩ (fun b o e => k1.tk b o e) (fun b o e => .inl (hk b o e)) ?_
  · have hne : s1.heap.objs.size + 1 ≠ s1.heap.objs.size := Nat.succ_ne_self _
    have W := WalksT.enumerateD (Draws.list (prog := prog) (w := w) (A := A.in1) ho.in1 s1.heap.objs.size a (Nat.ne_of_lt hal) items) (s1.heap.objs.size + 1) hne (by
      intro hm; rcases List.mem_cons.mp hm with h | h
      · exact hne h
      · have := List.mem_singleton.mp h; rw [← this] at hal; exact Nat.not_succ_lt_self hal) (by simp)
    refine Wk.ofWalksT (fp := _) W hlen (fun b hb => hb.2) ?_ (fun i h st => ⟨st.1, st.2.1⟩) ?_ ?_ ?_ ?_
    · intro i h hc ha
      exact ⟨hc.1, hc.2, (PL.gr hl fun o n e => ha a o (fun q => hM q.2) n e).isList⟩
    · rintro i h h2 ⟨⟨old, hc⟩, hc2⟩ hk
      exact ⟨⟨old, (hk _ _ (by simp) hc).nt (.cls rfl)⟩, LI.gr hc2 fun o n e => (hk _ o (by simp) e).nt n⟩
    · intro i v d hp hd
      exact rr.of_get hd (by simpa using hp)
    · intro b o hb e
      have hlt := Heap.lt_size e
      rcases List.mem_cons.mp hb with h | h
      · subst h; exact Nat.not_succ_lt_self hlt
      · have := List.mem_singleton.mp h; subst this; exact Nat.lt_irrefl _ hlt
    · rintro i h ⟨⟨old, hc⟩, hc2⟩ b hb
      rcases List.mem_cons.mp hb with q | q
      · subst q; exact ⟨_, hc, notCo rfl (by decide)⟩
      · rw [List.mem_singleton.mp q]; obtain ⟨o, ho, hcl, _⟩ := hc2; exact ⟨o, ho, notCo hcl (by decide)⟩
  · intro b hb
    rcases List.mem_cons.mp hb with h | h
    · subst h; exact ⟨fresh_none (Nat.le_succ _), _, hen⟩
    · have := List.mem_singleton.mp h; subst this
      obtain ⟨o, ho, _⟩ := hit
      exact ⟨fresh_none (Nat.le_refl _), o, ho⟩

theorem ItTo.enumS {x : Str} {p pos : Pos} {cf : Bool} {e : Expr} {y : Str} {elts : List Expr} {kk : Nat} {tp : Pos} (hx : sc.names.lookup x = some .globalImplicit) (hm : G.mg x = none) (hb : G.mb x = some (.type "enumerate")) (he : EvTo G k sc ρ e (.str y)) (hn : NotStar e) :
    ItTo G k sc ρ (.Tuple elts kk tp) cf (.Call (.Name x p) [e] [] pos) (enumD 0 (signs y)) := by
  intro A env M s Q E ho hv hr hQ
  refine call_type ho hv hr hx hm hb (.cons hn he .nil) fun vs s1 k1 r1 => ?_
  obtain ⟨v, rfl, r⟩ := r1.one
  simp only [Rp] at r
  obtain ⟨t, rfl⟩ := r
  refine call_enumerate_str fun h' hen hit hsz hk => ?_
  have hlen : (signs y).length = y.cps.size := by simp [signs]
  refine wpAny_pyIter_enum hen ?_
  refine hQ (s1.heap.objs.size + 1) (· ∈ [s1.heap.objs.size + 1, s1.heap.objs.size]) (fun i h => (∃ old, IsEnum h (s1.heap.objs.size + 1) s1.heap.objs.size i old) ∧ h.IsStrIter s1.heap.objs.size (strIterType y) y t i) s1.heap _ (k1.trans (Kp.mk' (t := s1.toks) hk)) ?_ ⟨⟨_, hen⟩, hit⟩ (fun b o e => k1.tk b o e) (fun b o e => .inl (hk b o e)) ?_
  · have hne : s1.heap.objs.size + 1 ≠ s1.heap.objs.size := Nat.succ_ne_self _
    have hef : s1.heap.objs.size + 1 ∉ [s1.heap.objs.size] := by simp
    have hPs : ∀ (i : Nat) (v : Value) (d : PyData), (∃ c u, y.cps[i]? = some c ∧ v = .str ⟨#[c]⟩ u) → (signs y)[i]? = some d → Rp prog w s1.heap M d v := by
      rintro i v d ⟨c, u, hc, rfl⟩ hd
      simp only [signs, List.getElem?_map, Array.getElem?_toList, hc, Option.map_some, Option.some.injEq] at hd
      subst hd
      simp [Rp]
    have hw : ∀ b o, b ∈ [s1.heap.objs.size + 1, s1.heap.objs.size] → s1.heap.get? b = some o → False := by
      intro b o hb e
      have hlt := Heap.lt_size e
      rcases List.mem_cons.mp hb with h | h
      · subst h; exact Nat.not_succ_lt_self hlt
      · have := List.mem_singleton.mp h; subst this; exact Nat.lt_irrefl _ hlt
    cases ha : y.cps.all (· < 128)
    · have hty : strIterType y = "str_iterator" := by unfold strIterType; simp [ha]
      rw [hty]
      have W := WalksT.enumerateD (Draws.strWide (prog := prog) (w := w) (A := A.in1) ho.in1 s1.heap.objs.size y t) (s1.heap.objs.size + 1) hne hef (by simp)
      refine Wk.ofWalksT (fp := _) W hlen (fun b hb => hb.2) (fun i h hc ha => ⟨hc.1, hc.2⟩) (fun i h st => ⟨st.1, st.2⟩) ?_ hPs hw ?_
      · rintro i h h2 ⟨⟨old, hc⟩, hc2⟩ hk
        exact ⟨⟨old, (hk _ _ (by simp) hc).nt (.cls rfl)⟩, let ⟨o, ho, hcl, r⟩ := hc2; ⟨o, (hk _ o (by simp) ho).nt (.cls hcl), hcl, r⟩⟩
      · rintro i h ⟨⟨old, hc⟩, hc2⟩ b hb
        rcases List.mem_cons.mp hb with q | q
        · subst q; exact ⟨_, hc, notCo rfl (by decide)⟩
        · rw [List.mem_singleton.mp q]; obtain ⟨o, ho, hcl, _⟩ := hc2; exact ⟨o, ho, notCo hcl (by decide)⟩
    · have hty : strIterType y = "str_ascii_iterator" := by unfold strIterType; simp [ha]
      rw [hty]
      have W := WalksT.enumerateD (Draws.strAscii (prog := prog) (w := w) (A := A.in1) ho.in1 s1.heap.objs.size y t) (s1.heap.objs.size + 1) hne hef (by simp)
      refine Wk.ofWalksT (fp := _) W hlen (fun b hb => hb.2) (fun i h hc ha => ⟨hc.1, hc.2⟩) (fun i h st => ⟨st.1, st.2⟩) ?_ hPs hw ?_
      · rintro i h h2 ⟨⟨old, hc⟩, hc2⟩ hk
        exact ⟨⟨old, (hk _ _ (by simp) hc).nt (.cls rfl)⟩, let ⟨o, ho, hcl, r⟩ := hc2; ⟨o, (hk _ o (by simp) ho).nt (.cls hcl), hcl, r⟩⟩
      · rintro i h ⟨⟨old, hc⟩, hc2⟩ b hb
        rcases List.mem_cons.mp hb with q | q
        · subst q; exact ⟨_, hc, notCo rfl (by decide)⟩
        · rw [List.mem_singleton.mp q]; obtain ⟨o, ho, hcl, _⟩ := hc2; exact ⟨o, ho, notCo hcl (by decide)⟩
  · intro b hb
    rcases List.mem_cons.mp hb with h | h
    · subst h; exact ⟨fresh_none (Nat.le_succ _), _, hen⟩
    · have := List.mem_singleton.mp h; subst this
      obtain ⟨o, ho, _⟩ := hit
      exact ⟨fresh_none (Nat.le_refl _), o, ho⟩

theorem ItTo.rev {tgt : Expr} {x : Str} {p pos : Pos} {cf : Bool} {e : Expr} {ds : List PyData} (hx : sc.names.lookup x = some .globalImplicit) (hm : G.mg x = none) (hb : G.mb x = some (.type "reversed")) (he : EvTo G k sc ρ e (.list ds)) (hn : NotStar e) :
    ItTo G k sc ρ tgt cf (.Call (.Name x p) [e] [] pos) ds.reverse := by
  intro A env M s Q E ho hv hr hQ
  refine call_type ho hv hr hx hm hb (.cons hn he .nil) fun vs s1 k1 r1 => ?_
  obtain ⟨v, rfl, r⟩ := r1.one
  simp only [Rp] at r
  obtain ⟨a, items, rfl, hM, hl, rr, hbd⟩ := r
  refine call_reversed_list hl.isList ?_
  have hlen : ds.length = items.size := by have := rr.length; simpa using this.symm
  have hal : a < s1.heap.objs.size := by obtain ⟨_, e⟩ := hl; exact Heap.lt_size e
  have hit : (s1.heap.push (revObj a ((items.size : Int) - 1))).IsRevIter s1.heap.objs.size a ((items.size : Int) - 1 - ((0 : Nat) : Int)) := by
    rw [show (items.size : Int) - 1 - ((0 : Nat) : Int) = (items.size : Int) - 1 by simp]
    exact ⟨_, Heap.get?_push_size _ rfl, rfl, rfl⟩
  refine wpAny_pyIter_revIter hit ?_
  refine hQ s1.heap.objs.size (· ∈ [s1.heap.objs.size]) (fun i h => i ≤ items.size ∧ h.IsRevIter s1.heap.objs.size a ((items.size : Int) - 1 - (i : Int))) s1.heap _ (k1.trans (Kp.push _ _)) ?_ ⟨Nat.zero_le _, hit⟩ (fun b o e => k1.tk b o e) (fun _ _ e => .inl (Heap.get?_push_of_some _ e)) ?_
  · refine Wk.ofWalks (Walks.listRev ho.hh s1.heap.objs.size a (Nat.ne_of_lt hal) items) (by rw [List.length_reverse]; exact hlen) (fun b hb => hb.2) ?_ (fun i h st => ⟨st.1, st.2.1⟩) ?_ ?_ ?_ ?_
    · intro i h hc ha
      exact ⟨hc.1, hc.2, (PL.gr hl fun o n e => ha a o (fun q => hM q.2) n e).isList⟩
    · intro i h h' hc hk; exact ⟨hc.1, let ⟨o, ho, hcl, r⟩ := hc.2; ⟨o, (hk _ o (by simp) ho).nt (.cls hcl), hcl, r⟩⟩
    · intro i v d hp hd
      have hi : i < ds.length := by have := (List.getElem?_eq_some_iff.mp hd).1; simpa using this
      rw [List.getElem?_reverse hi] at hd
      rw [← hlen] at hp
      exact rr.of_get hd (by simpa using hp)
    · intro i h hc
      obtain ⟨o, ho, hcl, _⟩ := hc.2
      exact ⟨o, _, ho, hcl, by decide, by decide⟩
    · intro b o hb e
      simp at hb; subst hb; exact absurd (Heap.lt_size e) (Nat.lt_irrefl _)
  · intro b hb
    simp at hb; subst hb
    exact ⟨fresh_none (Nat.le_refl _), _, Heap.get?_push_size _ rfl⟩

/-! ## a dict's keys -/
theorem RpD.get {h : Heap} {M : Addr → Prop} : ∀ {D : List (PyData × PyData)} {kvs : List (Str × Value)}, RpD prog w h M D kvs → ∀ {i : Nat} {kd : PyData × PyData}, D[i]? = some kd → ∃ x v, kvs[i]? = some (x, v) ∧ kd.1 = .str x ∧ Rp prog w h M kd.2 v
  | d :: ds, _, r, i, d', e => by
    simp only [RpD] at r
    obtain ⟨x, v, q, rfl, h0, h1, h2⟩ := r
    cases i with
    | zero => simp at e; subst e; exact ⟨x, v, rfl, h0, h1⟩
    | succ i => simpa using RpD.get h2 (by simpa using e)
theorem RpD.length {h : Heap} {M : Addr → Prop} : ∀ {D : List (PyData × PyData)} {kvs : List (Str × Value)}, RpD prog w h M D kvs → kvs.length = D.length
  | [], _, r => by simp only [RpD] at r; subst r; rfl
  | d :: ds, _, r => by
    simp only [RpD] at r
    obtain ⟨x, v, q, rfl, h0, h1, h2⟩ := r
    simp [RpD.length h2]

theorem letGo_str {A : Around} {tgt : Expr} {I : Addr} {x : Str} {t : Tok} {s : Shared} {Q : Unit → Shared → Prop} {E : Value → Shared → Prop} (h : Q () s) : wpAny (model prog w) A (letOwnedTupleGo tgt (.ref I) (.str x t)) Q E s := by
  unfold letOwnedTupleGo
  cases tgt <;> exact wpAny_pure h

theorem ItTo.dict {tgt : Expr} {cf : Bool} {e : Expr} {D : List (PyData × PyData)} (he : EvTo G k sc ρ e (.dict D)) : ItTo G k sc ρ tgt cf e (D.map (·.1)) := by
  intro A env M s Q E ho hv hr hQ
  refine he A env M s _ _ ho hv hr fun v s1 k1 r1 => ?_
  simp only [Rp] at r1
  obtain ⟨a, kvs, rfl, hM, hsm, hd, rr, hbd⟩ := r1
  obtain ⟨ep, hda⟩ := hd.dictAt
  refine wpAny_pyIter_dict hsm hda ?_
  have hlen := rr.length
  have hal : a < s1.heap.objs.size := hda.lt_size
  refine hQ s1.heap.objs.size (· = s1.heap.objs.size) (fun i h => h.IsKeyIter s1.heap.objs.size a i kvs.length ep) s1.heap _ (k1.trans (Kp.push _ _)) ?_ ⟨_, Heap.get?_push_size _ rfl, rfl, rfl⟩ (fun b o e => k1.tk b o e) (fun _ _ e => .inl (Heap.get?_push_of_some _ e)) ?_
  · have hda' : ∀ {h : Heap}, Agr (fun b => cf = true ∧ M b) s1.heap h → h.DictAt (strKind prog w) a kvs ep := by
      intro h ha
      obtain ⟨o, es, ho, r⟩ := hda
      exact ⟨o, es, ha a o (fun q => hM q.2) (.dict r.2.1) ho, r⟩
    have nc : ∀ {h : Heap} {i : Nat}, h.IsKeyIter s1.heap.objs.size a i kvs.length ep → ∀ b o, b = s1.heap.objs.size → h.get? b = some o → ¬ IsCo o := by
      intro h i hc b o hb e
      obtain ⟨o', ho', hcl, _⟩ := hc
      rw [hb, ho'] at e; cases e
      exact notCo hcl (by decide)
    refine ⟨?_, ?_, ?_, ?_, ?_⟩
    · intro i h h' hc hk; obtain ⟨o, ho, hcl, r⟩ := hc; exact ⟨o, (hk _ o rfl ho).nt (.cls hcl), hcl, r⟩
    · intro i h hc b hb; subst hb; obtain ⟨o, ho, r⟩ := hc; exact ⟨o, ho⟩
    · intro i d M' s2 Q' E' hd2 hc ha hM' hdom hQ'
      simp only [List.getElem?_map] at hd2
      cases hdi : D[i]? with
      | none => rw [hdi] at hd2; simp at hd2
      | some kd =>
        rw [hdi] at hd2
        simp at hd2; subst hd2
        obtain ⟨x, v, hxv, hk1, _⟩ := rr.get hdi
        refine wpAny_pyNext_dict_item hc (hda' ha) hxv fun key h' hkey hc' hs => ?_
        obtain ⟨t, rfl⟩ := Value.isStrOf_shape hkey
        refine letGo_str (hQ' _ _ (.mk' ⟨_, _, rfl⟩ (fun b o hb e => hs.extBut b o hb e) (nc hc)) hc' ?_)
        rw [hk1]; simp [Rp]
    · intro s2 Q' E' hc ha hQ'
      refine wpAny_pyNext_dict_end ho.hh hc (hda' ha) ?_ fun h' hs => hQ' _ (.mk' ⟨_, _, rfl⟩ (fun b o hb e => hs b o hb e) (nc hc))
      rw [List.getElem?_eq_none_iff]; simp [hlen]
    · intro i s2 Q' E' hc ha hQ'
      obtain ⟨o, ho', hcl, hdt⟩ := id hc
      have hT := hc.typeIs
      refine wpAny_pyIter_slot hT F.slot_dict_keyiterator_iter (wpAny_call_entry F.slot_dict_keyiterator_iter hT F.entry_dict_keyiterator_iter ?_ (F.args_dict_keyiterator_iter_1 _))
      show wpAny _ _ (ret (.ref _)) _ _ s2
      exact wpAny_pure ⟨_, rfl, "dict_keyiterator", _, hT, F.slot_dict_keyiterator_next.lookup, hQ'⟩
  · intro b hb
    subst hb
    exact ⟨fresh_none (Nat.le_refl _), _, Heap.get?_push_size _ rfl⟩
end
end Mine
end
section
open PySem PyProof.Rows
set_option Elab.async false
set_option linter.unusedVariables false
namespace Mine
section
variable {prog : Program} {w : World} {G : Gl prog w} {k : Nat} {sc : Scope} {ρ : VEnv}

/-- a frame that may be written: its locals and its own cells, all in Wc -/
structure FE (sc : Scope) (env : Env) (Wc : Addr → Prop) (h : Heap) : Prop where
  loc : ∃ m, h.Ns env.locals m
  wl : Wc env.locals
  cel : ∀ x, sc.names.lookup x = some .cell → env.kindOf x = some .cell ∧ ∃ c vo, env.cells.lookup x = some c ∧ h.IsCell c vo ∧ Wc c ∧ c ≠ env.locals ∧ ∀ y, env.cells.lookup y = some c → y = x
  wdata : ∀ a o, Wc a → h.get? a = some o → a = env.locals ∨ (∃ v, o.data = .cell v)

theorem FE.nt {env : Env} {Wc : Addr → Prop} {h : Heap} (f : FE sc env Wc h) {a : Addr} {o : Obj} (ha : Wc a) (e : h.get? a = some o) : NT o := by
  obtain ⟨m, om, es, ep, hom, hdm, _⟩ := f.loc
  rcases f.wdata a o ha e with q | ⟨v, q⟩
  · subst q; rw [hom] at e; cases e; exact .dict hdm
  · exact .cell q

theorem FE.noCo {env : Env} {Wc : Addr → Prop} {h : Heap} (f : FE sc env Wc h) : ∀ a o, Wc a → h.get? a = some o → ¬ IsCo o := by
  intro a o ha e
  obtain ⟨m, om, es, ep, hom, hdm, _⟩ := f.loc
  rcases f.wdata a o ha e with q | ⟨v, q⟩
  · subst q; rw [hom] at e; cases e; exact notCoD hdm
  · exact notCoC q

theorem FE.keeps {env : Env} {Wc : Addr → Prop} {h h' : Heap} (f : FE sc env Wc h) (hk : ∀ b o, NT o → h.get? b = some o → h'.get? b = some o) (hW : ∀ a, Wc a → ∃ o, h.get? a = some o) : FE sc env Wc h' := by
  refine ⟨let ⟨m, hm⟩ := f.loc; ⟨m, Nsp.gr hm (hk _)⟩, f.wl, fun x hx => let ⟨a, c, vo, h1, h2, r⟩ := f.cel x hx; ⟨a, c, vo, h1, Cel.gr h2 (hk _), r⟩, fun a o ha e => ?_⟩
  obtain ⟨o', e'⟩ := hW a ha
  obtain ⟨m, om, es, ep, hom, hdm, _⟩ := f.loc
  have nt : NT o' := by
    rcases f.wdata a o' ha e' with q | ⟨v, q⟩
    · subst q; rw [hom] at e'; cases e'; exact .dict hdm
    · exact .cell q
  have := hk a o' nt e'
  rw [this] at e; cases e
  exact f.wdata a o ha e'

/-- the names of sc that the frame itself binds -/
noncomputable def OwnName (sc : Scope) (x : Str) : Prop := sc.names.lookup x = some .local ∨ sc.names.lookup x = some .cell

theorem FE.store (G : Gl prog w) {A : Around} {env : Env} {Wc : Addr → Prop} {s : Shared} {x : Str} {v : Value} {Q : Unit → Shared → Prop} {E : Value → Shared → Prop} (f : FE sc env Wc s.heap) (hv : EnvOk sc env) (hx : OwnName sc x)
    (hW : ∀ a, Wc a → ∃ o, s.heap.get? a = some o)
    (h : ∀ s', FE sc env Wc s'.heap → KB G.T Wc s s' → (∀ a, Wc a → ∃ o, s'.heap.get? a = some o) → Acc env s'.heap x v → (∀ y u, y ≠ x → Acc env s.heap y u → Acc env s'.heap y u) → Q () s') :
    wpAny (model prog w) A (storeName env x v) Q E s := by
  rcases hx with hx | hx
  · have hl := hv.kindL x hx
    obtain ⟨m, hm⟩ := f.loc
    obtain ⟨oL, es, ep, hoL, hdL, rL⟩ := id hm
    refine wpAny_storeName_local hl hm (fun h' hn hs => ?_) (by rw [hv.kind]; rfl)
    obtain ⟨oL', es', ep', hoL', hdL', rL'⟩ := id hn
    have hk : ∀ b o, b ≠ env.locals → s.heap.get? b = some o → h'.get? b = some o := fun b o hb e => (hs.2 b hb).trans e
    refine h _ ⟨⟨_, hn⟩, f.wl, fun y hy => ?_, fun a o ha e => ?_⟩ (.mk' ⟨h', _, rfl⟩ (fun b o hb e => hk b o (fun q => hb (q ▸ f.wl)) e) f.noCo) (fun a ha => ?_) (.inl ⟨hl, _, hn, by simp⟩) fun y u hy hacc => ?_
    · obtain ⟨a, c, vo, h1, h2, h3, h4, h5⟩ := f.cel y hy
      exact ⟨a, c, vo, h1, Cel.gr h2 fun o _ e => hk _ o h4 e, h3, h4, h5⟩
    · by_cases he : a = env.locals
      · exact .inl he
      · exact f.wdata a o ha (by rw [← hs.2 a he]; exact e)
    · by_cases he : a = env.locals
      · subst he; exact ⟨_, hoL'⟩
      · obtain ⟨o, e⟩ := hW a ha; exact ⟨o, hk a o he e⟩
    · rcases hacc with ⟨hly, m', hm', hv'⟩ | ⟨hky, c, hc, hi⟩
      · refine .inl ⟨hly, _, hn, ?_⟩
        simp only [if_neg hy]
        rw [← hv']
        obtain ⟨o1, e1, p1, ho1, hd1, k1, n1⟩ := hm'
        obtain ⟨k2, n2⟩ := rL
        rw [hoL] at ho1; cases ho1
        rw [hdL] at hd1; cases hd1
        rw [← n1 y, ← n2 y]
      · refine .inr ⟨hky, c, hc, Cel.gr hi fun o _ e => hk _ o ?_ e⟩
        rintro rfl
        obtain ⟨o, ho, hd⟩ := hi
        rw [hoL] at ho; cases ho
        rw [hdL] at hd; cases hd
  · obtain ⟨hkc, c, vo, hc, hi, hwc, hcl, huniq⟩ := f.cel x hx
    refine wpAny_storeName_cell hv.kind hkc hc hi fun h' hi' hs => ?_
    have hk : ∀ b o, b ≠ c → s.heap.get? b = some o → h'.get? b = some o := fun b o hb e => (hs.2 b hb).trans e
    obtain ⟨m, hm⟩ := f.loc
    obtain ⟨oc, hoc, hdc⟩ := id hi
    obtain ⟨oc', hoc', hdc'⟩ := id hi'
    refine h { s with heap := h' } ⟨⟨m, hm.at' fun o e => hk _ o (Ne.symm hcl) e⟩, f.wl, fun y hy => ?_, fun a o ha e => ?_⟩ (.mk' ⟨h', s.toks, rfl⟩ (fun b o hb e => hk b o (fun q => hb (q ▸ hwc)) e) f.noCo) (fun a ha => ?_) (.inr ⟨.inl hkc, c, hc, hi'⟩) fun y u hy hacc => ?_
    · obtain ⟨a, c2, vo2, h1, h2, h3, h4, h5⟩ := f.cel y hy
      by_cases he : c2 = c
      · subst he; exact ⟨a, c2, _, h1, hi', h3, h4, h5⟩
      · exact ⟨a, c2, vo2, h1, Cel.gr h2 fun o _ e => hk _ o he e, h3, h4, h5⟩
    · by_cases he : a = c
      · subst he; rw [hoc'] at e; cases e; exact .inr ⟨_, hdc'⟩
      · exact f.wdata a o ha (by rw [← hs.2 a he]; exact e)
    · by_cases he : a = c
      · subst he; exact ⟨_, hoc'⟩
      · obtain ⟨o, e⟩ := hW a ha; exact ⟨o, hk a o he e⟩
    · rcases hacc with ⟨hly, m', hm', hv'⟩ | ⟨hky, c2, hc2, hi2⟩
      · exact .inl ⟨hly, m', hm'.at' fun o e => hk _ o (Ne.symm hcl) e, hv'⟩
      · refine .inr ⟨hky, c2, hc2, Cel.gr hi2 fun o _ e => hk _ o ?_ e⟩
        rintro rfl
        exact hy (huniq y hc2)
end
end Mine
end
section
open PySem PyProof.Rows
set_option Elab.async false
set_option linter.unusedVariables false
namespace Mine

inductive NotIn (y : Str) : VEnv → Prop
  | nil : NotIn y []
  | cons {z b r} : z ≠ y → NotIn y r → NotIn y ((z, b) :: r)
theorem NotIn.not {y : Str} {ρ : VEnv} (h : NotIn y ρ) : ∀ b, (y, b) ∉ ρ := by
  induction h with
  | nil => intro b hb; cases hb
  | cons hz _ ih => intro b hb; rcases List.mem_cons.mp hb with e | e
                    · cases e; exact hz rfl
                    · exact ih b e
theorem NotIn.notmem {y : Str} {ρ : VEnv} (h : NotIn y ρ) : y ∉ ρ.map (·.1) := by
  intro hm
  obtain ⟨⟨a, b⟩, hp, rfl⟩ := List.mem_map.mp hm
  exact h.not b hp

/-- y now is b -/
inductive Upd (y : Str) (b : B) : VEnv → VEnv → Prop
  | fresh {ρ} : NotIn y ρ → Upd y b ρ ((y, b) :: ρ)
  | here {c r} : Upd y b ((y, c) :: r) ((y, b) :: r)
  | skip {z c r r'} : z ≠ y → Upd y b r r' → Upd y b ((z, c) :: r) ((z, c) :: r')

theorem Upd.names {y : Str} {b : B} {ρ ρ' : VEnv} (h : Upd y b ρ ρ') : ∀ z, z ∈ ρ'.map (·.1) → z = y ∨ z ∈ ρ.map (·.1) := by
  induction h with
  | fresh _ => intro z hz; simpa using hz
  | here =>
    intro z hz
    simp only [List.map_cons, List.mem_cons] at hz ⊢
    rcases hz with e | e
    · exact .inl e
    · exact .inr (.inr e)
  | @skip z c r r' _ _ ih =>
    intro x hx
    simp only [List.map_cons, List.mem_cons] at hx ⊢
    rcases hx with rfl | hx
    · exact .inr (.inl rfl)
    · rcases ih x hx with e | e
      · exact .inl e
      · exact .inr (.inr e)
theorem Upd.nodup {y : Str} {b : B} {ρ ρ' : VEnv} (h : Upd y b ρ ρ') : (ρ.map (·.1)).Nodup → (ρ'.map (·.1)).Nodup := by
  induction h with
  | fresh hn => intro h; exact List.nodup_cons.mpr ⟨hn.notmem, h⟩
  | here => intro h; simpa using h
  | @skip z c r r' hz hu ih =>
    intro h
    simp only [List.map_cons, List.nodup_cons] at h ⊢
    refine ⟨fun hm => ?_, ih h.2⟩
    rcases hu.names z hm with e | e
    · exact hz e
    · exact h.1 e
theorem Upd.ent {y : Str} {b : B} {ρ ρ' : VEnv} (h : Upd y b ρ ρ') : (ρ.map (·.1)).Nodup → ∀ x c, (x, c) ∈ ρ' → (x = y ∧ c = b) ∨ (x ≠ y ∧ (x, c) ∈ ρ) := by
  induction h with
  | fresh hn =>
    intro _ x c hx
    rcases List.mem_cons.mp hx with e | e
    · cases e; exact .inl ⟨rfl, rfl⟩
    · exact .inr ⟨fun q => hn.not c (q ▸ e), e⟩
  | here =>
    intro h x c hx
    rcases List.mem_cons.mp hx with e | e
    · cases e; exact .inl ⟨rfl, rfl⟩
    · refine .inr ⟨fun q => ?_, List.mem_cons_of_mem _ e⟩
      simp only [List.map_cons, List.nodup_cons] at h
      exact h.1 (List.mem_map.mpr ⟨_, e, q⟩)
  | @skip z c r r' hz hu ih =>
    intro h x d hx
    simp only [List.map_cons, List.nodup_cons] at h
    rcases List.mem_cons.mp hx with e | e
    · cases e; exact .inr ⟨hz, List.mem_cons_self⟩
    · rcases ih h.2 x d e with q | ⟨q, q'⟩
      · exact .inl q
      · exact .inr ⟨q, List.mem_cons_of_mem _ q'⟩
section
variable {prog : Program} {w : World} {G : Gl prog w} {k : Nat} {sc : Scope} {ρ : VEnv}

theorem Ns.det {h : Heap} {a : Addr} {m m' : Str → Option Value} (x : h.Ns a m) (y : h.Ns a m') (n : Str) : m n = m' n := by
  obtain ⟨o, e, p, ho, hd, k, q⟩ := x
  obtain ⟨o', e', p', ho', hd', k', q'⟩ := y
  rw [ho] at ho'; cases ho'
  rw [hd] at hd'; cases hd'
  rw [← q n, ← q' n]

theorem Acc.det {env : Env} {h : Heap} {x : Str} {u v : Value} (a : Acc env h x u) (b : Acc env h x v) : u = v := by
  rcases a with ⟨a, m, hm, hx⟩ | ⟨a, c, hc, o, ho, hd⟩ <;> rcases b with ⟨b, m', hm', hx'⟩ | ⟨b, c', hc', o', ho', hd'⟩
  · have := Ns.det hm hm' x; rw [hx, hx'] at this; exact Option.some.inj this
  · rw [a] at b; rcases b with b | b <;> cases b
  · rw [b] at a; rcases a with a | a <;> cases a
  · rw [hc] at hc'; cases hc'
    rw [ho] at ho'; cases ho'
    rw [hd] at hd'; cases hd'; rfl

noncomputable def B.isMu : B → Prop
  | .mu _ => True
  | .mud _ => True
  | _ => False

/-- a frame at work; Z: where the growing things and the cells of others stand -/
structure Fm (G : Gl prog w) (sc : Scope) (env : Env) (Wc Z M : Addr → Prop) (ρ : VEnv) (s : Shared) : Prop where
  fe : FE sc env Wc s.heap
  vr : VR G env M ρ s
  sub : ∀ a, Wc a → M a
  nb : ∀ a, Wc a → G.hB.get? a = none
  ym : ∀ x b, (x, b) ∈ ρ → b.isMu → ∃ a, Acc env s.heap x (.ref a) ∧ Z a
  cz : ∀ x c, env.cells.lookup x = some c → Wc c ∨ Z c
  zs : ∀ a, Z a → M a

theorem Fm.keeps {env : Env} {Wc Z M : Addr → Prop} {s s' : Shared} (f : Fm G sc env Wc Z M ρ s) (k : Kp G.T s s') : Fm G sc env Wc Z M ρ s' :=
  ⟨f.fe.keeps k.nt fun a ha => f.vr.dom a (f.sub a ha), f.vr.keeps k, f.sub, f.nb, fun x b hx hb => let ⟨a, h1, h2⟩ := f.ym x b hx hb; ⟨a, h1.keeps k.nt, h2⟩, f.cz, f.zs⟩

theorem Fm.weak {env : Env} {Wc Z M : Addr → Prop} {ρ' : VEnv} {s : Shared} (f : Fm G sc env Wc Z M ρ' s) (h : ∀ p, p ∈ ρ → p ∈ ρ') (hn : (ρ.map (·.1)).Nodup) : Fm G sc env Wc Z M ρ s :=
  ⟨f.fe, ⟨f.vr.base, f.vr.dom, fun x b hx => f.vr.ent x b (h _ hx), f.vr.cel, hn⟩, f.sub, f.nb, fun x b hx => f.ym x b (h _ hx), f.cz, f.zs⟩

theorem Fm.locNs {env : Env} {Wc Z M : Addr → Prop} {s : Shared} (f : Fm G sc env Wc Z M ρ s) : ∃ o es n, s.heap.get? env.locals = some o ∧ o.data = .dict es n := by
  obtain ⟨m, o, es, ep, ho, hd, _⟩ := f.fe.loc
  exact ⟨o, es, ep, ho, hd⟩

theorem Fm.notW {env : Env} {Wc Z M : Addr → Prop} {s : Shared} (f : Fm G sc env Wc Z M ρ s) {a : Addr} {o : Obj} (e : s.heap.get? a = some o) (h1 : ∀ v, o.data ≠ .cell v) (h2 : (∃ xs n, o.data = .seq xs n) ∨ a ≠ env.locals) : ¬ Wc a := by
  intro hw
  rcases f.fe.wdata a o hw e with q | ⟨v, q⟩
  · rcases h2 with ⟨xs, n, h2⟩ | h2
    · obtain ⟨o', es, n', ho', hd'⟩ := f.locNs
      rw [← q, e] at ho'; cases ho'; rw [h2] at hd'; cases hd'
    · exact h2 q
  · exact h1 v q

/-- what a change of the frame alone leaves of a name -/
theorem ER.kb {env : Env} {Wc Z M : Addr → Prop} {s s' : Shared} {x : Str} {b : B} (f : Fm G sc env Wc Z M ρ s) (hk : KB G.T Wc s s') (hacc : ∀ u, Acc env s.heap x u → Acc env s'.heap x u) (r : ER prog w env s.heap M x b) : ER prog w env s'.heap M x b := by
  have hag : Agr M s.heap s'.heap := hk.agr f.sub
  cases b with
  | un => trivial
  | own d => obtain ⟨v, a, r⟩ := r; exact ⟨v, hacc v a, Rp.agr hag _ _ r⟩
  | mu ds =>
    obtain ⟨a, items, h1, h2, h3, h4, h5⟩ := r
    obtain ⟨n, e⟩ := id h3
    have hnw := f.notW e (fun v q => by cases q) (.inl ⟨_, _, rfl⟩)
    exact ⟨a, items, hacc _ h1, h2, PL.gr h3 fun o n e => hk.nt _ o hnw n e, RpL.agr hag _ _ h4, h5⟩
  | mud D =>
    obtain ⟨a, kvs, h1, h2, hl, h2', h3, h4, h5⟩ := r
    obtain ⟨o, es, ep, e, _, hd, _⟩ := id h3
    have hnw := f.notW e (fun v q => by rw [hd] at q; cases q) (.inr hl)
    exact ⟨a, kvs, hacc _ h1, h2, hl, h2', Dic.gr h3 fun o n e => hk.nt _ o hnw n e, RpD.agr hag _ _ h4, h5⟩

theorem Acc.kb {env : Env} {own : Addr → Prop} {s s' : Shared} {x : Str} {v : Value} (k : KB G.T own s s') (hl : ¬ own env.locals) (hc : ∀ x c, env.cells.lookup x = some c → ¬ own c) (a : Acc env s.heap x v) : Acc env s'.heap x v := by
  rcases a with ⟨a, m, b, c⟩ | ⟨a, c, b, d⟩
  · exact .inl ⟨a, m, Nsp.gr b fun o n e => k.nt _ o hl n e, c⟩
  · exact .inr ⟨a, c, b, Cel.gr d fun o n e => k.nt _ o (hc x c b) n e⟩

/-- a change of an iterator's own -/
theorem Fm.kb' {env : Env} {Wc Z M M1 own : Addr → Prop} {s s' : Shared} (f : Fm G sc env Wc Z M ρ s) (k : KB G.T own s s') (hM : ∀ b, own b → M b) (hW : ∀ b, own b → ¬ Wc b) (hZ : ∀ b, own b → ¬ Z b) (hB : ∀ b, own b → G.hB.get? b = none)
    (h1 : ∀ a, M1 a → M a) (hW1 : ∀ a, Wc a → M1 a) (hZ1 : ∀ a, Z a → M1 a) (hdom : ∀ b, M1 b → own b → ∃ o, s'.heap.get? b = some o) : Fm G sc env Wc Z M1 ρ s' := by
  have hl : ¬ own env.locals := fun q => hW _ q f.fe.wl
  have hc : ∀ x c, env.cells.lookup x = some c → ¬ own c := fun x c hc q => (f.cz x c hc).elim (hW c q) (hZ c q)
  have hag : Agr M s.heap s'.heap := k.agr hM
  have hs : ∀ a o, s'.heap.get? a = some o → M1 a → M a := fun a o e => h1 a
  refine ⟨⟨?_, f.fe.wl, ?_, ?_⟩, ⟨?_, ?_, ?_, fun x c hc => (f.cz x c hc).elim (hW1 c) (hZ1 c), f.vr.nd⟩, hW1, f.nb, ?_, f.cz, hZ1⟩
  · obtain ⟨m, hm⟩ := f.fe.loc; exact ⟨m, Nsp.gr hm fun o n e => k.nt _ o hl n e⟩
  · intro x hx
    obtain ⟨a, c, vo, h1, h2, r⟩ := f.fe.cel x hx
    exact ⟨a, c, vo, h1, Cel.gr h2 fun o n e => k.nt _ o (hc x c h1) n e, r⟩
  · intro a o ha e
    obtain ⟨o', e'⟩ := f.vr.dom a (f.sub a ha)
    have e2 := (k.tk a o' (fun q => hW a q ha) e').nt (f.fe.nt ha e')
    rw [e2] at e; cases e
    exact f.fe.wdata a o ha e'
  · intro b o e; exact (f.vr.base b o e).trans k.code fun o' e' => k.tk b o' (fun q => by rw [hB b q] at e; cases e) e'
  · intro a ha
    by_cases ho : own a
    · exact hdom a ha ho
    · obtain ⟨o, e⟩ := f.vr.dom a (h1 a ha); exact (k.tk a o ho e).al
  · intro x b hx
    have r := f.vr.ent x b hx
    have y := f.ym x b hx
    cases b with
    | un => trivial
    | own d => obtain ⟨v, a, r⟩ := r; exact ⟨v, a.kb k hl hc, Rp.sub hs _ _ (Rp.agr hag _ _ r)⟩
    | mu ds =>
      obtain ⟨a, items, h1, h2, h3, h4, h5⟩ := r
      obtain ⟨a', h1', hz⟩ := y trivial
      cases h1.det h1'
      exact ⟨a, items, h1.kb k hl hc, hZ1 a hz, PL.gr h3 fun o n e => k.nt _ o (fun q => hZ a q hz) n e, RpL.sub hs _ _ (RpL.agr hag _ _ h4), h5⟩
    | mud D =>
      obtain ⟨a, kvs, h1, h2, hl', h2', h3, h4, h5⟩ := r
      obtain ⟨a', h1', hz⟩ := y trivial
      cases h1.det h1'
      exact ⟨a, kvs, h1.kb k hl hc, hZ1 a hz, hl', h2', Dic.gr h3 fun o n e => k.nt _ o (fun q => hZ a q hz) n e, RpD.sub hs _ _ (RpD.agr hag _ _ h4), h5⟩
  · intro x b hx hb
    obtain ⟨a, h1, h2⟩ := f.ym x b hx hb
    exact ⟨a, h1.kb k hl hc, h2⟩

theorem Fm.kb {env : Env} {Wc Z M own : Addr → Prop} {s s' : Shared} (f : Fm G sc env Wc Z M ρ s) (k : KB G.T own s s') (hM : ∀ b, own b → M b) (hW : ∀ b, own b → ¬ Wc b) (hZ : ∀ b, own b → ¬ Z b) (hB : ∀ b, own b → G.hB.get? b = none)
    (hdom : ∀ b, own b → ∃ o, s'.heap.get? b = some o) : Fm G sc env Wc Z M ρ s' := f.kb' k hM hW hZ hB (fun _ h => h) f.sub f.zs fun b _ => hdom b

/-- more is avoided: what is new -/
theorem ER.grow {env : Env} {M own : Addr → Prop} {h : Heap} {x : Str} {b : B} (hn : ∀ a, own a → h.get? a = none) (r : ER prog w env h M x b) : ER prog w env h (fun a => M a ∨ own a) x b := by
  have hs : ∀ a o, h.get? a = some o → (M a ∨ own a) → M a := fun a o e q => q.elim id fun q => by rw [hn a q] at e; cases e
  cases b with
  | un => trivial
  | own d => obtain ⟨v, a, r⟩ := r; exact ⟨v, a, Rp.sub hs _ _ r⟩
  | mu ds => obtain ⟨a, items, h1, h2, h3, h4, h5⟩ := r; exact ⟨a, items, h1, .inl h2, h3, RpL.sub hs _ _ h4, h5⟩
  | mud D => obtain ⟨a, kvs, h1, h2, hl, h2', h3, h4, h5⟩ := r; exact ⟨a, kvs, h1, .inl h2, hl, h2', h3, RpD.sub hs _ _ h4, h5⟩

theorem Fm.grow {env : Env} {Wc Z M own : Addr → Prop} {s s' : Shared} (f : Fm G sc env Wc Z M ρ s) (k : Kp G.T s s') (hn : ∀ b, own b → s.heap.get? b = none) (hd : ∀ b, own b → ∃ o, s'.heap.get? b = some o) : Fm G sc env Wc Z (fun a => M a ∨ own a) ρ s' := by
  have f' := f.keeps k
  refine ⟨f'.fe, ⟨f'.vr.base, fun a ha => ha.elim (f'.vr.dom a) (hd a), fun x b hx => ((f.vr.ent x b hx).grow hn).keeps k.nt, fun x c hc => .inl (f.vr.cel x c hc), f.vr.nd⟩, fun a ha => .inl (f.sub a ha), f.nb, f'.ym, f.cz, fun a ha => .inl (f.zs a ha)⟩

theorem Fm.storeB {A : Around} {env : Env} {Wc Z M : Addr → Prop} {s : Shared} {y : Str} {v : Value} {b : B} {ρ' : VEnv} {Q : Unit → Shared → Prop} {E : Value → Shared → Prop} (f : Fm G sc env Wc Z M ρ s) (hv : EnvOk sc env)
    (hy : OwnName sc y) (hu : Upd y b ρ ρ') (hr : ∀ s', KB G.T Wc s s' → Acc env s'.heap y v → ER prog w env s'.heap M y b) (hz : b.isMu → ∃ a, v = .ref a ∧ Z a)
    (h : ∀ s', KB G.T Wc s s' → Fm G sc env Wc Z M ρ' s' → Acc env s'.heap y v → (∀ x u, x ≠ y → Acc env s.heap x u → Acc env s'.heap x u) → Q () s') : wpAny (model prog w) A (storeName env y v) Q E s := by
  refine f.fe.store G hv hy (fun a ha => f.vr.dom a (f.sub a ha)) fun s' fe' hk hdom hacc hold => h s' hk ⟨fe', ⟨?_, ?_, ?_, f.vr.cel, hu.nodup f.vr.nd⟩, f.sub, f.nb, ?_, f.cz, f.zs⟩ hacc hold
  · intro b o e
    exact (f.vr.base b o e).trans hk.code fun o' e' => hk.tk b o' (fun q => by rw [f.nb b q] at e; cases e) e'
  · intro a ha
    by_cases hw : Wc a
    · exact hdom a hw
    · obtain ⟨o, e⟩ := f.vr.dom a ha; exact (hk.tk a o hw e).al
  · intro x b hx
    rcases hu.ent f.vr.nd x b hx with ⟨rfl, rfl⟩ | ⟨hne, hx⟩
    · exact hr s' hk hacc
    · exact ER.kb f hk (fun u => hold x u hne) (f.vr.ent x b hx)
  · intro x c hx hb
    rcases hu.ent f.vr.nd x c hx with ⟨rfl, rfl⟩ | ⟨hne, hx⟩
    · obtain ⟨a, rfl, h2⟩ := hz hb
      exact ⟨a, hacc, h2⟩
    · obtain ⟨a, h1, h2⟩ := f.ym x c hx hb
      exact ⟨a, hold x _ hne h1, h2⟩

theorem Fm.store {A : Around} {env : Env} {Wc Z M : Addr → Prop} {s : Shared} {y : Str} {v : Value} {d : PyData} {ρ' : VEnv} {Q : Unit → Shared → Prop} {E : Value → Shared → Prop} (f : Fm G sc env Wc Z M ρ s) (hv : EnvOk sc env)
    (hy : OwnName sc y) (hu : Upd y (.own d) ρ ρ') (hr : Rp prog w s.heap M d v)
    (h : ∀ s', KB G.T Wc s s' → Fm G sc env Wc Z M ρ' s' → (∀ x u, x ≠ y → Acc env s.heap x u → Acc env s'.heap x u) → Q () s') : wpAny (model prog w) A (storeName env y v) Q E s :=
  f.storeB hv hy hu (fun s' hk hacc => ⟨v, hacc, Rp.agr (hk.agr f.sub) _ _ hr⟩) (fun h => by cases h) fun s' k f' _ ho => h s' k f' ho

/-- the growing things stay where they are -/
noncomputable def MuK (env : Env) (s s' : Shared) (ρ ρ' : VEnv) : Prop := ∀ x b, (x, b) ∈ ρ' → b.isMu → (x, b) ∈ ρ ∧ ∀ u, Acc env s.heap x u → Acc env s'.heap x u
theorem MuK.refl {env : Env} {s : Shared} {ρ : VEnv} : MuK env s s ρ ρ := fun x b h _ => ⟨h, fun _ a => a⟩
theorem MuK.trans {env : Env} {s s' s'' : Shared} {ρ ρ' ρ'' : VEnv} (a : MuK env s s' ρ ρ') (b : MuK env s' s'' ρ' ρ'') : MuK env s s'' ρ ρ'' := fun x c h hm => by
  obtain ⟨h1, h2⟩ := b x c h hm
  obtain ⟨h3, h4⟩ := a x c h1 hm
  exact ⟨h3, fun u q => h2 u (h4 u q)⟩
theorem MuK.keeps {env : Env} {s s' : Shared} {ρ : VEnv} (k : Kp G.T s s') : MuK env s s' ρ ρ := fun x b h _ => ⟨h, fun _ a => a.keeps k.nt⟩

/-- tgt, given x, leaves ρ' -/
noncomputable def BindTo (G : Gl prog w) (k : Nat) (sc : Scope) (ρ : VEnv) (tgt : Expr) (x : PyData) (ρ' : VEnv) : Prop :=
  ∀ (A : Around) (env : Env) (Wc Z M : Addr → Prop) (s : Shared) (v : Value) (Q : Unit → Shared → Prop) (E : Value → Shared → Prop), Ok k A → EnvOk sc env → Fm G sc env Wc Z M ρ s → Rp prog w s.heap M x v →
    (∀ s', KB G.T Wc s s' → Fm G sc env Wc Z M ρ' s' → MuK env s s' ρ ρ' → Q () s') → wpAny (model prog w) A (assign tgt env v) Q E s

theorem BindTo.name {y : Str} {p : Pos} {x : PyData} {ρ' : VEnv} (hy : OwnName sc y) (hu : Upd y (.own x) ρ ρ') : BindTo G k sc ρ (.Name y p) x ρ' := by
  intro A env Wc Z M s v Q E ho hv f hr hQ
  exact wpAny_assign_Name (f.store hv hy hu hr fun s' k f' ho => hQ s' k f' fun z b hz hb => (hu.ent f.vr.nd z b hz).elim (fun q => by rw [q.2] at hb; cases hb) fun q => ⟨q.2, fun u => ho z u q.1⟩)

/-- targets in a row -/
inductive BindEach (G : Gl prog w) (k : Nat) (sc : Scope) : VEnv → List Expr → List PyData → VEnv → Prop
  | nil (ρ : VEnv) : BindEach G k sc ρ [] [] ρ
  | cons (ρ : VEnv) (t : Expr) (ts : List Expr) (x : PyData) (xs : List PyData) (ρ₁ ρ' : VEnv) : (∀ rest env, assignEach (t :: rest) env = (false, assign t env) :: assignEach rest env) → BindTo G k sc ρ t x ρ₁ → BindEach G k sc ρ₁ ts xs ρ' → BindEach G k sc ρ (t :: ts) (x :: xs) ρ'

theorem BindEach.len {ρ' : VEnv} {ts : List Expr} {xs : List PyData} (h : BindEach G k sc ρ ts xs ρ') (env : Env) : (assignEach ts env).length = xs.length ∧ (assignEach ts env).findIdx? (·.1) = none := by
  induction h with
  | nil => exact ⟨rfl, rfl⟩
  | cons _ _ _ _ _ _ _ hp _ _ ih => rw [hp]; exact ⟨by simp [ih.1], by rw [List.findIdx?_cons]; simp [ih.2]⟩

theorem BindEach.run {ρ' : VEnv} {ts : List Expr} {xs : List PyData} (h : BindEach G k sc ρ ts xs ρ') : ∀ {A : Around} {env : Env} {Wc Z M : Addr → Prop} {s : Shared} {vs : List Value} {Q : Unit → Shared → Prop} {E : Value → Shared → Prop}, Ok k A → EnvOk sc env → Fm G sc env Wc Z M ρ s → RpL prog w s.heap M xs vs →
    (∀ s', KB G.T Wc s s' → Fm G sc env Wc Z M ρ' s' → MuK env s s' ρ ρ' → Q () s') → wpAny (model prog w) A (assignInOrder ((assignEach ts env).map (·.2)) vs) Q E s := by
  induction h with
  | nil => intro A env Wc Z M s vs Q E ho hv f hr hQ; exact assignInOrder_nil (hQ s (.of Kp.refl) f MuK.refl)
  | cons _ _ _ _ _ _ _ hp hb _ ih =>
    intro A env Wc Z M s vs Q E ho hv f hr hQ
    rw [hp]
    simp only [RpL] at hr
    obtain ⟨v, r, rfl, h1, h2⟩ := hr
    refine assignInOrder_cons (hb A env Wc Z M s v _ _ ho hv f h1 fun s1 k1 f1 m1 => ih ho hv f1 ?_ fun s2 k2 f2 m2 => hQ s2 (k1.trans k2) f2 (m1.trans m2))
    exact RpL.agr (k1.agr f.sub) _ _ h2

theorem BindTo.tuple {ts : List Expr} {c} {p : Pos} {xs : List PyData} {ρ' : VEnv} (h : BindEach G k sc ρ ts xs ρ') : BindTo G k sc ρ (.Tuple ts c p) (.tuple xs) ρ' := by
  intro A env Wc Z M s v Q E ho hv f hr hQ
  simp only [Rp] at hr
  obtain ⟨a, items, rfl, hM, hl, hr⟩ := hr
  have hlen := hr.length
  refine wpAny_assign_Tuple ho.hh hl (by rw [(h.len env).1, ← hlen]; simp) (h.len env).2 fun h' he => ?_
  have k1 : Kp G.T s { s with heap := h' } := Kp.mk' fun b o e => he b o (Nat.ne_of_lt (Heap.lt_size e)) e
  exact h.run ho hv (f.keeps k1) (RpL.agr k1.agr _ _ hr) fun s2 k2 f2 m2 => hQ s2 ((KB.of k1).trans k2) f2 ((MuK.keeps k1).trans m2)

/-- the ifs of a clause, in turn -/
inductive IfsTo (G : Gl prog w) (k : Nat) (sc : Scope) (ρ : VEnv) : List Expr → Bool → Prop
  | nil : IfsTo G k sc ρ [] true
  | one {c b} : TrTo G k sc ρ c b → IfsTo G k sc ρ [c] b
end
end Mine
end
section
open PySem PyProof.Rows
set_option Elab.async false
set_option linter.unusedVariables false
namespace Mine

noncomputable def turnRest (emit : Sem Unit) (e : Expr) (d : Nat) (it acc : Value) (env : Env) (g' : Option Comprehension) (t : Expr) (ifs : List Expr) (v : Value) : Sem Fin := do
  assign t env v
  let mut ok := true
  for c in ifs do
    if ok then ok ← isTrue c env (eval c env)
  if ok then
    match g' with
    | some g' =>
      let x ← eval g'.iter env
      standAt g'.iter.pos
      let x ← if g'.is_async != 0 then foldedIterable g'.iter x else foldedSetIterable g'.iter env x
      let _ ← runOwn (.compStart e (d + 1) (← holding [x] (if g'.is_async != 0 then asyncIter x else pyIter x)) acc env) env
    | none => emit
  again (.compLoop e d it acc env)

theorem compTurn_gen {elt : Expr} {gens : List Comprehension} {scope : Scope} {pos : Pos} {d : Nat} {t iter : Expr} {ifs : List Expr} (hg : gens[d]? = some ⟨t, iter, ifs, 0⟩) (it acc : Value) (env : Env) :
    compTurn (.ListComp elt gens scope pos) d it acc env = (standAt iter.pos >>= fun _ => pyNext it >>= fun r => match r with
      | none => pure (.done .next)
      | some v => letOwnedTupleGo t it v >>= fun _ => turnRest (do let _ ← call (.builtin "list.append") [acc, ← eval elt env]) (.ListComp elt gens scope pos) d it acc env (gens[d + 1]?) t ifs v) := by
  unfold compTurn turnRest
  simp only [hg]
  rfl

section
variable {prog : Program} {w : World} {G : Gl prog w} {k : Nat} {sc csc : Scope} {ρ : VEnv}

theorem KB.mono {T : TabS} {own own' : Addr → Prop} {s s' : Shared} (h : KB T own s s') (hm : ∀ b, own b → own' b) : KB T own' s s' := ⟨h.same, (fun b o hb e => h.tk b o (fun q => hb (hm b q)) e), h.co⟩
theorem KB.refl {T : TabS} {own : Addr → Prop} {s : Shared} : KB T own s s := .of Kp.refl
theorem KB.kp {T : TabS} {own : Addr → Prop} {s s' : Shared} (h : KB T own s s') (hn : ∀ b, own b → s.heap.get? b = none) : Kp T s s' := ⟨h.same, fun b o e => h.tk b o (fun q => by rw [hn b q] at e; cases e) e⟩
theorem mark_none {A : Around} : A.mark none = A := by cases A; rfl

structure CS (G : Gl prog w) (csc : Scope) (env : Env) (Wc Z M : Addr → Prop) (D : Addr) (ρ : VEnv) (pre : List PyData) (s : Shared) : Prop where
  fm : Fm G csc env Wc Z M ρ s
  acc : ∃ items, s.heap.PlainList D items ∧ RpL prog w s.heap M pre items.toList
  dM : M D
  dW : ¬ Wc D
  dZ : ¬ Z D
  dB : G.hB.get? D = none

section
variable {A : Around} {env : Env} {Wc Z M : Addr → Prop} {D : Addr} {pre : List PyData} {s s' : Shared}

theorem CS.keeps (c : CS G csc env Wc Z M D ρ pre s) (k : Kp G.T s s') : CS G csc env Wc Z M D ρ pre s' :=
  ⟨c.fm.keeps k, let ⟨items, h1, h2⟩ := c.acc; ⟨items, PL.gr h1 (k.nt _), RpL.agr k.agr _ _ h2⟩, c.dM, c.dW, c.dZ, c.dB⟩

theorem CS.kb {M1 own : Addr → Prop} (c : CS G csc env Wc Z M D ρ pre s) (k : KB G.T own s s') (hM : ∀ b, own b → M b) (hW : ∀ b, own b → ¬ Wc b) (hZ : ∀ b, own b → ¬ Z b) (hB : ∀ b, own b → G.hB.get? b = none)
    (h1 : ∀ a, M1 a → M a) (hW1 : ∀ a, Wc a → M1 a) (hZ1 : ∀ a, Z a → M1 a) (hD1 : M1 D) (hdom : ∀ b, M1 b → own b → ∃ o, s'.heap.get? b = some o) (hD : ¬ own D) : CS G csc env Wc Z M1 D ρ pre s' :=
  ⟨c.fm.kb' k hM hW hZ hB h1 hW1 hZ1 hdom, let ⟨items, h2, h3⟩ := c.acc; ⟨items, PL.gr h2 fun o n e => k.nt _ o hD n e, RpL.sub (fun a o e => h1 a) _ _ (RpL.agr (k.agr hM) _ _ h3)⟩, hD1, c.dW, c.dZ, c.dB⟩

theorem CS.fr {ρ' : VEnv} (c : CS G csc env Wc Z M D ρ pre s) (k : KB G.T Wc s s') (f : Fm G csc env Wc Z M ρ' s') : CS G csc env Wc Z M D ρ' pre s' :=
  ⟨f, let ⟨items, h1, h2⟩ := c.acc; ⟨items, PL.gr h1 fun o n e => k.nt _ o c.dW n e, RpL.agr (k.agr c.fm.sub) _ _ h2⟩, c.dM, c.dW, c.dZ, c.dB⟩

theorem CS.append {d : PyData} {u : Value} {Q : Value → Shared → Prop} {E : Value → Shared → Prop} (c : CS G csc env Wc Z M D ρ pre s) (hr : Rp prog w s.heap M d u) (hl : pre.length < lid)
    (hQ : ∀ s', KB G.T (· = D) s s' → CS G csc env Wc Z M D ρ (pre ++ [d]) s' → Q .none s') : wpAny (model prog w) A (call (.builtin "list.append") [.ref D, u]) Q E s := by
  obtain ⟨items, h1, h2⟩ := c.acc
  have hlen := h2.length
  refine wpAny_list_append_plain h1 (fun h' hp hs => ?_) (by have : items.size = pre.length := by simpa using hlen
                                                             rw [this]; exact Nat.le_trans (Nat.le_of_lt hl) lid_le)
  have k1 : KB G.T (· = D) s { s with heap := h' } := .mk' ⟨h', s.toks, rfl⟩ (fun b o hb e => (hs.2 b hb).trans e) fun b o hb e => by
    obtain ⟨n, e0⟩ := id h1
    rw [hb, e0] at e; cases e; exact notCoS rfl
  have hag : Agr M s.heap h' := k1.agr fun b q => q ▸ c.dM
  refine hQ _ k1 ⟨c.fm.kb k1 (fun b e => e ▸ c.dM) (fun b e => e ▸ c.dW) (fun b e => e ▸ c.dZ) (fun b e => e ▸ c.dB) (fun b e => ?_), ⟨_, hp, ?_⟩, c.dM, c.dW, c.dZ, c.dB⟩
  · subst e; obtain ⟨n, e⟩ := hp; exact ⟨_, e⟩
  · rw [Array.toList_push]
    exact RpL.append (RpL.agr hag _ _ h2) (RpL.cons (Rp.agr hag _ _ hr) RpL.nil)

theorem CS.weak {ρ' : VEnv} (c : CS G csc env Wc Z M D ρ' pre s) (h : ∀ p, p ∈ ρ → p ∈ ρ') (hn : (ρ.map (·.1)).Nodup) : CS G csc env Wc Z M D ρ pre s := ⟨c.fm.weak h hn, c.acc, c.dM, c.dW, c.dZ, c.dB⟩

theorem CS.grow {own : Addr → Prop} (c : CS G csc env Wc Z M D ρ pre s) (k : Kp G.T s s') (hn : ∀ b, own b → s.heap.get? b = none) (hd : ∀ b, own b → ∃ o, s'.heap.get? b = some o) : CS G csc env Wc Z (fun a => M a ∨ own a) D ρ pre s' := by
  obtain ⟨items, h1, h2⟩ := c.acc
  have hs : ∀ a o, s.heap.get? a = some o → (M a ∨ own a) → M a := fun a o e q => q.elim id fun q => by rw [hn a q] at e; cases e
  exact ⟨c.fm.grow k hn hd, ⟨items, PL.gr h1 (k.nt _), RpL.agr k.agr _ _ (RpL.sub hs _ _ h2)⟩, .inl c.dM, c.dW, c.dZ, c.dB⟩

end

/-- one turn of a comprehension -/
inductive TurnTo (G : Gl prog w) (k : Nat) (csc : Scope) (gens : List Comprehension) (elt : Expr) : VEnv → Nat → PyData → List PyData → Prop
  | no (ρ : VEnv) (d : Nat) (x : PyData) (ρ' : VEnv) (t it : Expr) (ifs : List Expr) : gens[d]? = some ⟨t, it, ifs, 0⟩ → BindTo G k csc ρ t x ρ' → (∀ p, p ∈ ρ → p ∈ ρ') → IfsTo G k csc ρ' ifs false → TurnTo G k csc gens elt ρ d x []
  | leaf (ρ : VEnv) (d : Nat) (x : PyData) (ρ' : VEnv) (t it : Expr) (ifs : List Expr) (v : PyData) : gens[d]? = some ⟨t, it, ifs, 0⟩ → gens[d + 1]? = none → BindTo G k csc ρ t x ρ' → (∀ p, p ∈ ρ → p ∈ ρ') → IfsTo G k csc ρ' ifs true →
      EvTo G k csc ρ' elt v → TurnTo G k csc gens elt ρ d x [v]
  | deep (ρ : VEnv) (d : Nat) (x : PyData) (ρ' : VEnv) (t it : Expr) (ifs : List Expr) (t' it' : Expr) (ifs' : List Expr) (α : Type) (f : α → PyData) (xs : List α) (o : α → List PyData) : gens[d]? = some ⟨t, it, ifs, 0⟩ → gens[d + 1]? = some ⟨t', it', ifs', 0⟩ →
      BindTo G k csc ρ t x ρ' → (∀ p, p ∈ ρ → p ∈ ρ') → IfsTo G k csc ρ' ifs true → ItTo G k csc ρ' t' true it' (xs.map f) → (∀ env x, foldedSetIterable it' env x = pure x) → (∀ y, y ∈ xs → TurnTo G k csc gens elt ρ' (d + 1) (f y) (o y)) → TurnTo G k csc gens elt ρ d x (xs.flatMap o)

noncomputable def TurnRun (G : Gl prog w) (k : Nat) (csc : Scope) (gens : List Comprehension) (elt : Expr) (scope : Scope) (pos : Pos) (ρ : VEnv) (d : Nat) (x : PyData) (o : List PyData) : Prop :=
  ∀ t iter ifs, gens[d]? = some ⟨t, iter, ifs, 0⟩ → ∀ (A : Around) (env : Env) (Wc Z M : Addr → Prop) (D : Addr) (pre : List PyData) (s : Shared) (v it : Value) (Q : Fin → Shared → Prop) (E : Value → Shared → Prop),
    Ok k A → EnvOk csc env → CS G csc env Wc Z M D ρ pre s → Rp prog w s.heap M x v → pre.length + o.length ≤ lid →
    (∀ s', KB G.T (fun b => Wc b ∨ b = D) s s' → CS G csc env Wc Z M D ρ (pre ++ o) s' → Q (.again (.compLoop (.ListComp elt gens scope pos) d it (.ref D) env)) s') →
    wpAny (model prog w) A (turnRest (do let _ ← call (.builtin "list.append") [.ref D, ← eval elt env]) (.ListComp elt gens scope pos) d it (.ref D) env (gens[d + 1]?) t ifs v) Q E s

theorem IfsTo.run {ifs : List Expr} {b : Bool} (h : IfsTo G k sc ρ ifs b) {A : Around} {env : Env} {M : Addr → Prop} {s : Shared} {Q : Bool → Shared → Prop} {E : Value → Shared → Prop} (ho : Ok k A) (hv : EnvOk sc env) (hr : VR G env M ρ s) (hQ : ∀ s', Kp G.T s s' → Q b s') :
    wpAny (model prog w) A (forIn ifs true fun c r => if r = true then do let ok ← isTrue c env (eval c env); pure (ForInStep.yield ok) else pure (ForInStep.yield r)) Q E s := by
  cases h with
  | nil => exact wpAny_tests_nil (hQ s Kp.refl)
  | one h => exact wpAny_tests_one (h A env M s Q E ho hv hr hQ)

theorem loop_run {α : Type} (f : α → PyData) (o : α → List PyData) {gens : List Comprehension} {elt : Expr} {scope : Scope} {pos : Pos} {d : Nat} {t iter : Expr} {ifs : List Expr} (hg : gens[d]? = some ⟨t, iter, ifs, 0⟩)
    {A : Around} {env : Env} {Wc Z M M1 : Addr → Prop} {D : Addr} {I : Addr} {own F M0 : Addr → Prop} {h0 : Heap} {ds : List PyData} {Co : Nat → Heap → Prop} {R : Result → Shared → Prop}
    (W : Wk prog w G.T A I own F M0 h0 t ds Co) (ho : Ok k A) (hv : EnvOk csc env) (hF : ∀ b o, (Wc b ∨ b = D) → h0.get? b = some o → F b) (hM0 : ∀ b o, h0.get? b = some o → M b → M0 b)
    (oM : ∀ b, own b → M b) (oW : ∀ b, own b → ¬ Wc b) (oZ : ∀ b, own b → ¬ Z b) (oB : ∀ b, own b → G.hB.get? b = none) (oD : ¬ own D) (o0 : ∀ b, own b → h0.get? b = none)
    (h1 : ∀ a, M1 a → M a) (h1o : ∀ a, M1 a → ¬ own a) (hW1 : ∀ a, Wc a → M1 a) (hZ1 : ∀ a, Z a → M1 a) (hD1 : M1 D) :
    ∀ (xs : List α) (i : Nat) (s : Shared) (pre : List PyData), ds.drop i = xs.map f → i ≤ ds.length → (∀ x, x ∈ xs → TurnRun G k csc gens elt scope pos ρ d (f x) (o x)) → Co i s.heap → Agr F h0 s.heap →
      CS G csc env Wc Z M D ρ pre s → pre.length + (xs.flatMap o).length ≤ lid →
      (∀ s', KB G.T (fun b => (Wc b ∨ b = D) ∨ own b) s s' → CS G csc env Wc Z M1 D ρ (pre ++ xs.flatMap o) s' → R (.ok .next) s') →
      codeAny (model prog w) A (.compLoop (.ListComp elt gens scope pos) d (.ref I) (.ref D) env) R s := by
  intro xs
  induction xs with
  | nil =>
    intro i s pre hd hi hT hc hag c hl hR
    refine codeAny_of_tree ?_
    show wpAny _ A ((compTurn (.ListComp elt gens scope pos) d (.ref I) (.ref D) env).onRaise (fun x => do noteFrame x env; theTreesLotGoes x)) _ _ s
    refine wpAny_noted ?_
    rw [compTurn_gen hg]
    have hi' : i = ds.length := by
      have : (ds.drop i).length = 0 := by rw [hd]; rfl
      rw [List.length_drop] at this; lia
    subst hi'
    refine wpAny_bind (wpAny_standAt (wpAny_bind (wpAny_mono (W.done s (fun s' => R (.ok .next) s') _ hc hag fun s' k' => ?_) (fun r s1 h1 => ?_) fun _ _ z => z)))
    · simp only [List.flatMap_nil, List.append_nil] at hR
      exact hR s' (k'.mono fun b hb => .inr hb) (c.kb k' oM oW oZ oB h1 hW1 hZ1 hD1 (fun b hb ho => absurd ho (h1o b hb)) oD)
    · cases r with
      | none => exact wpAny_pure h1
      | some v => exact h1.elim
  | cons x xs ih =>
    intro i s pre hd hi hT hc hag c hl hR
    refine codeAny_of_tree ?_
    show wpAny _ A ((compTurn (.ListComp elt gens scope pos) d (.ref I) (.ref D) env).onRaise (fun x => do noteFrame x env; theTreesLotGoes x)) _ _ s
    refine wpAny_noted ?_
    rw [compTurn_gen hg]
    have hdx : ds[i]? = some (f x) := by
      have : (ds.drop i)[0]? = some (f x) := by rw [hd]; rfl
      rw [List.getElem?_drop] at this; simpa using this
    have hlt : i < ds.length := (List.getElem?_eq_some_iff.mp hdx).1
    have hd' : ds.drop (i + 1) = xs.map f := by
      rw [← List.drop_drop, hd]; rfl
    simp only [List.flatMap_cons, List.length_append] at hl
    refine wpAny_bind (wpAny_standAt (wpAny_bind (wpAny_mono (W.item i (f x) M s (fun v s2 => wpAny (model prog w) A (turnRest (do let _ ← call (.builtin "list.append") [.ref D, ← eval elt env]) (.ListComp elt gens scope pos) d (.ref I) (.ref D) env (gens[d + 1]?) t ifs v)
      (fun fin s' => match fin with | .done f => R (.ok f) s' | .again c' => c'.quiet = true ∧ codeAny (model prog w) A c' R s') (notedBy (model prog w) A env fun e s' => R (.error e) s') s2) _ hdx hc hag hM0 c.fm.vr.dom fun v s1 k1 hc1 r1 => ?_) (fun r s1 h1 => ?_) fun _ _ z => z)))
    · have c1 : CS G csc env Wc Z M D ρ pre s1 := c.kb k1 oM oW oZ oB (fun _ h => h) c.fm.sub c.fm.zs c.dM (fun b _ hb => W.alive _ _ hc1 b hb) oD
      refine hT x List.mem_cons_self t iter ifs hg A env Wc Z M D pre s1 v (.ref I) _ _ ho hv c1 r1 (by lia) fun s2 k2 c2 => ⟨rfl, ?_⟩
      have hc2 : Co (i + 1) s2.heap := W.frame _ _ _ hc1 fun b o hb e => k2.tk b o (fun q => q.elim (oW b hb) fun q => oD (q ▸ hb)) e
      have hag2 : Agr F h0 s2.heap := fun b o hb n e => k2.nt b o (fun q => hb (hF b o q e)) n (k1.nt b o (fun q => by rw [o0 b q] at e; cases e) n (hag b o hb n e))
      refine ih (i + 1) s2 (pre ++ o x) hd' hlt (fun y hy => hT y (List.mem_cons_of_mem _ hy)) hc2 hag2 c2 (by rw [List.length_append]; lia) fun s3 k3 c3 => hR s3 (((k1.mono fun b hb => .inr hb).trans (k2.mono fun b hb => .inl hb)).trans k3) ?_
      simpa [List.append_assoc] using c3
    · cases r with
      | none => exact h1.elim
      | some v => exact wpAny_bind h1

theorem codeAny_compStart_gen {elt t iter : Expr} {ifs : List Expr} {gens : List Comprehension} {d : Nat} {scope : Scope} {pos : Pos} {it acc : Value} {env : Env} {A : Around} {R : Result → Shared → Prop} {s : Shared} (hg : gens[d]? = some ⟨t, iter, ifs, 0⟩)
    (h0 : codeAny (model prog w) A (.compLoop (.ListComp elt gens scope pos) d it acc env) R s)
    (h : wpAny (model prog w) A (pyIter it) (fun it' s' => codeAny (model prog w) A (.compLoop (.ListComp elt gens scope pos) d it' acc env) R s')
      (notedBy (model prog w) A env fun x s' => R (.error x) s') s) :
    codeAny (model prog w) A (.compStart (.ListComp elt gens scope pos) d it acc env) R s := by
  refine codeAny_of_tree ?_
  show wpAny _ _ ((compStart (.ListComp elt gens scope pos) d it acc env).onRaise (fun x => do noteFrame x env; standAt theWindowsPlace)) _ _ s
  refine wpAny_notedAt ?_
  have hcl : (clausesOf (.ListComp elt gens scope pos))[d]? = some ⟨t, iter, ifs, 0⟩ := hg
  unfold compStart
  rw [hcl]
  show wpAny _ _ (ask >>= _) _ _ s
  refine wpAny_bind (wpAny_askSetting (wpAny_ite ?_))
  split
  · first
      | exact wpAny_bind (wpAny_pure (wpAny_pure (And.intro rfl h0)))
      | exact wpAny_pure (And.intro rfl h0)
  · first
      | exact wpAny_bind (wpAny_rule (wpAny_bind (wpAny_standAt (wpAny_bind (wpAny_mono h (fun it' s' h' => wpAny_pure (And.intro rfl h')) fun _ _ x => x)))))
      | (refine wpAny_bind (wpAny_rule ?_); show wpAny _ _ (standAt iter.pos >>= _) _ _ s; exact wpAny_bind (wpAny_standAt (wpAny_bind (wpAny_mono h (fun it' s' h' => wpAny_pure (And.intro rfl h')) fun _ _ x => x))))

theorem TurnTo.run {gens : List Comprehension} {elt : Expr} {d : Nat} {x : PyData} {o : List PyData} (scope : Scope) (pos : Pos) (h : TurnTo G k csc gens elt ρ d x o) : TurnRun G k csc gens elt scope pos ρ d x o := by
  induction h with
  | no ρ d x ρ' t0 it0 ifs0 hg hb hsub hi =>
    intro t iter ifs hg' A env Wc Z M D pre s v it Q E ho hv c hr hl hQ
    rw [hg] at hg'; cases hg'
    unfold turnRest
    refine wpAny_bind (hb A env Wc Z M s v _ _ ho hv c.fm hr fun s1 k1 f1 _ => ?_)
    refine wpAny_bind (hi.run ho hv f1.vr fun s2 k2 => ?_)
    simp only [Bool.false_eq_true, if_false]
    refine wpAny_pure (hQ s2 ((k1.mono fun b hb => .inl hb).trans (.of k2)) ?_)
    simpa using ((c.fr k1 f1).keeps k2).weak hsub c.fm.vr.nd
  | leaf ρ d x ρ' t0 it0 ifs0 v0 hg hg2 hb hsub hi he =>
    intro t iter ifs hg' A env Wc Z M D pre s v it Q E ho hv c hr hl hQ
    rw [hg] at hg'; cases hg'
    unfold turnRest
    rw [hg2]
    refine wpAny_bind (hb A env Wc Z M s v _ _ ho hv c.fm hr fun s1 k1 f1 _ => ?_)
    refine wpAny_bind (hi.run ho hv f1.vr fun s2 k2 => ?_)
    have c2 := (c.fr k1 f1).keeps k2
    simp only [if_true]
    refine wpAny_bind (wpAny_bind (he A env M s2 _ _ ho hv c2.fm.vr fun u s3 k3 r3 => ?_))
    have c3 := c2.keeps k3
    simp only [List.length_singleton] at hl
    refine wpAny_bind (c3.append r3 (by lia) fun s4 k4 c4 => wpAny_pure (wpAny_pure (hQ s4 ?_ (c4.weak hsub c.fm.vr.nd))))
    exact (((k1.mono fun b hb => .inl hb).trans (.of (k2.trans k3))).trans (k4.mono fun b hb => .inr hb))
  | deep ρ d x ρ' t0 it0 ifs0 t' it' ifs' α f xs o hg hg2 hb hsub hi hit hfs _ ih =>
    intro t iter ifs hg' A env Wc Z M D pre s v it Q E ho hv c hr hl hQ
    rw [hg] at hg'; cases hg'
    unfold turnRest
    rw [hg2]
    refine wpAny_bind (hb A env Wc Z M s v _ _ ho hv c.fm hr fun s1 k1 f1 _ => ?_)
    refine wpAny_bind (hi.run ho hv f1.vr fun s2 k2 => ?_)
    have c2 := (c.fr k1 f1).keeps k2
    simp only [if_true]
    refine wpAny_bind (wpAny_mono (hit A env M s2 (fun it3 s3 => wpAny (model prog w) A (runOwn (.compStart (.ListComp elt gens scope pos) (d + 1) it3 (.ref D) env) env) (fun _ s4 => Q (.again (.compLoop (.ListComp elt gens scope pos) d it (.ref D) env)) s4) E s3) E ho hv c2.fm.vr ?_) (fun u s3 h3 => ?_) fun _ _ z => z)
    · intro I own Co h0 s3 k3 W hc3 hh1 hh2 hown
      have on : ∀ b, own b → s2.heap.get? b = none := fun b hb => by
        cases e : s2.heap.get? b with
        | none => rfl
        | some o' => obtain ⟨_, q⟩ := (hh1 b o' e).al; rw [(hown b hb).1] at q; cases q
      have c3 := c2.grow k3 on fun b hb => (hown b hb).2
      have nM : ∀ b, M b → ¬ own b := fun b hb q => by obtain ⟨o', e⟩ := c2.fm.vr.dom b hb; rw [on b q] at e; cases e
      have key : ∀ (R : Result → Shared → Prop), (∀ s4, KB G.T (fun b => (Wc b ∨ b = D) ∨ own b) s3 s4 → CS G csc env Wc Z M D ρ' (pre ++ xs.flatMap o) s4 → R (.ok .next) s4) →
          codeAny (model prog w) A (.compLoop (.ListComp elt gens scope pos) (d + 1) (.ref I) (.ref D) env) R s3 := fun R hR =>
        loop_run f o hg2 (M := fun a => M a ∨ own a) (M1 := M) W ho hv (fun b o' hb _ => ⟨rfl, hb.elim (c2.fm.sub b) fun q => q ▸ c2.dM⟩) (fun b o' e q => q.elim id fun q => by rw [(hown b q).1] at e; cases e) (fun b hb => .inr hb)
          (fun b hb q => nM b (c2.fm.sub b q) hb) (fun b hb q => nM b (c2.fm.zs b q) hb) (fun b hb => by
            cases e : G.hB.get? b with
            | none => rfl
            | some o' => obtain ⟨_, q⟩ := (c2.fm.vr.base b o' e).al; rw [on b hb] at q; cases q) (nM D c2.dM) (fun b hb => (hown b hb).1) (fun a ha => .inl ha) nM c2.fm.sub c2.fm.zs c2.dM
          xs 0 s3 pre rfl (Nat.zero_le _) (fun y hy => ih y hy) hc3 (fun b o' _ n e => (hh2 b o' e).nt n) c3 hl hR
      have fin : ∀ s4, KB G.T (fun b => (Wc b ∨ b = D) ∨ own b) s3 s4 → CS G csc env Wc Z M D ρ' (pre ++ xs.flatMap o) s4 → Q (.again (.compLoop (.ListComp elt gens scope pos) d it (.ref D) env)) s4 := fun s4 k4 c4 => by
        have KK := ((k1.mono (own' := fun b => (Wc b ∨ b = D) ∨ own b) fun b hb => .inl (.inl hb)).trans (.of (k2.trans k3))).trans k4
        refine hQ s4 ⟨KK.same, fun b o' hb e => ?_, KK.co⟩ (c4.weak hsub c.fm.vr.nd)
        have e2 : Gr G.T s2.heap b o' := (k1.tk b o' (fun q => hb (.inl q)) e).trans k2.code (k2.tk b)
        exact (e2.trans k3.code (k3.tk b)).trans k4.code fun o2 e3 => k4.tk b o2 (fun q => q.elim hb fun q => by obtain ⟨_, z⟩ := e2.al; rw [on b q] at z; cases z) e3
      refine wpAny_runOwn ?_
      rw [mark_none]
      exact codeAny_compStart_gen hg2 (key _ fin) (W.self 0 s3 _ _ hc3 (fun b o' _ n e => (hh2 b o' e).nt n) (key _ fin))
    · refine wpAny_bind (wpAny_standAt ?_)
      show wpAny _ A (foldedSetIterable it' env u >>= fun y => (holding [y] (pyIter y)) >>= fun z => runOwn (.compStart (.ListComp elt gens scope pos) (d + 1) z (.ref D) env) env >>= fun _ => again (.compLoop (.ListComp elt gens scope pos) d it (.ref D) env)) Q E s3
      rw [hfs]
      refine wpAny_bind (wpAny_pure (wpAny_bind (wpAny_holding (wpAny_mono h3 (fun z s4 h4 => wpAny_bind (wpAny_mono h4 (fun _ s5 h5 => wpAny_pure h5) fun _ _ z => z)) fun _ _ z => z))))
end
end Mine
end
section
open PySem PyProof.Rows
set_option Elab.async false
set_option linter.unusedVariables false
namespace Mine

/-- the cells that a scope takes from around it -/
noncomputable def clOf (env : Env) : List (Str × NameKind) → List (Str × Addr) → List (Str × Addr)
  | [], acc => acc
  | (n, kind) :: r, acc => if kind == .free then clOf env r ((n, (env.cells.lookup n).getD 0) :: acc) else clOf env r acc

theorem forIn_clos (env : Env) (f : Str × NameKind → List (Str × Addr) → Sem (ForInStep (List (Str × Addr))))
    (hf : ∀ n kind cs, f (n, kind) cs = if kind == .free then (do let a ← cellOf env n; pure (.yield ((n, a) :: cs))) else pure (.yield cs)) :
    ∀ (names : List (Str × NameKind)) (acc : List (Str × Addr)), (∀ x, x ∈ names → x.2 = .free → ∃ c, env.cells.lookup x.1 = some c) → forIn names acc f = pure (clOf env names acc)
  | [], acc, _ => by rw [List.forIn_nil]; rfl
  | (n, kind) :: r, acc, h => by
    have ih := forIn_clos env f hf r
    rw [List.forIn_cons, hf]
    unfold clOf
    split
    · rename_i hk
      obtain ⟨c, hc⟩ := h (n, kind) List.mem_cons_self (by simpa using hk)
      have e : cellOf env n = pure c := by unfold cellOf; rw [hc]
      rw [e, hc]
      have := ih ((n, c) :: acc) fun x hx => h x (List.mem_cons_of_mem _ hx)
      simpa using this
    · have := ih acc fun x hx => h x (List.mem_cons_of_mem _ hx)
      simpa using this

theorem closureFor_eq {scope : Scope} {env : Env} (h : ∀ x, x ∈ scope.names → x.2 = .free → ∃ c, env.cells.lookup x.1 = some c) : closureFor scope env = pure (clOf env scope.names []) := by
  unfold closureFor
  have := forIn_clos env (fun x r => if x.2 == NameKind.free then (do let a ← cellOf env x.1; pure (ForInStep.yield ((x.1, a) :: r))) else pure (ForInStep.yield r)) (fun n kind cs => rfl) scope.names [] h
  simp only [bind_pure]
  exact this

theorem cellsFrom_acc : ∀ (names : List (Str × NameKind)) (n : Nat) (acc : List (Str × Addr)), cellsFrom n names acc = cellsFrom n names [] ++ acc
  | [], n, acc => rfl
  | (x, kind) :: r, n, acc => by
    unfold cellsFrom
    split
    · rw [cellsFrom_acc r (n + 1) ((x, n) :: acc), cellsFrom_acc r (n + 1) [(x, n)]]; simp
    · exact cellsFrom_acc r n acc

theorem cellsFrom_names : ∀ (names : List (Str × NameKind)) (n : Nat) (x : Str) (c : Addr), (x, c) ∈ cellsFrom n names [] → (x, .cell) ∈ names
  | [], n, x, c, h => by cases h
  | (y, kind) :: r, n, x, c, h => by
    unfold cellsFrom at h
    split at h
    · rename_i hk
      rw [cellsFrom_acc, List.mem_append] at h
      rcases h with h | h
      · exact List.mem_cons_of_mem _ (cellsFrom_names r _ x c h)
      · cases List.mem_singleton.mp h; rw [show kind = NameKind.cell by simpa using hk]; exact List.mem_cons_self
    · exact List.mem_cons_of_mem _ (cellsFrom_names r _ x c h)

theorem cellsFrom_has : ∀ (names : List (Str × NameKind)) (n : Nat) (x : Str), (x, .cell) ∈ names → ∃ c, (x, c) ∈ cellsFrom n names []
  | [], n, x, h => by cases h
  | (y, kind) :: r, n, x, h => by
    unfold cellsFrom
    rcases List.mem_cons.mp h with e | h
    · cases e
      refine ⟨n, ?_⟩
      rw [if_pos (by rfl), cellsFrom_acc]
      simp
    · split
      · obtain ⟨c, hc⟩ := cellsFrom_has r (n + 1) x h
        refine ⟨c, ?_⟩
        rw [cellsFrom_acc]; exact List.mem_append_left _ hc
      · exact cellsFrom_has r n x h

theorem clOf_acc (env : Env) : ∀ (names : List (Str × NameKind)) (acc : List (Str × Addr)), clOf env names acc = clOf env names [] ++ acc
  | [], acc => rfl
  | (x, kind) :: r, acc => by
    unfold clOf
    split
    · rw [clOf_acc env r (_ :: acc), clOf_acc env r [_]]; simp
    · exact clOf_acc env r acc
theorem clOf_mem (env : Env) : ∀ (names : List (Str × NameKind)) (x : Str) (c : Addr), (x, c) ∈ clOf env names [] → (x, .free) ∈ names ∧ c = (env.cells.lookup x).getD 0
  | [], x, c, h => by cases h
  | (y, kind) :: r, x, c, h => by
    unfold clOf at h
    split at h
    · rename_i hk
      rw [clOf_acc, List.mem_append] at h
      rcases h with h | h
      · have := clOf_mem env r x c h; exact ⟨List.mem_cons_of_mem _ this.1, this.2⟩
      · cases List.mem_singleton.mp h; rw [show kind = NameKind.free by simpa using hk]; exact ⟨List.mem_cons_self, rfl⟩
    · have := clOf_mem env r x c h; exact ⟨List.mem_cons_of_mem _ this.1, this.2⟩
theorem clOf_has (env : Env) : ∀ (names : List (Str × NameKind)) (x : Str), (x, .free) ∈ names → (x, (env.cells.lookup x).getD 0) ∈ clOf env names []
  | [], x, h => by cases h
  | (y, kind) :: r, x, h => by
    unfold clOf
    rcases List.mem_cons.mp h with e | h
    · cases e
      rw [if_pos (by rfl), clOf_acc]; simp
    · split
      · rw [clOf_acc]; exact List.mem_append_left _ (clOf_has env r x h)
      · exact clOf_has env r x h

theorem lookup_of_mem {α : Type} : ∀ {l : List (Str × α)} {n : Str} {c : α}, (n, c) ∈ l → (∀ c', (n, c') ∈ l → c' = c) → l.lookup n = some c
  | (k, v) :: r, n, c, h, hu => by
    rw [List.lookup_cons]
    cases hb : n == k with
    | true =>
      have : n = k := beq_iff_eq.mp hb
      subst this
      rw [hu v List.mem_cons_self]
    | false =>
      rcases List.mem_cons.mp h with e | h
      · cases e; simp at hb
      · exact lookup_of_mem h fun c' hc' => hu c' (List.mem_cons_of_mem _ hc')
theorem lookup_none {α : Type} : ∀ {l : List (Str × α)} {n : Str}, (∀ c, (n, c) ∉ l) → l.lookup n = none
  | [], n, h => rfl
  | (k, v) :: r, n, h => by
    rw [List.lookup_cons]
    cases hb : n == k with
    | true => rw [beq_iff_eq.mp hb] at h; exact absurd List.mem_cons_self (h v)
    | false => exact lookup_none fun c hc => h c (List.mem_cons_of_mem _ hc)

theorem lookup_relabel {env : Env} {x : Str} : ∀ {names : List (Str × NameKind)},
    (names.map fun (n, k) => if (k == NameKind.free && env.scope.kind == .function && env.kindOf n == some .cell) then (n, NameKind.cell) else (n, k)).lookup x =
      (names.lookup x).map fun k => if (k == NameKind.free && env.scope.kind == .function && env.kindOf x == some .cell) then NameKind.cell else k
  | [] => rfl
  | (n, k) :: r => by
    have ih := @lookup_relabel env x r
    show List.lookup x ((if (k == NameKind.free && env.scope.kind == .function && env.kindOf n == some .cell) = true then (n, NameKind.cell) else (n, k)) :: _) = _
    cases hx : x == n with
    | true =>
      have hxn : x = n := beq_iff_eq.mp hx
      subst hxn
      by_cases hc : (k == NameKind.free && env.scope.kind == .function && env.kindOf x == some .cell) = true
      · rw [if_pos hc]; simp only [List.lookup_cons, beq_self_eq_true, Option.map_some]; rw [if_pos hc]
      · rw [if_neg hc]; simp only [List.lookup_cons, beq_self_eq_true, Option.map_some]; rw [if_neg hc]
    | false =>
      by_cases hc : (k == NameKind.free && env.scope.kind == .function && env.kindOf n == some .cell) = true
      · rw [if_pos hc]; simp only [List.lookup_cons, hx]; exact ih
      · rw [if_neg hc]; simp only [List.lookup_cons, hx]; exact ih

/-- what a comprehension's scope must keep to -/
noncomputable def compOk (sc csc : Scope) : Bool :=
  csc.kind == .function && decide (csc.names.map (·.1)).Nodup && csc.names.all fun y => y.1 != ("__debug__" : Str) && y.1 != ("__classdict__" : Str) && (y.2 != .free || sc.names.lookup y.1 == some .cell || sc.names.lookup y.1 == some .free)

section
variable {M : Model} {A : Around} {E : Value → Shared → Prop} {s : Shared}
theorem wpAny_newEnv_comp {scope : Scope} {cl : List (Str × Addr)} {env : Env} {Q : Env → Shared → Prop}
    (hQ : Q { scope := scope, locals := s.heap.objs.size, globals := env.globals, cells := cellsFrom (s.heap.objs.size + 1) scope.names cl, qual := env.qual, func := none, code := env.code, frame := env.frame, builtins := env.builtins }
      { s with heap := pushCells (s.heap.push { cls := .type "dict", data := .dict #[] }) scope.names }) :
    wpAny M A (newFunctionEnv scope env.globals cl [] env.qual none .none (some env)) Q E s := by
  simp only [newFunctionEnv, Option.isSome_some, if_true]
  refine wpAny_bind (wpAny_alloc ?_)
  refine wpAny_bind (wpAny_layCells _ (fun name kind cells => by cases hkc : kind == NameKind.cell <;> simp [hkc]) _ _ _ _ ?_)
  rw [show ({ s with heap := s.heap.push { cls := .type "dict", data := .dict #[] } } : Shared).heap.objs.size = s.heap.objs.size + 1 from Heap.size_push ..]
  rw [List.forIn_nil]
  exact wpAny_bind (wpAny_pure (wpAny_pure hQ))
end

/-- the part of the names that a comprehension's scope takes from around it -/
inductive Filt (csc : Scope) : VEnv → VEnv → Prop
  | nil : Filt csc [] []
  | keep {x b r r'} : csc.names.lookup x = some .free → Filt csc r r' → Filt csc ((x, b) :: r) ((x, b) :: r')
  | drop {x b r r'} : Filt csc r r' → Filt csc ((x, b) :: r) r'

theorem Filt.mem {csc : Scope} {ρ ρc : VEnv} (h : Filt csc ρ ρc) : ∀ x b, (x, b) ∈ ρc → csc.names.lookup x = some .free ∧ (x, b) ∈ ρ := by
  induction h with
  | nil => intro x b hx; cases hx
  | keep hf _ ih =>
    intro x b hx
    rcases List.mem_cons.mp hx with e | e
    · cases e; exact ⟨hf, List.mem_cons_self⟩
    · exact ⟨(ih x b e).1, List.mem_cons_of_mem _ (ih x b e).2⟩
  | drop _ ih => intro x b hx; exact ⟨(ih x b hx).1, List.mem_cons_of_mem _ (ih x b hx).2⟩
theorem Filt.sublist {csc : Scope} {ρ ρc : VEnv} (h : Filt csc ρ ρc) : ρc.Sublist ρ := by
  induction h with
  | nil => exact .slnil
  | keep _ _ ih => exact ih.cons₂ _
  | drop _ ih => exact ih.cons _

section
variable {prog : Program} {w : World} {G : Gl prog w} {k : Nat} {sc csc : Scope} {ρ ρc : VEnv}

theorem Kp.trans' {T : TabS} {own : Addr → Prop} {s s' s'' : Shared} (a : Kp T s s') (b : KB T own s' s'') (hn : ∀ b, own b → s.heap.get? b = none) : Kp T s s'' :=
  ((KB.of a).trans b).kp hn

structure CompOk (sc csc : Scope) : Prop where
  kind : csc.kind = .function
  nd : (csc.names.map (·.1)).Nodup
  dbg : csc.names.lookup ("__debug__" : Str) = none
  cd : csc.names.lookup ("__classdict__" : Str) = none
  free : ∀ x, (x, NameKind.free) ∈ csc.names → (sc.names.lookup x = some .cell ∨ sc.names.lookup x = some .free)

theorem compOk.of (h : compOk sc csc = true) : CompOk sc csc := by
  simp only [compOk, Bool.and_eq_true, decide_eq_true_eq, List.all_eq_true, bne_iff_ne, Bool.or_eq_true, beq_iff_eq] at h
  obtain ⟨⟨h1, h2⟩, h3⟩ := h
  refine ⟨h1, h2, lookup_none fun c hc => (h3 _ hc).1.1 rfl, lookup_none fun c hc => (h3 _ hc).1.2 rfl, fun x hx => ?_⟩
  rcases (h3 _ hx).2 with (q | q) | q
  · exact absurd rfl q
  · exact .inl q
  · exact .inr q

theorem CompOk.mem {n : Str} {c c' : NameKind} (h : CompOk sc csc) (a : (n, c) ∈ csc.names) (b : (n, c') ∈ csc.names) : c = c' := by
  have key : ∀ (l : List (Str × NameKind)), (l.map (·.1)).Nodup → (n, c) ∈ l → (n, c') ∈ l → c = c' := by
    intro l
    induction l with
    | nil => intro _ a; cases a
    | cons y r ih =>
      intro hn a b
      simp only [List.map_cons, List.nodup_cons] at hn
      rcases List.mem_cons.mp a with e | a <;> rcases List.mem_cons.mp b with e' | b
      · rw [← e'] at e; exact (Prod.mk.inj e).2
      · exact absurd (List.mem_map.mpr ⟨_, b, by rw [← e]⟩) hn.1
      · exact absurd (List.mem_map.mpr ⟨_, a, by rw [← e']⟩) hn.1
      · exact ih hn.2 a b
  exact key _ h.nd a b
theorem CompOk.look {n : Str} {c : NameKind} (h : CompOk sc csc) (a : (n, c) ∈ csc.names) : csc.names.lookup n = some c := lookup_of_mem a fun _ hc' => h.mem hc' a

/-- the frame of a comprehension, as it is laid -/
theorem comp_core {α : Type} (f : α → PyData) (o : α → List PyData) {elt t iter : Expr} {ifs : List Expr} {rest : List Comprehension} {pos : Pos} {xs : List α} {A : Around} {env : Env} {M : Addr → Prop} {s : Shared} {E : Value → Shared → Prop} {RR : Value → Addr → Result → Shared → Prop}
    (hc : CompOk sc csc) (hρ : Filt csc ρ ρc) (hit : ItTo G k sc ρ t false iter (xs.map f)) (hT : ∀ x, x ∈ xs → TurnTo G k csc (⟨t, iter, ifs, 0⟩ :: rest) elt ρc 0 (f x) (o x)) (hl : (xs.flatMap o).length ≤ lid)
    (ho : Ok k A) (hv : EnvOk sc env) (hr : VR G env M ρ s)
    (hQ : ∀ D C s', Kp G.T s s' → (∃ m, s'.heap.Ns C m) → s.heap.get? C = none → s.heap.get? D = none → D ≠ C → (∃ items, s'.heap.PlainList D items ∧ RpL prog w s'.heap (fun a => M a ∨ a = C ∨ a = D) (xs.flatMap o) items.toList) → RR (.ref D) C (.ok .next) s') :
    wpAny (model prog w) A (eval iter env) (fun x s₁ => wpAny (model prog w) A (pyIter x) (fun it s₂ => wpAny (model prog w) A (newList []) (fun acc s₃ =>
      wpAny (model prog w) A (newFunctionEnv csc env.globals (clOf env csc.names []) [] env.qual none .none (some env)) (fun cenv s₄ =>
        codeAny (model prog w) A (.compStart (.ListComp elt (⟨t, iter, ifs, 0⟩ :: rest) csc pos) 0 it acc { cenv with scope := relabel csc env }) (RR acc cenv.locals) s₄) E s₃) E s₂) E s₁) E s := by
  refine hit A env M s _ _ ho hv hr fun I own Co h0 s2 k2 W hc0 hh1 hh2 hown => ?_
  refine wpAny_newObj_type (wpAny_newEnv_comp ?_)
  dsimp only
  generalize hH2 : s2.heap.push { cls := .type "list", dict := none, data := .seq ([] : List Value).toArray } = H2
  have hs2 : H2.objs.size = s2.heap.objs.size + 1 := by rw [← hH2, Heap.size_push]
  generalize hH3 : H2.push { cls := .type "dict", data := .dict #[] } = H3
  have hs3 : H3.objs.size = H2.objs.size + 1 := by rw [← hH3, Heap.size_push]
  have fr2 : ∀ a, s2.heap.objs.size ≤ a → s2.heap.get? a = none := fun a ha => fresh_none ha
  have all2 : ∀ b o, s2.heap.get? b = some o → (pushCells H3 csc.names).get? b = some o := fun b o e => pushCells_keeps _ _ b o (by rw [← hH3]; exact Heap.get?_push_of_some _ (by rw [← hH2]; exact Heap.get?_push_of_some _ e))
  have ok := cellsFrom_ok csc.names H3 (H2.objs.size + 1) [] ⟨fun _ _ hm => (nomatch hm), List.Pairwise.nil⟩ (by rw [hs3]; exact Nat.le_refl _)
  rw [hs3] at ok
  generalize hcs : cellsFrom (H2.objs.size + 1) csc.names [] = cs at ok
  have hcells : cellsFrom (H2.objs.size + 1) csc.names (clOf env csc.names []) = cs ++ clOf env csc.names [] := by rw [cellsFrom_acc, hcs]
  rw [hcells]
  generalize hD : s2.heap.objs.size = D
  generalize hC : H2.objs.size = C
  have hCD : C = D + 1 := by rw [← hC, hs2, hD]
  generalize hs4 : ({ s2 with heap := pushCells H3 csc.names } : Shared) = s4
  have k4 : Kp G.T s2 s4 := by rw [← hs4]; exact Kp.mk' (t := s2.toks) all2
  have kk : Kp G.T s s4 := k2.trans k4
  have hheap : s4.heap = pushCells H3 csc.names := by rw [← hs4]
  have dNone : s2.heap.get? D = none := fr2 D (by rw [hD]; exact Nat.le_refl _)
  have cNone : s2.heap.get? C = none := fr2 C (by rw [hCD, hD]; exact Nat.le_succ _)
  have back : ∀ b, s2.heap.get? b = none → s.heap.get? b = none := fun b e => by
    cases e' : s.heap.get? b with
    | none => rfl
    | some o' => obtain ⟨_, q⟩ := k2.al e'; rw [q] at e; cases e
  generalize hce : ({ scope := relabel csc env, locals := C, globals := env.globals, cells := cs ++ clOf env csc.names [], qual := env.qual, func := none, code := env.code, frame := env.frame, builtins := env.builtins } : Env) = cenv
  have hloc : cenv.locals = C := by rw [← hce]
  have hcel : cenv.cells = cs ++ clOf env csc.names [] := by rw [← hce]
  have hsc : cenv.scope = relabel csc env := by rw [← hce]
  -- facts on cells
  have csNames : ∀ x c, (x, c) ∈ cs → (x, NameKind.cell) ∈ csc.names := fun x c hx => cellsFrom_names csc.names _ x c (by rw [hcs]; exact hx)
  have csAddr : ∀ x c, (x, c) ∈ cs → s2.heap.get? c = none ∧ c ≠ C ∧ c ≠ D := fun x c hx => by
    have h1 := (ok.empty x c hx).2
    have hlt : C < c := by rw [hC] at h1; exact h1
    refine ⟨fr2 c ?_, Nat.ne_of_gt hlt, fun e => ?_⟩
    · rw [hD]; rw [hCD] at hlt; exact Nat.le_of_lt (Nat.lt_of_succ_lt hlt)
    · rw [e, hCD] at hlt; exact Nat.not_succ_lt_self hlt
  have freeCell : ∀ x, (x, NameKind.free) ∈ csc.names → ∃ c, env.cells.lookup x = some c ∧ M c := fun x hx => by
    obtain ⟨c, hc'⟩ := hv.cells x (hc.free x hx)
    exact ⟨c, hc', hr.cel x c hc'⟩
  have lookC : ∀ x c, (cs ++ clOf env csc.names []).lookup x = some c → ((x, c) ∈ cs ∧ (x, NameKind.cell) ∈ csc.names) ∨ ((x, NameKind.free) ∈ csc.names ∧ env.cells.lookup x = some c) := fun x c hx => by
    have := mem_of_lookup hx
    rcases List.mem_append.mp this with h | h
    · exact .inl ⟨h, csNames x c h⟩
    · obtain ⟨h1, h2⟩ := clOf_mem env csc.names x c h
      obtain ⟨c', hc', _⟩ := freeCell x h1
      refine .inr ⟨h1, ?_⟩
      rw [hc'] at h2 ⊢; rw [h2]; rfl
  have lookOwn : ∀ x, (x, NameKind.cell) ∈ csc.names → ∃ c, (x, c) ∈ cs ∧ (cs ++ clOf env csc.names []).lookup x = some c := fun x hx => by
    obtain ⟨c, hc'⟩ := cellsFrom_has csc.names (H2.objs.size + 1) x hx
    rw [hcs] at hc'
    have huniq : ∀ (l : List (Str × NameKind)) (n : Nat), (l.map (·.1)).Nodup → ∀ c c', (x, c) ∈ cellsFrom n l [] → (x, c') ∈ cellsFrom n l [] → c' = c := by
      intro l
      induction l with
      | nil => intro n _ c c' h; cases h
      | cons y r ih =>
        intro n hn c c' h h'
        obtain ⟨y1, y2⟩ := y
        simp only [List.map_cons, List.nodup_cons] at hn
        unfold cellsFrom at h h'
        split at h
        · rename_i hk
          rw [if_pos hk] at h'
          rw [cellsFrom_acc, List.mem_append] at h h'
          have hno : ∀ c, (y1, c) ∉ cellsFrom (n + 1) r [] := fun c hc => hn.1 (List.mem_map.mpr ⟨_, cellsFrom_names r _ _ _ hc, rfl⟩)
          rcases h with h | h <;> rcases h' with h' | h'
          · exact ih _ hn.2 c c' h h'
          · cases List.mem_singleton.mp h'; exact absurd h (hno c)
          · cases List.mem_singleton.mp h; exact absurd h' (hno c')
          · cases List.mem_singleton.mp h; cases List.mem_singleton.mp h'; rfl
        · rename_i hk
          rw [if_neg hk] at h'
          exact ih _ hn.2 c c' h h'
    refine ⟨c, hc', lookup_of_mem (List.mem_append_left _ hc') fun c' hc2 => ?_⟩
    rcases List.mem_append.mp hc2 with h | h
    · exact huniq csc.names (H2.objs.size + 1) hc.nd c c' (by rw [hcs]; exact hc') (by rw [hcs]; exact h)
    · have := hc.mem hx (clOf_mem env csc.names x c' h).1; cases this
  have lookFree : ∀ x c, (x, NameKind.free) ∈ csc.names → env.cells.lookup x = some c → (cs ++ clOf env csc.names []).lookup x = some c := fun x c hx hcx => by
    have h1 := clOf_has env csc.names x hx
    rw [hcx] at h1
    refine lookup_of_mem (List.mem_append_right _ h1) fun c' hc2 => ?_
    rcases List.mem_append.mp hc2 with h | h
    · have := hc.mem hx (csNames x c' h); cases this
    · have := (clOf_mem env csc.names x c' h).2; rw [hcx] at this; exact this
  have kindEq : ∀ x, cenv.kindOf x = (csc.names.lookup x).map fun k => if (k == NameKind.free && env.scope.kind == .function && env.kindOf x == some .cell) then NameKind.cell else k := fun x => by
    show cenv.scope.names.lookup x = _
    rw [hsc]; exact lookup_relabel
  have hvc : EnvOk csc cenv := by
    refine ⟨by rw [hsc]; exact hc.kind, by rw [← hce]; exact hv.glob, by rw [← hce]; exact hv.blt, fun x hx => by rw [kindEq, hx]; rfl, fun x hx => ?_, fun x => ?_, by rw [kindEq, hc.dbg]; rfl, fun x hx => ?_, by rw [kindEq, hc.cd]; rfl⟩
    · rcases hx with hx | hx
      · rw [kindEq, hx]; exact .inl rfl
      · rw [kindEq, hx]
        simp only [Option.map_some]
        split
        · exact .inl rfl
        · exact .inr rfl
    · rw [kindEq]
      cases e : csc.names.lookup x with
      | none => rfl
      | some kk =>
        simp only [Option.map_some]
        by_cases hc2 : (kk == NameKind.free && env.scope.kind == .function && env.kindOf x == some .cell) = true
        · rw [if_pos hc2]
          simp only [Bool.and_eq_true, beq_iff_eq] at hc2
          rw [hc2.1.1]; rfl
        · rw [if_neg hc2]
    · rw [hcel]
      rcases hx with hx | hx
      · obtain ⟨c, _, h⟩ := lookOwn x (mem_of_lookup hx); exact ⟨c, h⟩
      · obtain ⟨c, h, _⟩ := freeCell x (mem_of_lookup hx); exact ⟨c, lookFree x c (mem_of_lookup hx) h⟩
  -- the frame
  let Wc : Addr → Prop := fun a => a = C ∨ ∃ x, (x, a) ∈ cs
  have hDplain : s4.heap.PlainList D #[] := by
    have e : s4.heap.get? D = some { cls := .type "list", dict := none, data := .seq ([] : List Value).toArray } := by
      rw [hheap]
      exact pushCells_keeps _ _ _ _ (by rw [← hH3]; exact Heap.get?_push_of_some _ (by rw [← hH2, ← hD]; exact Heap.get?_push_size _ rfl))
    exact ⟨_, e⟩
  have hCns : s4.heap.Ns C fun _ => none := by
    rw [hheap, ← hC]
    exact (by rw [← hH3]; exact Heap.Ns.new H2 (.type "dict") : H3.Ns H2.objs.size fun _ => none).keeps (pushCells_keeps _ _)
  have wcNone : ∀ a, Wc a → s2.heap.get? a = none := fun a ha => by
    rcases ha with rfl | ⟨x, hx⟩
    · exact cNone
    · exact (csAddr x a hx).1
  have csCell : ∀ x c, (x, c) ∈ cs → s4.heap.IsCell c none := fun x c hx => by rw [hheap]; exact (ok.empty x c hx).1
  have wcDom : ∀ a, Wc a → ∃ o, s4.heap.get? a = some o := fun a ha => by
    rcases ha with rfl | ⟨x, hx⟩
    · obtain ⟨o, _, _, ho', _⟩ := hCns; exact ⟨o, ho'⟩
    · obtain ⟨o, ho', _⟩ := csCell x a hx; exact ⟨o, ho'⟩
  have wcD : ¬ Wc D := fun h => by
    rcases h with h | ⟨x, hx⟩
    · rw [hCD] at h; exact Nat.succ_ne_self _ h.symm
    · exact (csAddr x D hx).2.2 rfl
  let N : Addr → Prop := fun a => (Wc a ∨ a = D) ∨ own a
  let Mc : Addr → Prop := fun a => M a ∨ N a
  have ownNone : ∀ b, own b → s.heap.get? b = none := fun b hb => by
    cases e : s.heap.get? b with
    | none => rfl
    | some o' => obtain ⟨_, q⟩ := (hh1 b o' e).al; rw [(hown b hb).1] at q; cases q
  have nNone : ∀ b, N b → s.heap.get? b = none := fun b hb => by
    rcases hb with (hb | rfl) | hb
    · exact back b (wcNone b hb)
    · exact back b dNone
    · exact ownNone b hb
  have nDom : ∀ b, N b → ∃ o, s4.heap.get? b = some o := fun b hb => by
    rcases hb with (hb | rfl) | hb
    · exact wcDom b hb
    · obtain ⟨n, e⟩ := hDplain; exact ⟨_, e⟩
    · obtain ⟨o', e⟩ := (hown b hb).2; exact k4.al e
  have ndc : (ρc.map (·.1)).Nodup := (hρ.sublist.map _).nodup hr.nd
  have accC : ∀ x u, csc.names.lookup x = some .free → Acc env s.heap x u → Acc cenv s4.heap x u := fun x u hx ha => by
    have hm := mem_of_lookup hx
    have hk : env.kindOf x = some .cell ∨ env.kindOf x = some .free := hv.kindC x (hc.free x hm)
    rcases ha with ⟨h1, _⟩ | ⟨_, c, h2, h3⟩
    · rw [h1] at hk; rcases hk with hk | hk <;> cases hk
    · exact .inr ⟨hvc.kindC x (.inr hx), c, by rw [hcel]; exact lookFree x c hm h2, Cel.gr h3 (kk.nt _)⟩
  have hfm : Fm (prog := prog) (w := w) G csc cenv Wc M Mc ρc s4 := by
    refine ⟨⟨⟨_, by rw [hloc]; exact hCns⟩, by rw [hloc]; exact .inl rfl, fun x hx => ?_, fun a ob ha e => ?_⟩, ⟨fun b ob e => (hr.base b ob e).trans kk.code (kk.tk b), fun a ha => ?_, fun x b hx => ?_, fun x c hx => ?_, ndc⟩, fun a ha => .inr (.inl (.inl ha)), fun a ha => ?_, fun x b hx hb => ?_, fun x c hx => ?_, fun a ha => .inl ha⟩
    · obtain ⟨c, h1, h2⟩ := lookOwn x (mem_of_lookup hx)
      refine ⟨by rw [kindEq, hx]; rfl, c, none, by rw [hcel]; exact h2, csCell x c h1, .inr ⟨x, h1⟩, by rw [hloc]; exact (csAddr x c h1).2.1, fun y hy => ?_⟩
      rw [hcel] at hy
      rcases lookC y c hy with ⟨h3, _⟩ | ⟨_, h3⟩
      · exact name_of_addr ok.apart h3 h1
      · obtain ⟨o', e⟩ := hr.dom c (hr.cel y c h3)
        obtain ⟨_, q⟩ := k2.al e
        rw [(csAddr x c h1).1] at q; cases q
    · rcases ha with rfl | ⟨x, hx⟩
      · exact .inl hloc.symm
      · obtain ⟨o', ho', hd'⟩ := csCell x a hx
        rw [ho'] at e; cases e; exact .inr ⟨_, hd'⟩
    · rcases ha with ha | ha
      · obtain ⟨o', e⟩ := hr.dom a ha; exact kk.al e
      · exact nDom a ha
    · obtain ⟨hf', hx'⟩ := hρ.mem x b hx
      have r1 := (hr.ent x b hx').grow (own := N) nNone
      cases b with
      | un => trivial
      | own d => obtain ⟨v, a, r⟩ := r1; exact ⟨v, accC x v hf' a, Rp.agr kk.agr _ _ r⟩
      | mu ds => obtain ⟨a, items, h1, h2, h3, h4, h5⟩ := r1; exact ⟨a, items, accC x _ hf' h1, h2, PL.gr h3 (kk.nt _), RpL.agr kk.agr _ _ h4, h5⟩
      | mud D' =>
        obtain ⟨a, kvs, h1, h2, hl', h2', h3, h4, h5⟩ := r1
        refine ⟨a, kvs, accC x _ hf' h1, h2, fun e => ?_, h2', Dic.gr h3 (kk.nt _), RpD.agr kk.agr _ _ h4, h5⟩
        obtain ⟨o', es, ep, ho', _⟩ := h3
        rw [e, hloc, back C cNone] at ho'; cases ho'
    · rw [hcel] at hx
      rcases lookC x c hx with ⟨h1, _⟩ | ⟨h1, h2⟩
      · exact .inr (.inl (.inl (.inr ⟨x, h1⟩)))
      · exact .inl (hr.cel x c h2)
    · cases e : G.hB.get? a with
      | none => rfl
      | some o' => obtain ⟨_, q⟩ := (hr.base a o' e).al; rw [back a (wcNone a ha)] at q; cases q
    · obtain ⟨hf', hx'⟩ := hρ.mem x b hx
      have r1 := hr.ent x b hx'
      cases b with
      | un => cases hb
      | own d => cases hb
      | mu ds => obtain ⟨a, items, h1, h2, _⟩ := r1; exact ⟨a, accC x _ hf' h1, h2⟩
      | mud D' => obtain ⟨a, kvs, h1, h2, _⟩ := r1; exact ⟨a, accC x _ hf' h1, h2⟩
    · rw [hcel] at hx
      rcases lookC x c hx with ⟨h1, _⟩ | ⟨h1, h2⟩
      · exact .inl (.inr ⟨x, h1⟩)
      · exact .inr (hr.cel x c h2)
  have nM : ∀ b, N b → ¬ M b := fun b hb q => by obtain ⟨o', e⟩ := hr.dom b q; rw [nNone b hb] at e; cases e
  have nB : ∀ b, N b → G.hB.get? b = none := fun b hb => by
    cases e : G.hB.get? b with
    | none => rfl
    | some o' => obtain ⟨_, q⟩ := (hr.base b o' e).al; rw [nNone b hb] at q; cases q
  have hcs0 : CS G csc cenv Wc M Mc D ρc [] s4 := ⟨hfm, ⟨#[], hDplain, RpL.nil⟩, .inr (.inl (.inr rfl)), wcD, nM D (.inl (.inr rfl)), nB D (.inl (.inr rfl))⟩
  have ownD : ∀ b, own b → ¬ (Wc b ∨ b = D) := fun b hb q => by
    obtain ⟨o', e⟩ := (hown b hb).2
    rcases q with q | rfl
    · rw [wcNone b q] at e; cases e
    · rw [dNone] at e; cases e
  let M1 : Addr → Prop := fun a => M a ∨ (Wc a ∨ a = D)
  have loop : codeAny (model prog w) A (.compLoop (.ListComp elt (⟨t, iter, ifs, 0⟩ :: rest) csc pos) 0 (.ref I) (.ref D) cenv) (RR (.ref D) C) s4 := by
    refine loop_run f o (gens := ⟨t, iter, ifs, 0⟩ :: rest) (d := 0) rfl (M := Mc) (M1 := M1) W ho hvc (fun b o' hb e => ?_) (fun b o' e q => ?_) (fun b hb => .inr (.inr hb)) (fun b hb q => ownD b hb (.inl q)) (fun b hb => nM b (.inr hb)) (fun b hb => nB b (.inr hb)) (fun q => ownD D q (.inr rfl)) (fun b hb => (hown b hb).1)
      (fun a ha => ha.elim .inl fun h => .inr (.inl h)) (fun a ha q => ha.elim (nM a (.inr q)) (ownD a q)) (fun a ha => .inr (.inl ha)) (fun a ha => .inl ha) (.inr (.inr rfl))
      xs 0 s4 [] rfl (Nat.zero_le _) (fun x hx => (hT x hx).run csc pos) (W.frame 0 _ _ hc0 fun b o' _ e => k4.tk b o' e) (fun b o' _ n e => k4.nt b o' n ((hh2 b o' e).nt n)) hcs0 (by simpa using hl) fun s5 k5 c5 => ?_
    · exfalso
      obtain ⟨_, e2⟩ := (hh2 b o' e).al
      rcases hb with hb | rfl
      · rw [wcNone b hb] at e2; cases e2
      · rw [dNone] at e2; cases e2
    · rcases q with q | (q | q)
      · exact q
      · exfalso
        obtain ⟨_, e2⟩ := (hh2 b o' e).al
        rcases q with hb | rfl
        · rw [wcNone b hb] at e2; cases e2
        · rw [dNone] at e2; cases e2
      · rw [(hown b q).1] at e; cases e
    · obtain ⟨items, h1, h2⟩ := c5.acc
      refine hQ D C s5 (kk.trans' k5 nNone) ?_ (back C cNone) (back D dNone) (fun e => by rw [hCD] at e; exact Nat.succ_ne_self _ e.symm) ⟨items, h1, ?_⟩
      · obtain ⟨m, hm⟩ := c5.fm.fe.loc; rw [hloc] at hm; exact ⟨m, hm⟩
      · simp only [List.nil_append] at h2
        exact RpL.sub (fun a o' e q => q.elim .inl fun q => .inr (q.elim (fun q => .inl (.inl q)) .inr)) _ _ h2
  exact codeAny_compStart_gen rfl loop (W.self 0 s4 _ _ (W.frame 0 _ _ hc0 fun b o' _ e => k4.tk b o' e) (fun b o' _ n e => k4.nt b o' n ((hh2 b o' e).nt n)) loop)
end
end Mine
end
section
open PySem PyProof.Rows
set_option Elab.async false
set_option linter.unusedVariables false
namespace Mine
section
variable {prog : Program} {w : World} {G : Gl prog w} {k : Nat} {sc csc : Scope} {ρ ρc : VEnv}

theorem comp_names (hc : CompOk sc csc) : ∀ x, x ∈ csc.names → x.2 = .local → csc.names.lookup x.1 = some .local := fun x hx h => hc.look (n := x.1) (by rw [← h]; exact hx)

theorem comp_closure {env : Env} (hc : CompOk sc csc) (hv : EnvOk sc env) : closureFor csc env = pure (clOf env csc.names []) :=
  closureFor_eq fun x hx hf => hv.cells x.1 (hc.free x.1 (by rw [← hf]; exact hx))

theorem comp_result {M : Addr → Prop} {C D : Addr} {s' : Shared} {h' : Heap} {out : List PyData} (hs : Heap.SameBut C s'.heap h') (hne : D ≠ C) (hD : ¬ M D) (hl : out.length ≤ lid)
    (hi : ∃ items, s'.heap.PlainList D items ∧ RpL prog w s'.heap (fun a => M a ∨ a = C ∨ a = D) out items.toList) : Rp prog w h' M (.list out) (.ref D) := by
  obtain ⟨items, h1, h2⟩ := hi
  simp only [Rp]
  refine ⟨D, items, rfl, hD, h1.at (fun o e => (hs.2 D hne).trans e), ?_, hl⟩
  exact RpL.sub (fun a o e q => .inl q) _ _ (RpL.agr (fun b o hb _ e => (hs.2 b fun q => hb (.inr (.inl q))).trans e) _ _ h2)

theorem EvTo.listComp {α : Type} {f : α → PyData} {o : α → List PyData} {elt t iter : Expr} {ifs : List Expr} {rest : List Comprehension} {pos : Pos} {xs : List α}
    (hc : compOk sc csc = true) (hρ : Filt csc ρ ρc) (hit : ItTo G k sc ρ t false iter (xs.map f)) (hs : ∀ env x, foldedSetIterable iter env x = pure x) (hT : ∀ x, x ∈ xs → TurnTo G k csc (⟨t, iter, ifs, 0⟩ :: rest) elt ρc 0 (f x) (o x)) (hl : (xs.flatMap o).length ≤ lid) :
    EvTo G k sc ρ (.ListComp elt (⟨t, iter, ifs, 0⟩ :: rest) csc pos) (.list (xs.flatMap o)) := by
  intro A env M s Q E ho hv hr hQ
  have hc := compOk.of hc
  rw [eval_ListComp]
  refine wpAny_comprehension_free (use := none) rfl (hs env) (comp_closure hc hv) hc.kind (comp_names hc) ?_
  refine comp_core f o (RR := fun acc C => compPost (model prog w) A E none Q acc C) hc hρ hit hT hl ho hv hr fun D C s' kk hns hC hD hne hi => ?_
  obtain ⟨m, hm⟩ := hns
  refine ⟨m, hm, fun h' hs' => hQ _ _ ?_ ?_⟩
  · obtain ⟨om, es, ep, hom, hdm, _⟩ := id hm
    obtain ⟨⟨h1, t1, rfl⟩, hk⟩ := kk
    exact ⟨⟨h', t1, rfl⟩, fun b o' e => (hk b o' e).trans (fun c o2 ic e2 => .inl ((hs'.2 c fun q => by rw [q, hom] at e2; cases e2; exact notCoD hdm ic).trans e2)) fun o2 e2 => .inl ((hs'.2 b fun q => by rw [q, hC] at e; cases e).trans e2)⟩
  · refine comp_result hs' hne (fun q => ?_) hl hi
    obtain ⟨o', e⟩ := hr.dom D q
    rw [hD] at e; cases e

/-- leaves alone, no test -/
theorem TurnTo.map1 {ρ' : VEnv} {t it elt : Expr} {x v : PyData} (hb : BindTo G k csc ρ t x ρ') (hsub : ∀ p, p ∈ ρ → p ∈ ρ') (he : EvTo G k csc ρ' elt v) : TurnTo G k csc [⟨t, it, [], 0⟩] elt ρ 0 x [v] :=
  .leaf _ _ _ _ _ _ _ _ rfl rfl hb hsub .nil he
theorem TurnTo.if1 {ρ' : VEnv} {t it c elt : Expr} {x v : PyData} {b : Bool} (hb : BindTo G k csc ρ t x ρ') (hsub : ∀ p, p ∈ ρ → p ∈ ρ') (hi : TrTo G k csc ρ' c b) (he : b = true → EvTo G k csc ρ' elt v) : TurnTo G k csc [⟨t, it, [c], 0⟩] elt ρ 0 x (if b then [v] else []) := by
  cases b with
  | false => exact .no _ _ _ _ _ _ _ rfl hb hsub (.one hi)
  | true => exact .leaf _ _ _ _ _ _ _ _ rfl rfl hb hsub (.one hi) (he rfl)

theorem EvTo.cast {e : Expr} {d d' : PyData} (h : EvTo G k sc ρ e d) (hd : d = d') : EvTo G k sc ρ e d' := hd ▸ h
theorem TrTo.cast {e : Expr} {d d' : Bool} (h : TrTo G k sc ρ e d) (hd : d = d') : TrTo G k sc ρ e d' := hd ▸ h
theorem flatMap_single {α β : Type} (g : α → β) (xs : List α) : xs.flatMap (fun x => [g x]) = xs.map g := by
  induction xs with
  | nil => rfl
  | cons x xs ih => simp [ih]
theorem flatMap_if {α β : Type} (p : α → Bool) (g : α → β) (xs : List α) : xs.flatMap (fun x => if p x then [g x] else []) = (xs.filter p).map g := by
  induction xs with
  | nil => rfl
  | cons x xs ih => cases h : p x <;> simp [ih, h]

/-- [elt for t in iter] -/
theorem EvTo.compMap {α : Type} {f g : α → PyData} {elt t iter : Expr} {pos : Pos} {xs : List α} {ρ' : α → VEnv}
    (hc : compOk sc csc = true) (hρ : Filt csc ρ ρc) (hit : ItTo G k sc ρ t false iter (xs.map f)) (hs : ∀ env x, foldedSetIterable iter env x = pure x)
    (hb : ∀ x, BindTo G k csc ρc t (f x) (ρ' x)) (hsub : ∀ x p, p ∈ ρc → p ∈ ρ' x) (he : ∀ x, x ∈ xs → EvTo G k csc (ρ' x) elt (g x)) (hl : xs.length ≤ lid) :
    EvTo G k sc ρ (.ListComp elt [⟨t, iter, [], 0⟩] csc pos) (.list (xs.map g)) := by
  rw [← flatMap_single]
  exact EvTo.listComp hc hρ hit hs (fun x hx => .map1 (hb x) (hsub x) (he x hx)) (by rw [flatMap_single]; simpa using hl)

theorem EvTo.compIf {α : Type} {f g : α → PyData} {elt t iter c : Expr} {pos : Pos} {xs : List α} {ρ' : α → VEnv} {p : α → Bool}
    (hc : compOk sc csc = true) (hρ : Filt csc ρ ρc) (hit : ItTo G k sc ρ t false iter (xs.map f)) (hs : ∀ env x, foldedSetIterable iter env x = pure x)
    (hb : ∀ x, BindTo G k csc ρc t (f x) (ρ' x)) (hsub : ∀ x p, p ∈ ρc → p ∈ ρ' x) (hp : ∀ x, x ∈ xs → TrTo G k csc (ρ' x) c (p x)) (he : ∀ x, x ∈ xs → p x = true → EvTo G k csc (ρ' x) elt (g x)) (hl : xs.length ≤ lid) :
    EvTo G k sc ρ (.ListComp elt [⟨t, iter, [c], 0⟩] csc pos) (.list ((xs.filter p).map g)) := by
  rw [← flatMap_if]
  exact EvTo.listComp hc hρ hit hs (fun x hx => .if1 (hb x) (hsub x) (hp x hx) (he x hx)) (by rw [flatMap_if, List.length_map]; exact Nat.le_trans (List.length_filter_le _ _) hl)
end
end Mine
end
section
open PySem PyProof.Rows
set_option Elab.async false
set_option linter.unusedVariables false
namespace Mine
section
variable {prog : Program} {w : World} {G : Gl prog w} {k : Nat} {sc csc : Scope} {ρ ρ' ρc : VEnv}

noncomputable def MM (M0 Wc Z L : Addr → Prop) (a : Addr) : Prop := M0 a ∨ Wc a ∨ Z a ∨ L a

/-- a def's frame between two of its statements -/
structure St (G : Gl prog w) (sc : Scope) (env : Env) (M0 L Wc Z : Addr → Prop) (s0 : Shared) (ρ : VEnv) (s : Shared) : Prop where
  fm : Fm G sc env Wc Z (MM M0 Wc Z L) ρ s
  kp : Kp G.T s0 s
  fr : ∀ a, (Wc a ∨ Z a ∨ L a) → s0.heap.get? a = none
  d0 : ∀ a, M0 a → ∃ o, s0.heap.get? a = some o
  b0 : ∀ b o, G.hB.get? b = some o → Gr G.T s0.heap b o
  zw : ∀ a, Z a → ¬ Wc a
  zl : ∀ a, Z a → ¬ L a
  wl : ∀ a, Wc a → ¬ L a
  cw : ∀ x c, env.cells.lookup x = some c → Wc c
  ds : ∀ x y b c a, (x, b) ∈ ρ → (y, c) ∈ ρ → b.isMu → c.isMu → Acc env s.heap x (.ref a) → Acc env s.heap y (.ref a) → x = y

section
variable {env : Env} {M0 L Wc Z : Addr → Prop} {s0 s s' : Shared}

theorem Fm.back {M : Addr → Prop} (f : Fm G sc env Wc Z M ρ s) {x : Str} {b : B} (hx : (x, b) ∈ ρ) (hb : b.isMu) (hk : ∀ u, Acc env s.heap x u → Acc env s'.heap x u) {v : Value} (a : Acc env s'.heap x v) : Acc env s.heap x v := by
  obtain ⟨a0, h1, _⟩ := f.ym x b hx hb
  have := (hk _ h1).det a
  exact this ▸ h1

theorem St.next (t : St G sc env M0 L Wc Z s0 ρ s) (f : Fm G sc env Wc Z (MM M0 Wc Z L) ρ' s') (kp : Kp G.T s0 s') (m : MuK env s s' ρ ρ') : St G sc env M0 L Wc Z s0 ρ' s' :=
  ⟨f, kp, t.fr, t.d0, t.b0, t.zw, t.zl, t.wl, t.cw, fun x y b c a hx hy hb hc ax ay => by
    obtain ⟨hx', kx⟩ := m x b hx hb
    obtain ⟨hy', ky⟩ := m y c hy hc
    exact t.ds x y b c a hx' hy' hb hc (t.fm.back hx' hb kx ax) (t.fm.back hy' hc ky ay)⟩

theorem St.keeps (t : St G sc env M0 L Wc Z s0 ρ s) (k : Kp G.T s s') : St G sc env M0 L Wc Z s0 ρ s' := t.next (t.fm.keeps k) (t.kp.trans k) (MuK.keeps k)

theorem St.kpW {own : Addr → Prop} (t : St G sc env M0 L Wc Z s0 ρ s) (k : KB G.T own s s') (ho : ∀ b, own b → Wc b ∨ Z b ∨ L b) : Kp G.T s0 s' := t.kp.trans' k fun b hb => t.fr b (ho b hb)

theorem St.dom (t : St G sc env M0 L Wc Z s0 ρ s) {a : Addr} (h : Wc a ∨ Z a ∨ L a) : ∃ o, s.heap.get? a = some o := t.fm.vr.dom a (.inr h)

/-- a new thing comes under the frame's hand -/
theorem St.addZ {N : Addr → Prop} (t : St G sc env M0 L Wc Z s0 ρ s) (k : Kp G.T s s') (hn : ∀ a, N a → s.heap.get? a = none) (hd : ∀ a, N a → ∃ o, s'.heap.get? a = some o) : St G sc env M0 L Wc (fun a => Z a ∨ N a) s0 ρ s' := by
  have nn : ∀ a, N a → ¬ (MM M0 Wc Z L a) := fun a ha q => by obtain ⟨o, e⟩ := t.fm.vr.dom a q; rw [hn a ha] at e; cases e
  have hM : (fun a => MM M0 Wc Z L a ∨ N a) = MM M0 Wc (fun a => Z a ∨ N a) L := funext fun a => propext ⟨fun h => by
      rcases h with (h | h | h | h) | h
      · exact .inl h
      · exact .inr (.inl h)
      · exact .inr (.inr (.inl (.inl h)))
      · exact .inr (.inr (.inr h))
      · exact .inr (.inr (.inl (.inr h))), fun h => by
      rcases h with h | h | (h | h) | h
      · exact .inl (.inl h)
      · exact .inl (.inr (.inl h))
      · exact .inl (.inr (.inr (.inl h)))
      · exact .inr h
      · exact .inl (.inr (.inr (.inr h)))⟩
  have f1 := (t.fm.grow k hn hd)
  rw [hM] at f1
  have t' := t.keeps k
  refine ⟨⟨f1.fe, f1.vr, f1.sub, f1.nb, fun x b hx hb => let ⟨a, h1, h2⟩ := f1.ym x b hx hb; ⟨a, h1, .inl h2⟩, fun x c hc => (f1.cz x c hc).imp id .inl, fun a ha => .inr (.inr (.inl ha))⟩, t'.kp, fun a ha => ?_, t.d0, t.b0, fun a ha => ?_, fun a ha => ?_, t.wl, t.cw, t'.ds⟩
  · rcases ha with ha | (ha | ha) | ha
    · exact t.fr a (.inl ha)
    · exact t.fr a (.inr (.inl ha))
    · cases e : s0.heap.get? a with
      | none => rfl
      | some o => obtain ⟨_, q⟩ := t.kp.al e; rw [hn a ha] at q; cases q
    · exact t.fr a (.inr (.inr ha))
  · rcases ha with ha | ha
    · exact t.zw a ha
    · exact fun q => nn a ha (.inr (.inl q))
  · rcases ha with ha | ha
    · exact t.zl a ha
    · exact fun q => nn a ha (.inr (.inr (.inr q)))

/-- one growing thing has changed -/
theorem St.mut {x : Str} {a : Addr} {b : B} (t : St G sc env M0 L Wc Z s0 ρ s) (hx : ∃ c, (x, c) ∈ ρ ∧ c.isMu) (ha : Acc env s.heap x (.ref a)) (k : KB G.T (· = a) s s') (hu : Upd x b ρ ρ') (hb : b.isMu)
    (hd : ∃ o, s'.heap.get? a = some o) (hr : Acc env s'.heap x (.ref a) → ER prog w env s'.heap (MM M0 Wc Z L) x b) : St G sc env M0 L Wc Z s0 ρ' s' ∧ KB G.T (fun a => Wc a ∨ Z a) s s' := by
  obtain ⟨c, hxc, hcm⟩ := hx
  obtain ⟨a', ha', hz⟩ := t.fm.ym x c hxc hcm
  have e := ha'.det ha
  cases e
  have hw : ¬ Wc a := t.zw a hz
  have hl : ¬ (env.locals = a) := fun q => hw (q ▸ t.fm.fe.wl)
  have hlo : ¬ (· = a) env.locals := hl
  have hcells : ∀ y c, env.cells.lookup y = some c → ¬ (c = a) := fun y c hc q => hw (q ▸ t.cw y c hc)
  have hag : Agr (MM M0 Wc Z L) s.heap s'.heap := k.agr fun b q => q ▸ .inr (.inr (.inl hz))
  have fw : ∀ y u, Acc env s.heap y u → Acc env s'.heap y u := fun y u h => h.kb k hl hcells
  have mem : ∀ y c, (y, c) ∈ ρ' → c.isMu → ∃ c', (y, c') ∈ ρ ∧ c'.isMu := fun y c' hy hm => by
    rcases hu.ent t.fm.vr.nd y c' hy with ⟨rfl, _⟩ | ⟨_, h⟩
    · exact ⟨c, hxc, hcm⟩
    · exact ⟨c', h, hm⟩
  refine ⟨⟨⟨⟨?_, t.fm.fe.wl, ?_, ?_⟩, ⟨?_, ?_, ?_, t.fm.vr.cel, hu.nodup t.fm.vr.nd⟩, t.fm.sub, t.fm.nb, ?_, t.fm.cz, t.fm.zs⟩, t.kpW k fun b hb => .inr (.inl (hb ▸ hz)), t.fr, t.d0, t.b0, t.zw, t.zl, t.wl, t.cw, ?_⟩, k.mono fun b hb => .inr (hb ▸ hz)⟩
  · obtain ⟨m, hm⟩ := t.fm.fe.loc; exact ⟨m, Nsp.gr hm fun o n e => k.nt _ o hl n e⟩
  · intro y hy
    obtain ⟨h0, c', vo, h1, h2, r⟩ := t.fm.fe.cel y hy
    exact ⟨h0, c', vo, h1, Cel.gr h2 fun o n e => k.nt _ o (hcells y c' h1) n e, r⟩
  · intro b' o hb' e
    obtain ⟨o', e'⟩ := t.fm.vr.dom b' (t.fm.sub b' hb')
    have e2 := (k.tk b' o' (fun q => hw (q ▸ hb')) e').nt (t.fm.fe.nt hb' e')
    rw [e2] at e; cases e
    exact t.fm.fe.wdata b' o hb' e'
  · intro b' o e
    refine (t.fm.vr.base b' o e).trans k.code fun o2 e2 => k.tk b' o2 (fun q => ?_) e2
    obtain ⟨_, z⟩ := (t.b0 b' o e).al
    rw [q, t.fr a (.inr (.inl hz))] at z; cases z
  · intro b' hb'
    by_cases q : b' = a
    · rw [q]; exact hd
    · obtain ⟨o, e⟩ := t.fm.vr.dom b' hb'; exact (k.tk b' o q e).al
  · intro y c' hy
    rcases hu.ent t.fm.vr.nd y c' hy with ⟨rfl, rfl⟩ | ⟨hne, hy⟩
    · exact hr (fw _ _ ha)
    · have r := t.fm.vr.ent y c' hy
      cases c' with
      | un => trivial
      | own d => obtain ⟨v, h1, r⟩ := r; exact ⟨v, fw _ _ h1, Rp.agr hag _ _ r⟩
      | mu ds =>
        obtain ⟨a2, items, h1, h2, h3, h4, h5⟩ := r
        have hne2 : a2 ≠ a := fun q => hne (t.ds y x _ c a hy hxc trivial hcm (q ▸ h1) ha)
        exact ⟨a2, items, fw _ _ h1, h2, PL.gr h3 fun o n e => k.nt _ o hne2 n e, RpL.agr hag _ _ h4, h5⟩
      | mud D =>
        obtain ⟨a2, kvs, h1, h2, hl', h2', h3, h4, h5⟩ := r
        have hne2 : a2 ≠ a := fun q => hne (t.ds y x _ c a hy hxc trivial hcm (q ▸ h1) ha)
        exact ⟨a2, kvs, fw _ _ h1, h2, hl', h2', Dic.gr h3 fun o n e => k.nt _ o hne2 n e, RpD.agr hag _ _ h4, h5⟩
  · intro y c' hy hm
    obtain ⟨c2, h1, h2⟩ := mem y c' hy hm
    obtain ⟨a2, h3, h4⟩ := t.fm.ym y c2 h1 h2
    exact ⟨a2, fw _ _ h3, h4⟩
  · intro y z b1 b2 a2 hy hz' h1 h2 ay az
    obtain ⟨c1, hy1, hm1⟩ := mem y b1 hy h1
    obtain ⟨c2, hy2, hm2⟩ := mem z b2 hz' h2
    exact t.ds y z c1 c2 a2 hy1 hy2 hm1 hm2 (t.fm.back hy1 hm1 (fw y) ay) (t.fm.back hy2 hm2 (fw z) az)

/-- a store -/
theorem St.storeB {A : Around} {y : Str} {v : Value} {b : B} {Q : Unit → Shared → Prop} {E : Value → Shared → Prop} (t : St G sc env M0 L Wc Z s0 ρ s) (hv : EnvOk sc env) (hy : OwnName sc y) (hu : Upd y b ρ ρ')
    (hr : ∀ s', KB G.T Wc s s' → Acc env s'.heap y v → ER prog w env s'.heap (MM M0 Wc Z L) y b) (hz : b.isMu → ∃ a, v = .ref a ∧ Z a ∧ ∀ x c, (x, c) ∈ ρ → c.isMu → x ≠ y → ¬ Acc env s.heap x (.ref a))
    (h : ∀ s', KB G.T Wc s s' → St G sc env M0 L Wc Z s0 ρ' s' → Acc env s'.heap y v → (∀ x u, x ≠ y → Acc env s.heap x u → Acc env s'.heap x u) → Q () s') : wpAny (model prog w) A (storeName env y v) Q E s := by
  refine t.fm.storeB hv hy hu hr (fun hb => let ⟨a, h1, h2, _⟩ := hz hb; ⟨a, h1, h2⟩) fun s' k f hacc hold => h s' k ⟨f, t.kpW k fun b hb => .inl hb, t.fr, t.d0, t.b0, t.zw, t.zl, t.wl, t.cw, ?_⟩ hacc hold
  intro x1 x2 b1 b2 a h1 h2 m1 m2 a1 a2
  rcases hu.ent t.fm.vr.nd x1 b1 h1 with ⟨e1, e1'⟩ | ⟨n1, h1⟩ <;> rcases hu.ent t.fm.vr.nd x2 b2 h2 with ⟨e2, e2'⟩ | ⟨n2, h2⟩
  · rw [e1, e2]
  · exfalso
    rw [e1'] at m1
    obtain ⟨a0, hv0, _, hno⟩ := hz m1
    rw [e1] at a1
    have := a1.det hacc
    rw [hv0] at this; cases this
    exact hno x2 b2 h2 m2 n2 (t.fm.back h2 m2 (fun u => hold x2 u n2) a2)
  · exfalso
    rw [e2'] at m2
    obtain ⟨a0, hv0, _, hno⟩ := hz m2
    rw [e2] at a2
    have := a2.det hacc
    rw [hv0] at this; cases this
    exact hno x1 b1 h1 m1 n1 (t.fm.back h1 m1 (fun u => hold x1 u n1) a1)
  · exact t.ds x1 x2 b1 b2 a h1 h2 m1 m2 (t.fm.back h1 m1 (fun u => hold x1 u n1) a1) (t.fm.back h2 m2 (fun u => hold x2 u n2) a2)

theorem St.agrW (t : St G sc env M0 L Wc Z s0 ρ s) (k : KB G.T Wc s s') : Agr (MM M0 Wc Z L) s.heap s'.heap := k.agr fun b q => .inr (.inl q)

theorem St.storeOwn {A : Around} {y : Str} {v : Value} {d : PyData} {Q : Unit → Shared → Prop} {E : Value → Shared → Prop} (t : St G sc env M0 L Wc Z s0 ρ s) (hv : EnvOk sc env) (hy : OwnName sc y) (hu : Upd y (.own d) ρ ρ')
    (hr : Rp prog w s.heap (MM M0 Wc Z L) d v) (h : ∀ s', KB G.T Wc s s' → St G sc env M0 L Wc Z s0 ρ' s' → Q () s') : wpAny (model prog w) A (storeName env y v) Q E s :=
  t.storeB hv hy hu (fun s' k a => ⟨v, a, Rp.agr (t.agrW k) _ _ hr⟩) (fun h => by cases h) fun s' k t' _ _ => h s' k t'
end

/-- what a statement may change: the frame's own and the growing things -/
structure Ch (T : TabS) (Wc Z Z' : Addr → Prop) (s s' : Shared) : Prop where
  zz : ∀ a, Z' a → Z a ∨ s.heap.get? a = none
  kb : KB T (fun a => Wc a ∨ Z a) s s'
  al : ∀ b o, s.heap.get? b = some o → ∃ o', s'.heap.get? b = some o'

inductive Out
  | next (ρ : VEnv)
  | ret (d : PyData)

/-- one statement leaves ρ' -/
noncomputable def Step (G : Gl prog w) (k : Nat) (sc : Scope) (ρ : VEnv) (st : Stmt) (ρ' : VEnv) : Prop :=
  ∀ (A : Around) (env : Env) (M0 L Wc Z : Addr → Prop) (s0 s : Shared) (Q : Flow → Shared → Prop) (E : Value → Shared → Prop), Ok k A → EnvOk sc env → St G sc env M0 L Wc Z s0 ρ s →
    (∀ Z' s', St G sc env M0 L Wc Z' s0 ρ' s' → Ch G.T Wc Z Z' s s' → Q .next s') → wpAny (model prog w) A (exec st env) Q E s

/-- statements end as P admits -/
noncomputable def ExTo (G : Gl prog w) (k : Nat) (sc : Scope) (ρ : VEnv) (ss : List Stmt) (P : Out → Prop) : Prop :=
  ∀ (A : Around) (env : Env) (M0 L Wc Z : Addr → Prop) (s0 s : Shared) (Q : Flow → Shared → Prop) (E : Value → Shared → Prop), Ok k A → EnvOk sc env → St G sc env M0 L Wc Z s0 ρ s →
    (∀ ρ' Z' s', P (.next ρ') → St G sc env M0 L Wc Z' s0 ρ' s' → Ch G.T Wc Z Z' s s' → Q .next s') →
    (∀ d v s', P (.ret d) → Kp G.T s0 s' → Rp prog w s'.heap M0 d v → Q (.ret v) s') → wpAny (model prog w) A (execs ss env) Q E s

theorem Ch.refl {Wc Z : Addr → Prop} {s : Shared} : Ch G.T Wc Z Z s s := ⟨fun a h => .inl h, KB.refl, fun b o e => ⟨o, e⟩⟩
theorem Ch.of {Wc Z : Addr → Prop} {s s' : Shared} (k : Kp G.T s s') : Ch G.T Wc Z Z s s' := ⟨fun a h => .inl h, KB.of k, fun b o e => k.al e⟩
theorem Ch.trans {Wc Z Z' Z'' : Addr → Prop} {s s' s'' : Shared} (a : Ch G.T Wc Z Z' s s') (b : Ch G.T Wc Z' Z'' s' s'') : Ch G.T Wc Z Z'' s s'' := by
  refine ⟨fun x hx => ?_, ⟨?_, fun x o hb e => ?_, fun x o i e => b.kb.co x o i (a.kb.co x o i e)⟩, fun x o e => ?_⟩
  · rcases b.zz x hx with q | q
    · exact a.zz x q
    · cases e : s.heap.get? x with
      | none => exact .inr rfl
      | some o => obtain ⟨o', e'⟩ := a.al x o e; rw [q] at e'; cases e'
  · obtain ⟨⟨h1, t1, e1⟩, _⟩ := a.kb
    obtain ⟨⟨h2, t2, e2⟩, _⟩ := b.kb
    exact ⟨h2, t2, by rw [e2, e1]⟩
  · refine (a.kb.tk x o hb e).trans b.kb.code fun o' e' => b.kb.tk x o' (fun q => ?_) e'
    rcases q with q | q
    · exact hb (.inl q)
    · rcases a.zz x q with q | q
      · exact hb (.inr q)
      · rw [q] at e; cases e
  · obtain ⟨o', e'⟩ := a.al x o e; exact b.al x o' e'
theorem Ch.ofW {env : Env} {M0 L Wc Z : Addr → Prop} {s0 s s' : Shared} (t : St G sc env M0 L Wc Z s0 ρ s') (k : KB G.T Wc s s') : Ch G.T Wc Z Z s s' :=
  ⟨fun a h => .inl h, k.mono fun b q => .inl q, fun b o e => by
    by_cases h : Wc b
    · exact t.dom (.inl h)
    · exact (k.tk b o h e).al⟩
theorem Ch.ofZ {env : Env} {M0 L Wc Z : Addr → Prop} {s0 s s' : Shared} (t : St G sc env M0 L Wc Z s0 ρ s') (k : KB G.T (fun a => Wc a ∨ Z a) s s') : Ch G.T Wc Z Z s s' :=
  ⟨fun a h => .inl h, k, fun b o e => by
    by_cases h : Wc b ∨ Z b
    · exact t.dom (h.imp id .inl)
    · exact (k.tk b o h e).al⟩

theorem ExTo.nil {P : Out → Prop} (h : P (.next ρ)) : ExTo G k sc ρ [] P := by
  intro A env M0 L Wc Z s0 s Q E ho hv t hQ hR
  exact wpAny_execs_nil (hQ ρ Z s h t Ch.refl)

theorem ExTo.step {st : Stmt} {rest : List Stmt} {P : Out → Prop} (h : Step G k sc ρ st ρ') (hr : ExTo G k sc ρ' rest P) : ExTo G k sc ρ (st :: rest) P := by
  intro A env M0 L Wc Z s0 s Q E ho hv t hQ hR
  refine wpAny_execs_cons (h A env M0 L Wc Z s0 s _ _ ho hv t fun Z' s' t' hk => ?_)
  exact hr A env M0 L Wc Z' s0 s' Q E ho hv t' (fun ρ'' Z'' s'' hp t'' hk' => hQ ρ'' Z'' s'' hp t'' (hk.trans hk')) hR

theorem ExTo.mono {ss : List Stmt} {P P' : Out → Prop} (h : ExTo G k sc ρ ss P) (hp : ∀ o, P o → P' o) : ExTo G k sc ρ ss P' := by
  intro A env M0 L Wc Z s0 s Q E ho hv t hQ hR
  exact h A env M0 L Wc Z s0 s Q E ho hv t (fun ρ' Z' s' h => hQ ρ' Z' s' (hp _ h)) fun d v s' h => hR d v s' (hp _ h)

/-- y = e -/
theorem Step.assign {y : Str} {p pos : Pos} {e : Expr} {d : PyData} (he : EvTo G k sc ρ e d) (hy : OwnName sc y) (hu : Upd y (.own d) ρ ρ') (hs : ∀ env, swapsWith e (some (.Name y p)) pos.line env = pure false) : Step G k sc ρ (.Assign [.Name y p] e pos) ρ' := by
  intro A env M0 L Wc Z s0 s Q E ho hv t hQ
  rw [exec_Assign_Name env y p e pos (hs env)]
  refine wpAny_bind (wpAny_standAt (wpAny_bind (he A env _ s _ _ ho hv t.fm.vr fun v s1 k1 r1 => ?_)))
  exact wpAny_bind (wpAny_standAt (wpAny_bind (wpAny_bindName ((t.keeps k1).storeOwn hv hy hu r1 fun s2 k2 t2 => wpAny_pure (hQ Z s2 t2 (Ch.ofW t2 ((KB.of k1).trans k2)))))))

/-- (..) = e -/
theorem Step.assignT {ts : List Expr} {c} {p pos : Pos} {e : Expr} {xs : List PyData} (he : EvTo G k sc ρ e (.tuple xs)) (hb : BindEach G k sc ρ ts xs ρ') (hs : ∀ env, swapsWithSole [.Tuple ts c p] e pos.line env = pure false) (hw : ∀ env, swappedStores [.Tuple ts c p] e env = pure none) :
    Step G k sc ρ (.Assign [.Tuple ts c p] e pos) ρ' := by
  intro A env M0 L Wc Z s0 s Q E ho hv t hQ
  refine Assign_Tuple (he A env _ s _ _ ho hv t.fm.vr fun v s1 k1 r1 => ?_) (hs env) (hw env)
  have t1 := t.keeps k1
  exact BindTo.tuple hb A env Wc Z _ s1 v _ _ ho hv t1.fm r1 fun s2 k2 f2 m2 => have t2 := t1.next f2 (t1.kpW k2 fun b hb => .inl hb) m2; hQ Z s2 t2 (Ch.ofW t2 ((KB.of k1).trans k2))

/-- x op= e, on ints -/
theorem Step.aug {x : Str} {p pos : Pos} {op : Operator} {e : Expr} {a b c : Int} (hx : (x, .own (.int a)) ∈ ρ) (he : EvTo G k sc ρ e (.int b)) (hy : OwnName sc x) (hu : Upd x (.own (.int c)) ρ ρ')
    (hop : ∀ (A : Around) (s : Shared) (t u : Tok) (Q : Value → Shared → Prop) (E : Value → Shared → Prop), Q (.int c s.toks) { s with toks := s.toks + 1 } → wpAny (model prog w) A (inplaceOp op (.int a t) (.int b u)) Q E s) :
    Step G k sc ρ (.AugAssign (.Name x p) op e pos) ρ' := by
  intro A env M0 L Wc Z s0 s Q E ho hv t hQ
  obtain ⟨v, ha, r⟩ := t.fm.vr.ent _ _ hx
  simp only [Rp] at r
  obtain ⟨tk, rfl⟩ := r
  have ld : ∀ {Q : Value → Shared → Prop}, Q (.int a tk) s → wpAny (model prog w) A (loadName env x) Q E s := fun hq => by
    rcases ha with ⟨hl, m, hn, hm⟩ | ⟨hl, c, hc, hi⟩
    · exact wpAny_loadName_local hv.kind hl hn hm hq
    · rcases hl with hl | hl
      · exact wpAny_loadName_cell hv.kind hl hc hi hq
      · exact wpAny_loadName_free hv.kind hl hc hi hq (hv.cd (by rw [hl]; simp))
  refine wpAny_AugAssign_Name (ld (he A env _ s _ _ ho hv t.fm.vr fun u s1 k1 r1 => ?_))
  simp only [Rp] at r1
  obtain ⟨tk', rfl⟩ := r1
  refine hop A s1 tk tk' _ _ ?_
  have k2 : Kp G.T s { s1 with toks := s1.toks + 1 } := k1.trans (Kp.tok (s := s1) (s1.toks + 1))
  exact (t.keeps k2).storeOwn hv hy hu (by simp [Rp]) fun s3 k3 t3 => hQ Z s3 t3 (Ch.ofW t3 ((KB.of k2).trans k3))
theorem Step.augAdd {x : Str} {p pos : Pos} {e : Expr} {a b : Int} (hx : (x, .own (.int a)) ∈ ρ) (he : EvTo G k sc ρ e (.int b)) (hy : OwnName sc x) (hu : Upd x (.own (.int (a + b))) ρ ρ') : Step G k sc ρ (.AugAssign (.Name x p) .Add e pos) ρ' :=
  Step.aug hx he hy hu fun _ _ _ _ _ _ h => PyProof.Rows.iadd_int h
theorem Step.augSub {x : Str} {p pos : Pos} {e : Expr} {a b : Int} (hx : (x, .own (.int a)) ∈ ρ) (he : EvTo G k sc ρ e (.int b)) (hy : OwnName sc x) (hu : Upd x (.own (.int (a - b))) ρ ρ') : Step G k sc ρ (.AugAssign (.Name x p) .Sub e pos) ρ' :=
  Step.aug hx he hy hu fun _ _ _ _ _ _ h => PyProof.Rows.isub_int h

theorem Step.assert {test : Expr} {msg : Option Expr} {pos : Pos} (h : TrTo G k sc ρ test true) : Step G k sc ρ (.Assert test msg pos) ρ := by
  intro A env M0 L Wc Z s0 s Q E ho hv t hQ
  exact wpAny_Assert_holds (h A env _ s _ _ ho hv t.fm.vr fun s1 k1 => ⟨rfl, hQ Z s1 (t.keeps k1) (.of k1)⟩)

theorem ExTo.ret {e : Expr} {pos : Pos} {rest : List Stmt} {P : Out → Prop} {d : PyData} (he : EvTo G k sc ρ e d) (hp : P (.ret d)) : ExTo G k sc ρ (.Return (some e) pos :: rest) P := by
  intro A env M0 L Wc Z s0 s Q E ho hv t hQ hR
  refine wpAny_execs_cons ?_
  rw [exec_Return_some]
  refine wpAny_bind (wpAny_standAt (wpAny_bind (he A env _ s _ _ ho hv t.fm.vr fun v s1 k1 r1 => wpAny_pure ?_)))
  exact hR d v s1 hp (t.kp.trans k1) (Rp.sub (fun a o e q => .inl q) _ _ r1)

/-- return of a thing that grew -/
theorem ExTo.retMu {x : Str} {p pos : Pos} {rest : List Stmt} {P : Out → Prop} {ds : List PyData} (hx : (x, .mu ds) ∈ ρ) (hp : P (.ret (.list ds))) : ExTo G k sc ρ (.Return (some (.Name x p)) pos :: rest) P := by
  intro A env M0 L Wc Z s0 s Q E ho hv t hQ hR
  refine wpAny_execs_cons ?_
  rw [exec_Return_some]
  obtain ⟨a, items, ha, hm, h3, h4, h5⟩ := t.fm.vr.ent _ _ hx
  obtain ⟨a', ha', hz⟩ := t.fm.ym _ _ hx trivial
  cases ha.det ha'
  have hq : Q (.ret (.ref a)) s := hR _ _ s hp t.kp (by
    simp only [Rp]
    refine ⟨a, items, rfl, fun q => ?_, h3, RpL.sub (fun a o e q => .inl q) _ _ h4, h5⟩
    obtain ⟨o, e⟩ := t.d0 a q
    rw [t.fr a (.inr (.inl hz))] at e; cases e)
  refine wpAny_bind (wpAny_standAt (wpAny_bind ?_))
  rcases ha with ⟨hl, m, hn, hm⟩ | ⟨hl, c, hc, hi⟩
  · exact wpAny_Name (wpAny_loadName_local hv.kind hl hn hm (wpAny_pure hq)) (hv.dbg (by rw [hl]; simp))
  · rcases hl with hl | hl
    · exact wpAny_Name (wpAny_loadName_cell hv.kind hl hc hi (wpAny_pure hq)) (hv.dbg (by rw [hl]; simp))
    · exact wpAny_Name (wpAny_loadName_free hv.kind hl hc hi (wpAny_pure hq) (hv.cd (by rw [hl]; simp))) (hv.dbg (by rw [hl]; simp))

theorem ExTo.ite {test : Expr} {body orelse rest : List Stmt} {pos : Pos} {b : Bool} {P P1 : Out → Prop} (hc : TrTo G k sc ρ test b) (h1 : b = true → ExTo G k sc ρ body P1) (h2 : b = false → ExTo G k sc ρ orelse P1)
    (hn : ∀ ρ', P1 (.next ρ') → ExTo G k sc ρ' rest P) (hr : ∀ d, P1 (.ret d) → P (.ret d)) : ExTo G k sc ρ (.If test body orelse pos :: rest) P := by
  intro A env M0 L Wc Z s0 s Q E ho hv t hQ hR
  refine wpAny_execs_cons ?_
  rw [exec_If]
  refine wpAny_bind (wpAny_standAt (wpAny_bind (hc A env _ s _ _ ho hv t.fm.vr fun s1 k1 => ?_)))
  have t1 := t.keeps k1
  have key : ∀ ss, ExTo G k sc ρ ss P1 → wpAny (model prog w) A (execs ss env) (fun f s' => match f with | .next => wpAny (model prog w) A (execs rest env) Q E s' | f => Q f s') E s1 := fun ss hss =>
    hss A env M0 L Wc Z s0 s1 _ _ ho hv t1 (fun ρ' Z' s' hp t' hk => (hn ρ' hp) A env M0 L Wc Z' s0 s' Q E ho hv t' (fun ρ'' Z'' s'' hp' t'' hk' =>
        hQ ρ'' Z'' s'' hp' t'' ((Ch.of k1).trans (hk.trans hk'))) hR)
      fun d v s' hp hk hr' => hR d v s' (hr d hp) hk hr'
  cases b with
  | true => simp only [if_true]; exact key body (h1 rfl)
  | false => simp only [Bool.false_eq_true, if_false]; exact key orelse (h2 rfl)
end
end Mine
end
section
open PySem PyProof.Rows
set_option Elab.async false
set_option linter.unusedVariables false
namespace Mine

/-- less is said -/
inductive Wkn : VEnv → VEnv → Prop
  | nil : Wkn [] []
  | same {x b r r'} : Wkn r r' → Wkn ((x, b) :: r) ((x, b) :: r')
  | forget {x b r r'} : Wkn r r' → Wkn ((x, b) :: r) ((x, .un) :: r')
  | drop {x b r r'} : Wkn r r' → Wkn ((x, b) :: r) r'

theorem Wkn.refl : ∀ ρ : VEnv, Wkn ρ ρ
  | [] => .nil
  | (_, _) :: r => .same (Wkn.refl r)
theorem Wkn.names {ρ ρ' : VEnv} (h : Wkn ρ ρ') : (ρ'.map (·.1)).Sublist (ρ.map (·.1)) := by
  induction h with
  | nil => exact .slnil
  | same _ ih => exact ih.cons₂ _
  | forget _ ih => exact ih.cons₂ _
  | drop _ ih => exact ih.cons _
theorem Wkn.ent {ρ ρ' : VEnv} (h : Wkn ρ ρ') : ∀ x b, (x, b) ∈ ρ' → b = .un ∨ (x, b) ∈ ρ := by
  induction h with
  | nil => intro x b hx; cases hx
  | same _ ih =>
    intro x b hx
    rcases List.mem_cons.mp hx with e | e
    · cases e; exact .inr List.mem_cons_self
    · exact (ih x b e).imp id (List.mem_cons_of_mem _)
  | forget _ ih =>
    intro x b hx
    rcases List.mem_cons.mp hx with e | e
    · cases e; exact .inl rfl
    · exact (ih x b e).imp id (List.mem_cons_of_mem _)
  | drop _ ih => intro x b hx; exact (ih x b hx).imp id (List.mem_cons_of_mem _)

section
variable {prog : Program} {w : World} {G : Gl prog w} {k : Nat} {sc csc : Scope} {ρ ρ' ρc : VEnv}
section
variable {env : Env} {M0 L Wc Z : Addr → Prop} {s0 s s' : Shared}

theorem Fm.lessE {M : Addr → Prop} (f : Fm G sc env Wc Z M ρ s) (h : ∀ x b, (x, b) ∈ ρ' → b = .un ∨ (x, b) ∈ ρ) (hn : (ρ'.map (·.1)).Nodup) : Fm G sc env Wc Z M ρ' s :=
  ⟨f.fe, ⟨f.vr.base, f.vr.dom, fun x b hx => (h x b hx).elim (fun e => e ▸ trivial) (f.vr.ent x b), f.vr.cel, hn⟩, f.sub, f.nb, fun x b hx hb => (h x b hx).elim (fun e => by rw [e] at hb; cases hb) fun h => f.ym x b h hb, f.cz, f.zs⟩

theorem St.lessE (t : St G sc env M0 L Wc Z s0 ρ s) (h : ∀ x b, (x, b) ∈ ρ' → b = .un ∨ (x, b) ∈ ρ) (hn : (ρ'.map (·.1)).Nodup) : St G sc env M0 L Wc Z s0 ρ' s :=
  t.next (t.fm.lessE h hn) t.kp fun x b hx hb => (h x b hx).elim (fun e => by rw [e] at hb; cases hb) fun h => ⟨h, fun _ a => a⟩

theorem St.wkn (t : St G sc env M0 L Wc Z s0 ρ s) (h : Wkn ρ ρ') : St G sc env M0 L Wc Z s0 ρ' s := t.lessE h.ent (h.names.nodup t.fm.vr.nd)

/-- an iterator comes up -/
theorem St.growL {own : Addr → Prop} (t : St G sc env M0 L Wc Z s0 ρ s) (k : Kp G.T s s') (hn : ∀ a, own a → s.heap.get? a = none) (hd : ∀ a, own a → ∃ o, s'.heap.get? a = some o) : St G sc env M0 (fun a => L a ∨ own a) Wc Z s0 ρ s' := by
  have nn : ∀ a, own a → ¬ (MM M0 Wc Z L a) := fun a ha q => by obtain ⟨o, e⟩ := t.fm.vr.dom a q; rw [hn a ha] at e; cases e
  have hM : (fun a => MM M0 Wc Z L a ∨ own a) = MM M0 Wc Z (fun a => L a ∨ own a) := funext fun a => propext ⟨fun h => by
      rcases h with (h | h | h | h) | h
      · exact .inl h
      · exact .inr (.inl h)
      · exact .inr (.inr (.inl h))
      · exact .inr (.inr (.inr (.inl h)))
      · exact .inr (.inr (.inr (.inr h))), fun h => by
      rcases h with h | h | h | h | h
      · exact .inl (.inl h)
      · exact .inl (.inr (.inl h))
      · exact .inl (.inr (.inr (.inl h)))
      · exact .inl (.inr (.inr (.inr h)))
      · exact .inr h⟩
  have f1 := t.fm.grow k hn hd
  rw [hM] at f1
  have t' := t.keeps k
  refine ⟨f1, t'.kp, fun a ha => ?_, t.d0, t.b0, t.zw, fun a ha q => ?_, fun a ha q => ?_, t.cw, t'.ds⟩
  · rcases ha with ha | ha | ha | ha
    · exact t.fr a (.inl ha)
    · exact t.fr a (.inr (.inl ha))
    · exact t.fr a (.inr (.inr ha))
    · cases e : s0.heap.get? a with
      | none => rfl
      | some o => obtain ⟨_, q⟩ := t.kp.al e; rw [hn a ha] at q; cases q
  · rcases q with q | q
    · exact t.zl a ha q
    · exact nn a q (.inr (.inr (.inl ha)))
  · rcases q with q | q
    · exact t.wl a ha q
    · exact nn a q (.inr (.inl ha))

theorem St.nob (t : St G sc env M0 L Wc Z s0 ρ s) {a : Addr} (h : L a) : G.hB.get? a = none := by
  cases e : G.hB.get? a with
  | none => rfl
  | some o => obtain ⟨_, q⟩ := (t.b0 a o e).al; rw [t.fr a (.inr (.inr h))] at q; cases q

theorem St.ownAcc {own : Addr → Prop} (t : St G sc env M0 L Wc Z s0 ρ s) (k : KB G.T own s s') (ho : ∀ b, own b → L b) (y : Str) (u : Value) (h : Acc env s.heap y u) : Acc env s'.heap y u :=
  h.kb k (fun q => t.wl _ t.fm.fe.wl (ho _ q)) fun x c hc q => t.wl _ (t.cw x c hc) (ho _ q)

/-- an iterator moves -/
theorem St.kbL {own : Addr → Prop} (t : St G sc env M0 L Wc Z s0 ρ s) (k : KB G.T own s s') (ho : ∀ b, own b → L b) (hd : ∀ b, own b → ∃ o, s'.heap.get? b = some o) : St G sc env M0 L Wc Z s0 ρ s' :=
  t.next (t.fm.kb k (fun b hb => .inr (.inr (.inr (ho b hb)))) (fun b hb q => t.wl b q (ho b hb)) (fun b hb q => t.zl b q (ho b hb)) (fun b hb => t.nob (ho b hb)) hd) (t.kpW k fun b hb => .inr (.inr (ho b hb)))
    fun x b hx hb => ⟨hx, t.ownAcc k ho x⟩

/-- an iterator ends -/
theorem St.dropL {own : Addr → Prop} (t : St G sc env M0 (fun a => L a ∨ own a) Wc Z s0 ρ s) (k : KB G.T own s s') (hl : ∀ a, L a → ¬ own a) : St G sc env M0 L Wc Z s0 ρ s' := by
  have ho : ∀ b, own b → (L b ∨ own b) := fun b h => .inr h
  have f1 : Fm G sc env Wc Z (MM M0 Wc Z L) ρ s' := t.fm.kb' k (fun b hb => .inr (.inr (.inr (.inr hb)))) (fun b hb q => t.wl b q (.inr hb)) (fun b hb q => t.zl b q (.inr hb)) (fun b hb => t.nob (.inr hb))
    (fun a ha => ha.elim .inl fun h => .inr (h.elim .inl fun h => .inr (h.elim .inl fun h => .inr (.inl h)))) (fun a ha => .inr (.inl ha)) (fun a ha => .inr (.inr (.inl ha))) (fun b hb hob => by
      exfalso
      rcases hb with hb | hb | hb | hb
      · obtain ⟨o, e⟩ := t.d0 b hb; rw [t.fr b (.inr (.inr (.inr hob)))] at e; cases e
      · exact t.wl b hb (.inr hob)
      · exact t.zl b hb (.inr hob)
      · exact hl b hb hob)
  have bk : ∀ x b, (x, b) ∈ ρ → b.isMu → ∀ u, Acc env s'.heap x u → Acc env s.heap x u := fun x b hx hb u a => t.fm.back hx hb (t.ownAcc k ho x) a
  exact ⟨f1, t.kpW k fun b hb => .inr (.inr (.inr hb)), fun a ha => t.fr a (ha.imp id (Or.imp id .inl)), t.d0, t.b0, t.zw, fun a ha q => t.zl a ha (.inl q), fun a ha q => t.wl a ha (.inl q), t.cw,
    fun x y b c a hx hy hb hc ax ay => t.ds x y b c a hx hy hb hc (bk x b hx hb _ ax) (bk y c hy hc _ ay)⟩

/-- what grew is now at rest -/
theorem St.freeze {x : Str} {ds : List PyData} (t : St G sc env M0 L Wc Z s0 ρ s) (hx : (x, .mu ds) ∈ ρ) (hu : Upd x (.own (.list ds)) ρ ρ') : ∃ Z', (∀ a, Z' a → Z a) ∧ St G sc env M0 L Wc Z' s0 ρ' s := by
  obtain ⟨a, items, h1, h2, h3, h4, h5⟩ := t.fm.vr.ent _ _ hx
  obtain ⟨a', h1', hz⟩ := t.fm.ym _ _ hx trivial
  cases h1.det h1'
  have na : ¬ MM M0 Wc (fun b => Z b ∧ b ≠ a) L a := fun q => by
    rcases q with q | q | q | q
    · obtain ⟨o, e⟩ := t.d0 a q; rw [t.fr a (.inr (.inl hz))] at e; cases e
    · exact t.zw a hz q
    · exact q.2 rfl
    · exact t.zl a hz q
  have hs : ∀ b, MM M0 Wc (fun b => Z b ∧ b ≠ a) L b → MM M0 Wc Z L b := fun b q => q.imp id (Or.imp id (Or.imp (fun q => q.1) id))
  have other : ∀ y b a2, (y, b) ∈ ρ → y ≠ x → b.isMu → Acc env s.heap y (.ref a2) → a2 ≠ a := fun y b a2 hy hne hb hac q => hne (t.ds y x b _ a hy hx hb trivial (q ▸ hac) h1)
  refine ⟨fun b => Z b ∧ b ≠ a, fun b h => h.1, ⟨⟨t.fm.fe, ⟨t.fm.vr.base, fun b hb => t.fm.vr.dom b (hs b hb), ?_, fun y c hc => .inr (.inl (t.cw y c hc)), hu.nodup t.fm.vr.nd⟩, fun b hb => .inr (.inl hb), t.fm.nb, ?_, fun y c hc => .inl (t.cw y c hc), fun b hb => .inr (.inr (.inl hb))⟩, t.kp, fun b hb => t.fr b (hb.imp id (Or.imp (fun q => q.1) id)), t.d0, t.b0, fun b hb => t.zw b hb.1, fun b hb => t.zl b hb.1, t.wl, t.cw, ?_⟩⟩
  · intro y b hy
    rcases hu.ent t.fm.vr.nd y b hy with ⟨rfl, rfl⟩ | ⟨hne, hy⟩
    · refine ⟨.ref a, h1, ?_⟩
      simp only [Rp]
      exact ⟨a, items, rfl, na, h3, RpL.sub (fun b o e => hs b) _ _ h4, h5⟩
    · have r := t.fm.vr.ent y b hy
      have ym := t.fm.ym y b hy
      cases b with
      | un => trivial
      | own d => obtain ⟨v, q1, r⟩ := r; exact ⟨v, q1, Rp.sub (fun b o e => hs b) _ _ r⟩
      | mu ds =>
        obtain ⟨a2, its, q1, q2, q3, q4, q5⟩ := r
        obtain ⟨a3, q1', hz3⟩ := ym trivial
        cases q1.det q1'
        exact ⟨a2, its, q1, .inr (.inr (.inl ⟨hz3, other y _ a2 hy hne trivial q1⟩)), q3, RpL.sub (fun b o e => hs b) _ _ q4, q5⟩
      | mud D =>
        obtain ⟨a2, kvs, q1, q2, ql, q2', q3, q4, q5⟩ := r
        obtain ⟨a3, q1', hz3⟩ := ym trivial
        cases q1.det q1'
        exact ⟨a2, kvs, q1, .inr (.inr (.inl ⟨hz3, other y _ a2 hy hne trivial q1⟩)), ql, q2', q3, RpD.sub (fun b o e => hs b) _ _ q4, q5⟩
  · intro y b hy hb
    rcases hu.ent t.fm.vr.nd y b hy with ⟨rfl, rfl⟩ | ⟨hne, hy⟩
    · cases hb
    · obtain ⟨a2, q1, q2⟩ := t.fm.ym y b hy hb
      exact ⟨a2, q1, q2, other y b a2 hy hne hb q1⟩
  · intro y z b c a2 hy hz' hb hc ay az
    rcases hu.ent t.fm.vr.nd y b hy with ⟨rfl, rfl⟩ | ⟨_, hy⟩
    · cases hb
    · rcases hu.ent t.fm.vr.nd z c hz' with ⟨rfl, rfl⟩ | ⟨_, hz'⟩
      · cases hc
      · exact t.ds y z b c a2 hy hz' hb hc ay az
end

theorem ExTo.freeze {x : Str} {ds : List PyData} {ss : List Stmt} {P : Out → Prop} (hx : (x, .mu ds) ∈ ρ) (hu : Upd x (.own (.list ds)) ρ ρ') (h : ExTo G k sc ρ' ss P) : ExTo G k sc ρ ss P := by
  intro A env M0 L Wc Z s0 s Q E ho hv t hQ hR
  obtain ⟨Z', hz, t'⟩ := t.freeze hx hu
  exact h A env M0 L Wc Z' s0 s Q E ho hv t' (fun ρ2 Z2 s2 hp t2 hc => hQ ρ2 Z2 s2 hp t2 ⟨fun a ha => (hc.zz a ha).imp (hz a) id, hc.kb.mono fun b hb => hb.imp id (hz b), hc.al⟩) hR

theorem for_core {α : Type} {f : α → PyData} {xs : List α} {R : Nat → VEnv} {ρb : Nat → α → VEnv} {Iv : Nat → Prop} {t : Expr} {body : List Stmt} {P : Out → Prop} {A : Around} {env : Env} {M0 L Wc Z : Addr → Prop} {s0 s s1 : Shared} {I : Addr} {own : Addr → Prop} {Co : Nat → Heap → Prop} {h0' : Heap} {RR : Result → Shared → Prop}
    (ho : Ok k A) (hv : EnvOk sc env) (tt : St G sc env M0 L Wc Z s0 ρ s) (h0 : Wkn ρ (R 0)) (hI : Iv 0)
    (k1 : Kp G.T s s1) (W : Wk prog w G.T A I own (fun b => true = true ∧ MM M0 Wc Z L b) (MM M0 Wc Z L) h0' t (xs.map f) Co) (hc0 : Co 0 s1.heap) (hh1 : ∀ b o, s.heap.get? b = some o → Gr G.T h0' b o) (hh2 : ∀ b o, h0'.get? b = some o → Gr G.T s1.heap b o)
    (hown : ∀ b, own b → h0'.get? b = none ∧ ∃ o, s1.heap.get? b = some o)
    (hb : ∀ i x, xs[i]? = some x → Iv i → BindTo G k sc (R i) t (f x) (ρb i x))
    (hbody : ∀ i x, xs[i]? = some x → Iv i → ExTo G k sc (ρb i x) body (fun o => match o with | .next ρ' => Wkn ρ' (R (i + 1)) ∧ Iv (i + 1) | .ret d => P (.ret d)))
    (hret : ∀ d v s', P (.ret d) → Kp G.T s0 s' → Rp prog w s'.heap M0 d v → RR (.ok (.ret v)) s')
    (hend : ∀ Zn sn, Iv xs.length → St G sc env M0 L Wc Zn s0 (R xs.length) sn → Ch G.T Wc Z Zn s sn → RR (.ok .next) sn) : codeAny (model prog w) A (.forLoop t (.ref I) body [] env) RR s1 := by
  have ownNone : ∀ b, own b → s.heap.get? b = none := fun b hb => by
    cases e : s.heap.get? b with
    | none => rfl
    | some o' => obtain ⟨_, q⟩ := (hh1 b o' e).al; rw [(hown b hb).1] at q; cases q
  have nM : ∀ b, own b → ¬ MM M0 Wc Z L b := fun b hb q => by obtain ⟨o', e⟩ := tt.fm.vr.dom b q; rw [ownNone b hb] at e; cases e
  have t1 : St G sc env M0 (fun a => L a ∨ own a) Wc Z s0 (R 0) s1 := (tt.growL k1 ownNone fun b hb => (hown b hb).2).wkn h0
  let I0 : Nat → Shared → Prop := fun n si => ∃ i Zi, i ≤ xs.length ∧ n = xs.length - i ∧ Iv i ∧ Co i si.heap ∧ St G sc env M0 (fun a => L a ∨ own a) Wc Zi s0 (R i) si ∧ Ch G.T (fun a => Wc a ∨ own a) Z Zi s1 si
  refine codeAny_forLoop_any (R := RR) (I := I0) ?_ xs.length ⟨0, Z, Nat.zero_le _, by simp, hI, hc0, t1, Ch.refl⟩
  rintro n si ⟨i, Zi, hi, rfl, hIi, hci, ti, chi⟩
  have oW : ∀ b, own b → ¬ Wc b := fun b hb q => ti.wl b q (.inr hb)
  have oZ : ∀ b, own b → ¬ Zi b := fun b hb q => ti.zl b q (.inr hb)
  have hag : Agr (fun b => true = true ∧ MM M0 Wc Z L b) h0' si.heap := fun b o hb n e => by
    refine chi.kb.nt b o (fun q => ?_) n ((hh2 b o e).nt n)
    rcases q with (q | q) | q
    · exact hb ⟨rfl, .inr (.inl q)⟩
    · rw [(hown b q).1] at e; cases e
    · exact hb ⟨rfl, .inr (.inr (.inl q))⟩
  by_cases hlt : i < xs.length
  · have hx : xs[i]? = some xs[i] := List.getElem?_eq_getElem hlt
    have hd : (xs.map f)[i]? = some (f xs[i]) := by rw [List.getElem?_map, hx]; rfl
    refine wpAny_mono (W.item i (f xs[i]) (MM M0 Wc Zi fun a => L a ∨ own a) si (fun v s2 => wpAny (model prog w) A (assign t env v) (fun _ s₂ => wpAny (model prog w) A (execs body env) (fun f s₃ => match f with
            | .next | .cont => ∃ m, m < xs.length - i ∧ I0 m s₃
            | .brk => RR (.ok .next) s₃
            | .ret v => RR (.ok (.ret v)) s₃) (notedBy (model prog w) A env fun e s' => RR (.error e) s') s₂) (notedBy (model prog w) A env fun e s' => RR (.error e) s') s2) _ hd hci hag (fun b o e q => ?_) ti.fm.vr.dom fun v s2 k2 hc2 r2 => ?_) (fun r s2 h2 => ?_) fun _ _ z => z
    · rcases q with q | q | q | q | q
      · exact .inl q
      · exact .inr (.inl q)
      · rcases chi.zz b q with q | q
        · exact .inr (.inr (.inl q))
        · obtain ⟨_, z⟩ := (hh2 b o e).al; rw [q] at z; cases z
      · exact .inr (.inr (.inr q))
      · rw [(hown b q).1] at e; cases e
    · have t2 := ti.kbL k2 (fun b hb => .inr hb) fun b hb => W.alive _ _ hc2 b hb
      refine hb i _ hx hIi A env Wc Zi _ s2 v _ _ ho hv t2.fm r2 fun s3 k3 f3 m3 => ?_
      have t3 := t2.next f3 (t2.kpW k3 fun b hb => .inl hb) m3
      have ch3 : Ch G.T (fun a => Wc a ∨ own a) Zi Zi si s3 := by
        refine ⟨fun a h => .inl h, ((k2.mono (own' := fun b => (Wc b ∨ own b) ∨ Zi b) (fun b hb => .inl (.inr hb))).trans (k3.mono fun b hb => .inl (.inl hb))), fun b o e => ?_⟩
        by_cases hwb : Wc b
        · exact t3.dom (.inl hwb)
        · by_cases hob : own b
          · exact t3.dom (.inr (.inr (.inr hob)))
          · exact ((k2.tk b o hob e).trans k3.code fun o2 e2 => k3.tk b o2 hwb e2).al
      refine hbody i _ hx hIi A env M0 _ Wc Zi s0 s3 _ _ ho hv t3 (fun ρ4 Z4 s4 hp t4 ch4 => ?_) (fun d v s4 hp k4 r4 => ?_)
      · refine ⟨xs.length - (i + 1), by omega, i + 1, Z4, hlt, rfl, hp.2, ?_, t4.wkn hp.1, chi.trans (ch3.trans ⟨ch4.zz, ch4.kb.mono fun b hb => hb.imp .inl id, ch4.al⟩)⟩
        exact W.frame _ _ _ hc2 fun b o hb e => (k3.tk b o (oW b hb) e).trans ch4.kb.code fun o2 e2 => ch4.kb.tk b o2 (fun q => q.elim (oW b hb) (oZ b hb)) e2
      · exact hret d v s4 hp k4 r4
    · cases r with
      | none => exact h2.elim
      | some v => exact h2
  · have hin : i = xs.length := by omega
    subst hin
    have hc' : Co (xs.map f).length si.heap := by simpa using hci
    refine wpAny_mono (W.done si (fun s2 => wpAny (model prog w) A (execs [] env) (fun f s₃ => RR (.ok f) s₃) (notedBy (model prog w) A env fun e s' => RR (.error e) s') s2) _ hc' hag fun s2 k2 => ?_) (fun r s2 h2 => ?_) fun _ _ z => z
    · refine wpAny_execs_nil ?_
      have t2 := ti.dropL k2 fun a ha q => nM a q (.inr (.inr (.inr ha)))
      refine hend Zi s2 hIi t2 ⟨fun a ha => ?_, ⟨?_, fun b o hb e => ?_, fun b o ic e => k2.co b o ic (chi.kb.co b o ic (k1.nt b o ic.nt e))⟩, fun b o e => ?_⟩
      · rcases chi.zz a ha with q | q
        · exact .inl q
        · refine .inr ?_
          cases e : s.heap.get? a with
          | none => rfl
          | some o => obtain ⟨_, z⟩ := k1.al e; rw [q] at z; cases z
      · exact ((KB.of (own := fun _ => True) k1).trans ((chi.kb.mono fun _ _ => trivial).trans (k2.mono fun _ _ => trivial))).same
      · have nob : ¬ own b := fun q => by rw [ownNone b q] at e; cases e
        exact ((k1.tk b o e).trans chi.kb.code fun o2 e2 => chi.kb.tk b o2 (fun q => q.elim (fun q => q.elim (fun q => hb (.inl q)) nob) fun q => hb (.inr q)) e2).trans k2.code fun o3 e3 => k2.tk b o3 nob e3
      · have nob : ¬ own b := fun q => by rw [ownNone b q] at e; cases e
        obtain ⟨o1, e1⟩ := k1.al e
        obtain ⟨o', e'⟩ := chi.al b o1 e1
        exact (k2.tk b o' nob e').al
    · cases r with
      | none => exact h2
      | some v => exact h2.elim

/-- a for loop, turn by turn -/
theorem ExTo.for {α : Type} {f : α → PyData} {xs : List α} {R : Nat → VEnv} {ρb : Nat → α → VEnv} {Iv : Nat → Prop} {t iter : Expr} {body rest : List Stmt} {pos : Pos} {P : Out → Prop}
    (hit : ItTo G k sc ρ t true iter (xs.map f)) (hs : ∀ env x, foldedSetIterable iter env x = pure x) (h0 : Wkn ρ (R 0)) (hI : Iv 0)
    (hb : ∀ i x, xs[i]? = some x → Iv i → BindTo G k sc (R i) t (f x) (ρb i x))
    (hbody : ∀ i x, xs[i]? = some x → Iv i → ExTo G k sc (ρb i x) body (fun o => match o with | .next ρ' => Wkn ρ' (R (i + 1)) ∧ Iv (i + 1) | .ret d => P (.ret d)))
    (hrest : Iv xs.length → ExTo G k sc (R xs.length) rest P) : ExTo G k sc ρ (.For t iter body [] pos :: rest) P := by
  intro A env M0 L Wc Z s0 s Q E ho hv tt hQ hR
  refine wpAny_execs_cons (wpAny_For ?_ (hs env))
  refine hit A env _ s _ _ ho hv tt.fm.vr fun I own Co h0' s1 k1 W hc0 hh1 hh2 hown => ?_
  refine for_core ho hv tt h0 hI k1 W hc0 hh1 hh2 hown hb hbody (fun d v s' hp hk hr => hR d v s' hp hk hr) fun Zn sn hIn tn chn => ?_
  exact hrest hIn A env M0 L Wc Zn s0 sn Q E ho hv tn (fun ρ3 Z3 s3 hp t3 ch3 => hQ ρ3 Z3 s3 hp t3 (chn.trans ch3)) hR

/-- a while loop of n turns -/
theorem ExTo.while {R : Nat → VEnv} {n : Nat} {test : Expr} {body rest : List Stmt} {pos : Pos} {P : Out → Prop} (h0 : Wkn ρ (R 0)) (ht : ∀ i, i < n → TrTo G k sc (R i) test true) (hf : TrTo G k sc (R n) test false)
    (hbody : ∀ i, i < n → ExTo G k sc (R i) body (fun o => match o with | .next ρ' => Wkn ρ' (R (i + 1)) | .ret d => P (.ret d))) (hrest : ExTo G k sc (R n) rest P) : ExTo G k sc ρ (.While test body [] pos :: rest) P := by
  intro A env M0 L Wc Z s0 s Q E ho hv tt hQ hR
  refine wpAny_execs_cons (wpAny_While ?_)
  refine codeAny_whileLoop (I := fun m si => ∃ i Zi, i ≤ n ∧ m = n - i ∧ St G sc env M0 L Wc Zi s0 (R i) si ∧ Ch G.T Wc Z Zi s si) ?_ n ⟨0, Z, Nat.zero_le _, by simp, tt.wkn h0, Ch.refl⟩
  rintro m si ⟨i, Zi, hi, rfl, ti, chi⟩
  by_cases hlt : i < n
  · refine ht i hlt A env _ si _ _ ho hv ti.fm.vr fun s1 k1 => ?_
    simp only [if_true]
    refine hbody i hlt A env M0 L Wc Zi s0 s1 _ _ ho hv (ti.keeps k1) (fun ρ4 Z4 s4 hp t4 ch4 => ?_) (fun d v s4 hp k4 r4 => hR d v s4 hp k4 r4)
    exact ⟨n - (i + 1), by omega, i + 1, Z4, hlt, rfl, t4.wkn hp, chi.trans ((Ch.of k1).trans ch4)⟩
  · have hin : i = n := by omega
    subst hin
    refine hf A env _ si _ _ ho hv ti.fm.vr fun s1 k1 => ?_
    simp only [Bool.false_eq_true, if_false]
    refine wpAny_execs_nil ?_
    exact hrest A env M0 L Wc Zi s0 s1 Q E ho hv (ti.keeps k1) (fun ρ3 Z3 s3 hp t3 ch3 => hQ ρ3 Z3 s3 hp t3 ((chi.trans (.of k1)).trans ch3)) hR
end
end Mine
end
section
open PySem PyProof.Rows
set_option Elab.async false
set_option linter.unusedVariables false
namespace Mine
section
variable {prog : Program} {w : World} {G : Gl prog w} {k : Nat} {sc csc : Scope} {ρ ρ' ρc : VEnv}

/-- v, made under N, may be stored as b -/
noncomputable def Its (prog : Program) (w : World) (h : Heap) (M N : Addr → Prop) : B → Value → Prop
  | .un, _ => False
  | .own d, v => Rp prog w h (fun b => M b ∨ N b) d v
  | .mu ds, v => ∃ a items, v = .ref a ∧ N a ∧ h.PlainList a items ∧ RpL prog w h (fun b => M b ∨ N b) ds items.toList ∧ ds.length ≤ lid
  | .mud D, v => ∃ a kvs, v = .ref a ∧ N a ∧ (a == sysModules) = false ∧ h.DictOf (strKind prog w) a kvs ∧ RpD prog w h (fun b => M b ∨ N b) D kvs ∧ D.length ≤ lid

noncomputable def EvIt (G : Gl prog w) (k : Nat) (sc : Scope) (ρ : VEnv) (e : Expr) (b : B) : Prop :=
  ∀ (A : Around) (env : Env) (M : Addr → Prop) (s : Shared) (Q : Value → Shared → Prop) (E : Value → Shared → Prop), Ok k A → EnvOk sc env → VR G env M ρ s →
    (∀ v s' N, Kp G.T s s' → (∀ a, N a → s.heap.get? a = none ∧ (∃ o, s'.heap.get? a = some o) ∧ v = .ref a) → Its prog w s'.heap M N b v → Q v s') → wpAny (model prog w) A (eval e env) Q E s

theorem EvIt.own {e : Expr} {d : PyData} (h : EvTo G k sc ρ e d) : EvIt G k sc ρ e (.own d) := by
  intro A env M s Q E ho hv hr hQ
  exact h A env M s Q E ho hv hr fun v s' k r => hQ v s' (fun _ => False) k (fun _ q => q.elim) (Rp.sub (fun a o e q => q.elim id False.elim) _ _ r)

theorem EvIt.list {es : List Expr} {ds : List PyData} {pos : Pos} (he : EvAll G k sc ρ es ds) (hl : ds.length ≤ lid) : EvIt G k sc ρ (.List es pos) (.mu ds) := by
  intro A env M s Q E ho hv hr hQ
  refine wpAny_List_spliced (he.run ho hv hr fun vs s1 k1 r1 => ⟨by rw [r1.length]; exact Nat.le_trans hl lid_le, ?_⟩)
  have hn : s1.heap.get? s1.heap.objs.size = none := fresh_none (Nat.le_refl _)
  have hp : (s1.heap.push { cls := .type "list", data := .seq vs.toArray }).PlainList s1.heap.objs.size vs.toArray := ⟨_, Heap.get?_push_size _ rfl⟩
  refine hQ _ _ (· = s1.heap.objs.size) (k1.trans (Kp.push _ s1.toks)) (fun a ha => ?_) ⟨_, _, rfl, rfl, hp, ?_, hl⟩
  · subst ha
    refine ⟨?_, ⟨_, hp.choose_spec⟩, rfl⟩
    cases e : s.heap.get? s1.heap.objs.size with
    | none => rfl
    | some o => obtain ⟨_, z⟩ := k1.al e; rw [hn] at z; cases z
  · refine RpL.agr Agr.push _ _ (RpL.sub (fun a o e q => q.elim id fun q => ?_) _ _ r1)
    rw [q, hn] at e; cases e

/-- a comprehension's list -/
theorem EvIt.comp {α : Type} {f : α → PyData} {o : α → List PyData} {elt t iter : Expr} {ifs : List Expr} {rest : List Comprehension} {pos : Pos} {xs : List α}
    (hc : compOk sc csc = true) (hρ : Filt csc ρ ρc) (hit : ItTo G k sc ρ t false iter (xs.map f)) (hs : ∀ env x, foldedSetIterable iter env x = pure x) (hT : ∀ x, x ∈ xs → TurnTo G k csc (⟨t, iter, ifs, 0⟩ :: rest) elt ρc 0 (f x) (o x)) (hl : (xs.flatMap o).length ≤ lid) :
    EvIt G k sc ρ (.ListComp elt (⟨t, iter, ifs, 0⟩ :: rest) csc pos) (.mu (xs.flatMap o)) := by
  intro A env M s Q E ho hv hr hQ
  have hc := compOk.of hc
  rw [eval_ListComp]
  refine wpAny_comprehension_free (use := none) rfl (hs env) (comp_closure hc hv) hc.kind (comp_names hc) ?_
  refine comp_core f o (RR := fun acc C => compPost (model prog w) A E none Q acc C) hc hρ hit hT hl ho hv hr fun D C s' kk hns hC hD hne hi => ?_
  obtain ⟨m, hm⟩ := hns
  obtain ⟨items, h1, h2⟩ := hi
  refine ⟨m, hm, fun h' hs' => hQ _ _ (· = D) ?_ (fun a ha => ?_) ⟨D, items, rfl, rfl, h1.at fun o e => (hs'.2 D hne).trans e, ?_, hl⟩⟩
  · obtain ⟨om, es, ep, hom, hdm, _⟩ := id hm
    obtain ⟨⟨h1, t1, rfl⟩, hk⟩ := kk
    exact ⟨⟨h', t1, rfl⟩, fun b o' e => (hk b o' e).trans (fun c o2 ic e2 => .inl ((hs'.2 c fun q => by rw [q, hom] at e2; cases e2; exact notCoD hdm ic).trans e2)) fun o2 e2 => .inl ((hs'.2 b fun q => by rw [q, hC] at e; cases e).trans e2)⟩
  · subst ha
    obtain ⟨n, e⟩ := h1
    exact ⟨hD, ⟨_, (hs'.2 a hne).trans e⟩, rfl⟩
  · exact RpL.sub (fun a o e q => q.elim .inl fun q => .inr (.inr q)) _ _ (RpL.agr (fun b o hb _ e => (hs'.2 b fun q => hb (.inr (.inl q))).trans e) _ _ h2)

theorem MM_add {M0 Wc Z L N : Addr → Prop} : (fun a => MM M0 Wc Z L a ∨ N a) = MM M0 Wc (fun a => Z a ∨ N a) L := funext fun a => propext ⟨fun h => by
      rcases h with (h | h | h | h) | h
      · exact .inl h
      · exact .inr (.inl h)
      · exact .inr (.inr (.inl (.inl h)))
      · exact .inr (.inr (.inr h))
      · exact .inr (.inr (.inl (.inr h))), fun h => by
      rcases h with h | h | (h | h) | h
      · exact .inl (.inl h)
      · exact .inl (.inr (.inl h))
      · exact .inl (.inr (.inr (.inl h)))
      · exact .inr h
      · exact .inl (.inr (.inr (.inr h)))⟩

section
variable {A : Around} {env : Env} {M0 L Wc Z : Addr → Prop} {s0 s s1 s' : Shared}

/-- a value stored, when what it brings is already among Z -/
theorem St.putZ {y : Str} {v : Value} {b : B} {N : Addr → Prop} {Q : Unit → Shared → Prop} {E : Value → Shared → Prop} (t : St G sc env M0 L Wc (fun a => Z a ∨ N a) s0 ρ s) (hv : EnvOk sc env) (hy : OwnName sc y) (hu : Upd y b ρ ρ')
    (hi : Its prog w s.heap (MM M0 Wc Z L) N b v) (hno : b.isMu → ∀ a, v = .ref a → ∀ x c, (x, c) ∈ ρ → c.isMu → x ≠ y → ¬ Acc env s.heap x (.ref a))
    (h : ∀ s', KB G.T Wc s s' → St G sc env M0 L Wc (fun a => Z a ∨ N a) s0 ρ' s' → Acc env s'.heap y v → (∀ x u, x ≠ y → Acc env s.heap x u → Acc env s'.heap x u) → Q () s') : wpAny (model prog w) A (storeName env y v) Q E s := by
  refine t.storeB hv hy hu (fun s' k hacc => ?_) (fun hb => ?_) h
  · have hag := t.agrW k
    cases b with
    | un => trivial
    | own d =>
      simp only [Its] at hi
      rw [MM_add] at hi
      exact ⟨v, hacc, Rp.agr hag _ _ hi⟩
    | mu ds =>
      simp only [Its] at hi
      rw [MM_add] at hi
      obtain ⟨a, items, rfl, hn, h3, h4, h5⟩ := hi
      exact ⟨a, items, hacc, .inr (.inr (.inl (.inr hn))), PL.gr h3 fun o n e => k.nt _ o (t.zw a (.inr hn)) n e, RpL.agr hag _ _ h4, h5⟩
    | mud D =>
      simp only [Its] at hi
      rw [MM_add] at hi
      obtain ⟨a, kvs, rfl, hn, h2', h3, h4, h5⟩ := hi
      exact ⟨a, kvs, hacc, .inr (.inr (.inl (.inr hn))), fun q => t.zw a (.inr hn) (q ▸ t.fm.fe.wl), h2', Dic.gr h3 fun o n e => k.nt _ o (t.zw a (.inr hn)) n e, RpD.agr hag _ _ h4, h5⟩
  · cases b with
    | un => cases hb
    | own d => cases hb
    | mu ds => obtain ⟨a, items, rfl, hn, _⟩ := hi; exact ⟨a, rfl, .inr hn, fun x c hx hc hne => hno trivial a rfl x c hx hc hne⟩
    | mud D => obtain ⟨a, kvs, rfl, hn, _⟩ := hi; exact ⟨a, rfl, .inr hn, fun x c hx hc hne => hno trivial a rfl x c hx hc hne⟩

theorem St.grow2 {own N : Addr → Prop} (t : St G sc env M0 L Wc Z s0 ρ s) (k : Kp G.T s s') (hn : ∀ a, (own a ∨ N a) → s.heap.get? a = none) (hd : ∀ a, (own a ∨ N a) → ∃ o, s'.heap.get? a = some o) (hx : ∀ a, N a → ¬ own a) :
    St G sc env M0 (fun a => L a ∨ own a) Wc (fun a => Z a ∨ N a) s0 ρ s' := by
  have nn : ∀ a, (own a ∨ N a) → ¬ (MM M0 Wc Z L a) := fun a ha q => by obtain ⟨o, e⟩ := t.fm.vr.dom a q; rw [hn a ha] at e; cases e
  have hM : (fun a => MM M0 Wc Z L a ∨ (own a ∨ N a)) = MM M0 Wc (fun a => Z a ∨ N a) (fun a => L a ∨ own a) := funext fun a => propext ⟨fun h => by
      rcases h with (h | h | h | h) | h | h
      · exact .inl h
      · exact .inr (.inl h)
      · exact .inr (.inr (.inl (.inl h)))
      · exact .inr (.inr (.inr (.inl h)))
      · exact .inr (.inr (.inr (.inr h)))
      · exact .inr (.inr (.inl (.inr h))), fun h => by
      rcases h with h | h | (h | h) | h | h
      · exact .inl (.inl h)
      · exact .inl (.inr (.inl h))
      · exact .inl (.inr (.inr (.inl h)))
      · exact .inr (.inr h)
      · exact .inl (.inr (.inr (.inr h)))
      · exact .inr (.inl h)⟩
  have f1 := (t.fm.grow k hn hd)
  rw [hM] at f1
  have t' := t.keeps k
  have new0 : ∀ a, (own a ∨ N a) → s0.heap.get? a = none := fun a ha => by
    cases e : s0.heap.get? a with
    | none => rfl
    | some o => obtain ⟨_, q⟩ := t.kp.al e; rw [hn a ha] at q; cases q
  refine ⟨⟨f1.fe, f1.vr, f1.sub, f1.nb, fun x b hx hb => let ⟨a, h1, h2⟩ := f1.ym x b hx hb; ⟨a, h1, .inl h2⟩, fun x c hc => (f1.cz x c hc).imp id .inl, fun a ha => .inr (.inr (.inl ha))⟩, t'.kp, fun a ha => ?_, t.d0, t.b0, fun a ha => ?_, fun a ha q => ?_, fun a ha q => ?_, t.cw, t'.ds⟩
  · rcases ha with ha | (ha | ha) | ha | ha
    · exact t.fr a (.inl ha)
    · exact t.fr a (.inr (.inl ha))
    · exact new0 a (.inr ha)
    · exact t.fr a (.inr (.inr ha))
    · exact new0 a (.inl ha)
  · rcases ha with ha | ha
    · exact t.zw a ha
    · exact fun q => nn a (.inr ha) (.inr (.inl q))
  · rcases ha with ha | ha <;> rcases q with q | q
    · exact t.zl a ha q
    · exact nn a (.inl q) (.inr (.inr (.inl ha)))
    · exact nn a (.inr ha) (.inr (.inr (.inr q)))
    · exact hx a ha q
  · rcases q with q | q
    · exact t.wl a ha q
    · exact nn a (.inl q) (.inr (.inl ha))

/-- no growing name holds what is new -/
theorem St.noNew {N : Addr → Prop} (t : St G sc env M0 L Wc Z s0 ρ s) (k : Kp G.T s s1) (hn : ∀ a, N a → s.heap.get? a = none) {a : Addr} (ha : N a) : ∀ x c, (x, c) ∈ ρ → c.isMu → ¬ Acc env s1.heap x (.ref a) := fun x c hx hc q => by
  obtain ⟨a', h1, h2⟩ := t.fm.ym x c hx hc
  cases (h1.keeps k.nt).det q
  obtain ⟨o, e⟩ := t.dom (.inr (.inl h2))
  rw [hn a ha] at e; cases e

theorem Ch.addN {N : Addr → Prop} {Wc Z : Addr → Prop} {s s1 : Shared} (k : Kp G.T s s1) (hn : ∀ a, N a → s.heap.get? a = none) : Ch G.T Wc Z (fun a => Z a ∨ N a) s s1 :=
  ⟨fun a ha => ha.imp id (hn a), KB.of k, fun b o e => k.al e⟩
end

/-- y = e, e perhaps a new list -/
theorem Step.assignIt {y : Str} {p pos : Pos} {e : Expr} {b : B} (he : EvIt G k sc ρ e b) (hy : OwnName sc y) (hu : Upd y b ρ ρ') (hs : ∀ env, swapsWith e (some (.Name y p)) pos.line env = pure false) : Step G k sc ρ (.Assign [.Name y p] e pos) ρ' := by
  intro A env M0 L Wc Z s0 s Q E ho hv t hQ
  rw [exec_Assign_Name env y p e pos (hs env)]
  refine wpAny_bind (wpAny_standAt (wpAny_bind (he A env _ s _ _ ho hv t.fm.vr fun v s1 N k1 hN hi => ?_)))
  have t1 := t.addZ k1 (fun a ha => (hN a ha).1) fun a ha => (hN a ha).2.1
  refine wpAny_bind (wpAny_standAt (wpAny_bind (wpAny_bindName (t1.putZ hv hy hu hi (fun hb a hva x c hx hc hne => ?_) fun s2 k2 t2 _ _ => wpAny_pure (hQ _ s2 t2 ((Ch.addN k1 fun a ha => (hN a ha).1).trans (Ch.ofW t2 k2)))))))
  have : N a := by
    cases b with
    | un => cases hb
    | own d => cases hb
    | mu ds => obtain ⟨a', items, e1, hn, _⟩ := hi; rw [hva] at e1; cases e1; exact hn
    | mud D => obtain ⟨a', kvs, e1, hn, _⟩ := hi; rw [hva] at e1; cases e1; exact hn
  exact t.noNew k1 (fun a ha => (hN a ha).1) this x c hx hc

/-- y = [.. for ..], however it is stored -/
theorem Step.assignComp {α : Type} {f : α → PyData} {o : α → List PyData} {y : Str} {p spos : Pos} {elt t iter : Expr} {ifs : List Expr} {rest : List Comprehension} {pos : Pos} {xs : List α} {b : B} (hb : b = .mu (xs.flatMap o) ∨ b = .own (.list (xs.flatMap o)))
    (hc : compOk sc csc = true) (hρ : Filt csc ρ ρc) (hit : ItTo G k sc ρ t false iter (xs.map f)) (hs : ∀ env x, foldedSetIterable iter env x = pure x) (hT : ∀ x, x ∈ xs → TurnTo G k csc (⟨t, iter, ifs, 0⟩ :: rest) elt ρc 0 (f x) (o x)) (hl : (xs.flatMap o).length ≤ lid)
    (hy : OwnName sc y) (hu : Upd y b ρ ρ') : Step G k sc ρ (.Assign [.Name y p] (.ListComp elt (⟨t, iter, ifs, 0⟩ :: rest) csc pos) spos) ρ' := by
  intro A env M0 L Wc Z s0 s Q E ho hv tt hQ
  have hsw : ∃ c, swapsWith (.ListComp elt (⟨t, iter, ifs, 0⟩ :: rest) csc pos) (some (.Name y p)) spos.line env = pure c := ⟨_, rfl⟩
  obtain ⟨c, hsw⟩ := hsw
  cases c with
  | false =>
    have he : EvIt G k sc ρ (.ListComp elt (⟨t, iter, ifs, 0⟩ :: rest) csc pos) b := by
      rcases hb with rfl | rfl
      · exact EvIt.comp hc hρ hit hs hT hl
      · exact EvIt.own (EvTo.listComp hc hρ hit hs hT hl)
    rw [exec_Assign_Name env y p _ spos hsw]
    refine wpAny_bind (wpAny_standAt (wpAny_bind (he A env _ s _ _ ho hv tt.fm.vr fun v s1 N k1 hN hi => ?_)))
    have t1 := tt.addZ k1 (fun a ha => (hN a ha).1) fun a ha => (hN a ha).2.1
    refine wpAny_bind (wpAny_standAt (wpAny_bind (wpAny_bindName (t1.putZ hv hy hu hi (fun hb a hva x c hx hc hne => ?_) fun s2 k2 t2 _ _ => wpAny_pure (hQ _ s2 t2 ((Ch.addN k1 fun a ha => (hN a ha).1).trans (Ch.ofW t2 k2)))))))
    have : N a := by
      cases b with
      | un => cases hb
      | own d => cases hb
      | mu ds => obtain ⟨a', items, e1, hn, _⟩ := hi; rw [hva] at e1; cases e1; exact hn
      | mud D => obtain ⟨a', kvs, e1, hn, _⟩ := hi; rw [hva] at e1; cases e1; exact hn
    exact tt.noNew k1 (fun a ha => (hN a ha).1) this x c hx hc
  | true =>
    have hc' := compOk.of hc
    rw [exec_Assign_Name_used y p _ spos hsw]
    refine wpAny_bind (wpAny_standAt (wpAny_bind ?_))
    show wpAny _ A (do let _ ← comprehension (.ListComp elt (⟨t, iter, ifs, 0⟩ :: rest) csc pos) csc env _ (newList []) false (eval iter env) (some (PySem.assign (.Name y p) env))) _ _ s
    refine wpAny_bind (wpAny_mono (wpAny_comprehension_free (use := some (PySem.assign (.Name y p) env)) (Q := fun _ s' => Q .next s') rfl (hs env) (comp_closure hc' hv) hc'.kind (comp_names hc') ?_)
      (fun _ s' hq => wpAny_pure (wpAny_pure hq)) fun _ _ e => e)
    refine comp_core f o (RR := fun acc C => compPost (model prog w) A E (some (PySem.assign (.Name y p) env)) (fun _ s' => Q .next s') acc C) hc' hρ hit hT hl ho hv tt.fm.vr fun D C s1 k1 hns hC hD hne hi => ?_
    obtain ⟨m, hm⟩ := hns
    obtain ⟨items, h1, h2⟩ := hi
    -- the frame of the comprehension is avoided, too
    have hCo : ∃ o, s1.heap.get? C = some o := by obtain ⟨o', es, ep, e, _⟩ := hm; exact ⟨o', e⟩
    have hDo : ∃ o, s1.heap.get? D = some o := by obtain ⟨n, e⟩ := h1; exact ⟨_, e⟩
    have tL : St G sc env M0 (fun a => L a ∨ a = C) Wc Z s0 ρ s1 := tt.growL k1 (fun a ha => ha ▸ hC) (fun a ha => ha ▸ hCo)
    have hCM : ∀ a, MM M0 Wc Z L a → a ≠ C := fun a ha q => by obtain ⟨o', e⟩ := tt.fm.vr.dom a ha; rw [q, hC] at e; cases e
    have fin : ∀ {N : Addr → Prop}, (∀ a, N a → a = D) → St G sc env M0 (fun a => L a ∨ a = C) Wc (fun a => Z a ∨ N a) s0 ρ s1 → Its prog w s1.heap (MM M0 Wc Z (fun a => L a ∨ a = C)) N b (.ref D) →
        wpAny (model prog w) A (PySem.assign (.Name y p) env (.ref D)) (fun _ s'' => ∃ m, s''.heap.Ns C m ∧ ∀ h', Heap.SameBut C s''.heap h' → Q .next { s'' with heap := h' }) E s1 := fun {N} hN tN hI => by
      refine wpAny_assign_Name (tN.putZ hv hy hu hI (fun hb a hva x c hx hc hne => ?_) fun s2 k2 t2 _ _ => ?_)
      · cases hva
        exact tt.noNew (N := (· = D)) k1 (fun a ha => ha ▸ hD) rfl x c hx hc
      · have hCW : ¬ Wc C := fun q => hCM C (.inr (.inl q)) rfl
        refine ⟨m, Nsp.gr hm fun o n e => k2.nt C o hCW n e, fun h' hs' => ?_⟩
        obtain ⟨om, es, ep, hom, hdm, _⟩ := Nsp.gr hm fun o n e => k2.nt C o hCW n e
        have kC : KB G.T (· = C) s2 { s2 with heap := h' } := .mk' ⟨h', s2.toks, rfl⟩ (fun b o hb e => (hs'.2 b hb).trans e) fun b o hb e => by rw [hb, hom] at e; cases e; exact notCoD hdm
        have t3 := t2.dropL kC (fun a ha q => hCM a (.inr (.inr (.inr ha))) q)
        refine hQ _ _ t3 ⟨fun a ha => ha.imp id fun q => by rw [hN a q]; exact hD, ⟨?_, fun b o hb e => ((k1.tk b o e).trans k2.code fun o2 e2 => k2.tk b o2 (fun q => hb (.inl q)) e2).trans kC.code fun o3 e3 => kC.tk b o3 (fun q => by rw [q, hC] at e; cases e) e3, fun b o ic e => kC.co b o ic (k2.co b o ic (k1.nt b o ic.nt e))⟩, fun b o e => ?_⟩
        · exact ((KB.of (own := fun _ => True) k1).trans ((k2.mono fun _ _ => trivial).trans (kC.mono fun _ _ => trivial))).same
        · by_cases hw : Wc b
          · exact t3.dom (.inl hw)
          · exact (((k1.tk b o e).trans k2.code fun o2 e2 => k2.tk b o2 hw e2).trans kC.code fun o3 e3 => kC.tk b o3 (fun q => by rw [q, hC] at e; cases e) e3).al
    have sb : ∀ a o', s1.heap.get? a = some o' → MM M0 Wc Z (fun a => L a ∨ a = C) a → (MM M0 Wc Z L a ∨ a = C ∨ a = D) := fun a o' e q => by
      rcases q with q | q | q | q | q
      · exact .inl (.inl q)
      · exact .inl (.inr (.inl q))
      · exact .inl (.inr (.inr (.inl q)))
      · exact .inl (.inr (.inr (.inr q)))
      · exact .inr (.inl q)
    rcases hb with rfl | rfl
    · refine fin (N := (· = D)) (fun a h => h) ?_ ⟨D, items, rfl, rfl, h1, RpL.sub (fun a o' e q => q.elim (sb a o' e) fun q => .inr (.inr q)) _ _ h2, hl⟩
      exact tt.grow2 (own := (· = C)) (N := (· = D)) k1 (fun a ha => ha.elim (fun q => q ▸ hC) fun q => q ▸ hD) (fun a ha => ha.elim (fun q => q ▸ hCo) fun q => q ▸ hDo) (fun a ha q => hne (ha ▸ q))
    · refine fin (N := fun _ => False) (fun a h => h.elim) ?_ ?_
      · have e : (fun a => Z a ∨ False) = Z := funext fun a => propext ⟨fun h => h.elim id False.elim, .inl⟩
        rw [e]; exact tL
      · simp only [Its, Rp]
        refine ⟨D, items, rfl, fun q => ?_, h1, RpL.sub (fun a o' e q => q.elim (sb a o' e) False.elim) _ _ h2, hl⟩
        rcases q with q | q
        · rcases sb D _ h1.choose_spec q with q | q | q
          · obtain ⟨o', e⟩ := tt.fm.vr.dom D q; rw [hD] at e; cases e
          · exact hne q
          · rcases ‹MM M0 Wc Z (fun a => L a ∨ a = C) D› with q | q | q | q | q
            · obtain ⟨o', e⟩ := tt.fm.vr.dom D (.inl q); rw [hD] at e; cases e
            · obtain ⟨o', e⟩ := tt.fm.vr.dom D (.inr (.inl q)); rw [hD] at e; cases e
            · obtain ⟨o', e⟩ := tt.fm.vr.dom D (.inr (.inr (.inl q))); rw [hD] at e; cases e
            · obtain ⟨o', e⟩ := tt.fm.vr.dom D (.inr (.inr (.inr q))); rw [hD] at e; cases e
            · exact hne q
        · exact q
end
end Mine
end
section
open PySem PyProof.Rows
set_option Elab.async false
set_option linter.unusedVariables false
namespace Mine

noncomputable def dk (F : List (Str × PyData)) : List (PyData × PyData) := F.map fun kv => (.str kv.1, kv.2)
noncomputable def put {α : Type} (F : List (Str × α)) (x : Str) (d : α) : List (Str × α) :=
  if F.any (fun kv => kv.1 = x) then F.map (fun kv => if kv.1 = x then (kv.1, d) else kv) else F ++ [(x, d)]

section
variable {prog : Program} {w : World} {G : Gl prog w} {k : Nat} {sc csc : Scope} {ρ ρ' ρc : VEnv}

theorem RpD.keys {h : Heap} {M : Addr → Prop} : ∀ {F : List (Str × PyData)} {kvs : List (Str × Value)}, RpD prog w h M (dk F) kvs → kvs.map (·.1) = F.map (·.1)
  | [], _, r => by simp only [dk, List.map_nil, RpD] at r; subst r; rfl
  | (x, d) :: F, _, r => by
    simp only [dk, List.map_cons, RpD] at r
    obtain ⟨y, v, q, rfl, h0, h1, h2⟩ := r
    cases h0
    have := RpD.keys (F := F) h2
    simp [this]
theorem RpD.append {h : Heap} {M : Addr → Prop} {x : Str} {d : PyData} {v : Value} (hr : Rp prog w h M d v) : ∀ {F : List (Str × PyData)} {kvs : List (Str × Value)}, RpD prog w h M (dk F) kvs → RpD prog w h M (dk (F ++ [(x, d)])) (kvs ++ [(x, v)])
  | [], _, r => by
    simp only [dk, List.map_nil, RpD] at r; subst r
    simp only [dk, List.nil_append, List.map_cons, List.map_nil, RpD]
    exact ⟨x, v, [], rfl, rfl, hr, rfl⟩
  | (y, e) :: F, _, r => by
    simp only [dk, List.map_cons, RpD] at r
    obtain ⟨z, u, q, rfl, h0, h1, h2⟩ := r
    simp only [dk, List.cons_append, List.map_cons, RpD]
    exact ⟨z, u, _, rfl, h0, h1, RpD.append hr (F := F) h2⟩
theorem RpD.over {h : Heap} {M : Addr → Prop} {x : Str} {d : PyData} {v : Value} (hr : Rp prog w h M d v) : ∀ {F : List (Str × PyData)} {kvs : List (Str × Value)}, RpD prog w h M (dk F) kvs →
    RpD prog w h M (dk (F.map fun kv => if kv.1 = x then (kv.1, d) else kv)) (kvs.map fun kv => if kv.1 = x then (kv.1, v) else kv)
  | [], _, r => by simp only [dk, List.map_nil, RpD] at r; subst r; simp [dk, RpD]
  | (y, e) :: F, _, r => by
    simp only [dk, List.map_cons, RpD] at r
    obtain ⟨z, u, q, rfl, h0, h1, h2⟩ := r
    cases h0
    have ih := RpD.over (x := x) hr (F := F) h2
    by_cases hy : y = x
    · subst hy
      simp only [dk, List.map_cons, if_pos, RpD]
      exact ⟨y, v, _, rfl, rfl, hr, ih⟩
    · simp only [dk, List.map_cons, if_neg hy, RpD]
      exact ⟨y, u, _, rfl, rfl, h1, ih⟩
theorem RpD.put {h : Heap} {M : Addr → Prop} {x : Str} {d : PyData} {v : Value} {F : List (Str × PyData)} {kvs : List (Str × Value)} (r : RpD prog w h M (dk F) kvs) (hr : Rp prog w h M d v) : RpD prog w h M (dk (put F x d)) (stored kvs x v) := by
  have hany : (kvs.any fun kv => kv.1 = x) = F.any fun kv => kv.1 = x := by
    have e1 : (kvs.any fun kv => kv.1 = x) = (kvs.map (·.1)).any (fun y => y = x) := by rw [List.any_map]; rfl
    have e2 : (F.any fun kv => kv.1 = x) = (F.map (·.1)).any (fun y => y = x) := by rw [List.any_map]; rfl
    rw [e1, e2, r.keys]
  unfold Mine.put PySem.stored
  rw [hany]
  split
  · exact RpD.over hr r
  · exact RpD.append hr r
theorem dk_length (F : List (Str × PyData)) : (dk F).length = F.length := by simp [dk]
theorem put_length {α : Type} (F : List (Str × α)) (x : Str) (d : α) : (put F x d).length ≤ F.length + 1 := by
  unfold put; split <;> simp

theorem RpL.reverse {h : Heap} {M : Addr → Prop} {ds : List PyData} {vs : List Value} (r : RpL prog w h M ds vs) : RpL prog w h M ds.reverse vs.reverse := by
  refine RpL.iff (by simp [r.length]) fun i d v e1 e2 => ?_
  have hl := r.length
  have hi : i < ds.length := by have := (List.getElem?_eq_some_iff.mp e1).1; simpa using this
  rw [List.getElem?_reverse hi] at e1
  rw [List.getElem?_reverse (by lia), hl] at e2
  exact r.of_get e1 e2

theorem interactive_fn {env : Env} (hv : EnvOk sc env) : interactive env = false := by
  unfold interactive; rw [hv.kind]; rfl

/-- x.name(es), x a growing list -/
theorem method_list {A : Around} {env : Env} {M : Addr → Prop} {s : Shared} {x : Str} {a : Addr} {items : Array Value} {name : Str} {id : String} {px apos pos : Pos} {es : List Expr} {ds : List PyData} {Q : Value → Shared → Prop} {E : Value → Shared → Prop}
    (ho : Ok k A) (hv : EnvOk sc env) (hr : VR G env M ρ s) (ha : Acc env s.heap x (.ref a)) (hp : s.heap.PlainList a items) (slot : Slot "list" name id) (hty : typeOf (.builtin id) = pure (.type "method_descriptor"))
    (he : EvAll G k sc ρ es ds) (hfew : es.length < 20) (hline : (apos.endLine == pos.line) = true)
    (h : ∀ vs s1, Kp G.T s s1 → RpL prog w s1.heap M ds vs → wpAny (model prog w) A (call (.builtin id) (.ref a :: vs)) Q E s1) :
    wpAny (model prog w) A (eval (.Call (.Attribute (.Name x px) name apos) es [] pos) env) Q E s := by
  have hns : ∀ {es : List Expr} {ds : List PyData}, EvAll G k sc ρ es ds → (backTo pos (starEach es env)).all (fun x => !x.1) = true := by
    intro es ds he
    have := noStar_any he pos env
    rw [List.any_eq_false] at this
    rw [List.all_eq_true]
    intro y hy
    simpa using this y hy
  refine wpAny_Call_method_lateS rfl ?_ hline (ha.name hv ?_)
  · rw [hns he]
    show (true && decide (es.length + 0 + 0 < 30)) = true
    simp; lia
  · obtain ⟨n, e⟩ := hp
    refine ⟨"list", id, PySem.F.plainAttrs_list, slot, hty, ⟨_, e, rfl⟩, (fun _ q => by cases q; exact ⟨_, e, rfl⟩), ?_⟩
    cases he with
    | nil => exact callWith_method0 (by simpa using h [] s Kp.refl RpL.nil)
    | cons hn h1 hr' =>
      refine callWith_method1 (EvAll.run (.cons hn h1 hr') ho hv hr fun vs s1 k1 r1 => ?_) (hn _ _) ?_
      · simpa using h vs s1 k1 r1
      · exact noStar_any hr' pos env

theorem Step.expr {e : Expr} {pos : Pos} {A : Around} {env : Env} {s : Shared} {Q : Flow → Shared → Prop} {E : Value → Shared → Prop} (hv : EnvOk sc env) (hs : ∀ env, swapsWith e none pos.line env = pure false)
    (h : wpAny (model prog w) A (eval e env) (fun _ s' => Q .next s') E s) : wpAny (model prog w) A (exec (.Expr e pos) env) Q E s := wpAny_Expr_any h (interactive_fn hv) (hs env)

/-- a change of a growing list -/
theorem Step.mutL {x : Str} {name : Str} {id : String} {px apos pos spos : Pos} {es : List Expr} {args ds ds' : List PyData} (hx : (x, .mu ds) ∈ ρ) (slot : Slot "list" name id) (hty : typeOf (.builtin id) = pure (.type "method_descriptor"))
    (he : EvAll G k sc ρ es args) (hfew : es.length < 20) (hline : (apos.endLine == pos.line) = true) (hu : Upd x (.mu ds') ρ ρ')
    (hc : ∀ (A : Around) (M : Addr → Prop) (s : Shared) (a : Addr) (items : Array Value) (vs : List Value) (Q : Value → Shared → Prop) (E : Value → Shared → Prop), Ok k A → s.heap.PlainList a items → RpL prog w s.heap M ds items.toList → RpL prog w s.heap M args vs → ds.length ≤ lid →
      (∀ v h' items', Heap.SameBut a s.heap h' → h'.PlainList a items' → RpL prog w s.heap M ds' items'.toList → ds'.length ≤ lid → Q v { s with heap := h' }) → wpAny (model prog w) A (call (.builtin id) (.ref a :: vs)) Q E s) :
    Step G k sc ρ (.Expr (.Call (.Attribute (.Name x px) name apos) es [] pos) spos) ρ' := by
  intro A env M0 L Wc Z s0 s Q E ho hv t hQ
  obtain ⟨a, items, ha, hm, h3, h4, h5⟩ := t.fm.vr.ent _ _ hx
  refine Step.expr hv (fun _ => rfl) (method_list ho hv t.fm.vr ha h3 slot hty he hfew hline fun vs s1 k1 r1 => ?_)
  refine hc A _ s1 a items vs _ _ ho (PL.gr h3 (k1.nt _)) (RpL.agr k1.agr _ _ h4) r1 h5 fun v h' items' hs hp hr' hl' => ?_
  have kb : KB G.T (· = a) s1 { s1 with heap := h' } := .mk' ⟨h', s1.toks, rfl⟩ (fun b o hb e => (hs.2 b hb).trans e) fun b o hb e => by
    obtain ⟨n, e0⟩ := PL.gr h3 (k1.nt _)
    rw [hb, e0] at e; cases e; exact notCoS rfl
  have hag : Agr (MM M0 Wc Z L) s1.heap h' := kb.agr fun b q => q ▸ hm
  obtain ⟨t2, k2⟩ := (t.keeps k1).mut ⟨_, hx, trivial⟩ (ha.keeps k1.nt) kb hu trivial (by obtain ⟨n, e⟩ := hp; exact ⟨_, e⟩) fun hacc => ⟨a, items', hacc, hm, hp, RpL.agr hag _ _ hr', hl'⟩
  exact hQ Z _ t2 (Ch.ofZ t2 ((KB.of k1).trans k2))

theorem Step.append {x : Str} {px apos pos spos : Pos} {e : Expr} {d : PyData} {ds : List PyData} (hx : (x, .mu ds) ∈ ρ) (he : EvTo G k sc ρ e d) (hn : NotStar e) (hline : (apos.endLine == pos.line) = true) (hu : Upd x (.mu (ds ++ [d])) ρ ρ') (hl : ds.length < lid) :
    Step G k sc ρ (.Expr (.Call (.Attribute (.Name x px) "append" apos) [e] [] pos) spos) ρ' := by
  refine Step.mutL hx PySem.slot_list_append PySem.type_list_append (.cons hn he .nil) (by simp) hline hu fun A M s a items vs Q E ho hp hr ha hb hQ => ?_
  obtain ⟨v, rfl, r⟩ := ha.one
  have hlen : items.size = ds.length := by simpa using hr.length
  have hsz : items.size ≤ sizeLine := by rw [hlen]; exact Nat.le_trans hb lid_le
  exact wpAny_list_append_plain hp (fun h' hp' hs => hQ _ h' _ hs hp' (by rw [Array.toList_push]; exact RpL.append hr (RpL.cons r RpL.nil)) (by simp; lia)) hsz

theorem Step.insert0 {x : Str} {px apos pos spos : Pos} {ez e : Expr} {d : PyData} {ds : List PyData} (hx : (x, .mu ds) ∈ ρ) (hz : EvTo G k sc ρ ez (.int 0)) (he : EvTo G k sc ρ e d) (hnz : NotStar ez) (hn : NotStar e) (hline : (apos.endLine == pos.line) = true) (hu : Upd x (.mu (d :: ds)) ρ ρ') (hl : ds.length < lid) :
    Step G k sc ρ (.Expr (.Call (.Attribute (.Name x px) "insert" apos) [ez, e] [] pos) spos) ρ' := by
  refine Step.mutL hx PySem.F.slot_list_insert PySem.F.type_list_insert (.cons hnz hz (.cons hn he .nil)) (by simp) hline hu fun A M s a items vs Q E ho hp hr ha hb hQ => ?_
  obtain ⟨u, v, rfl, r0, r⟩ := ha.two
  simp only [Rp] at r0
  obtain ⟨tk, rfl⟩ := r0
  have hlen : items.size = ds.length := by simpa using hr.length
  obtain ⟨n, e⟩ := hp
  have g := PySem.AutoListH.list_insert_list_int_val_1 a items n 0 tk v (by decide) (by rw [hlen]; exact Nat.le_trans hb lid_le)
  refine call_meets PySem.F.slot_list_insert ⟨_, e, rfl⟩ PySem.F.entry_list_insert (PySem.F.args_list_insert_3 _ _ _) g ⟨e, ?_⟩
  refine hQ _ _ (#[v] ++ items) (Heap.SameBut.update ..) ⟨_, by rw [Heap.get?_update_self _ e rfl]; simp [Obj.mapSeq]; rfl⟩ (by simpa using RpL.cons r hr) (by simp; lia)

theorem Step.reverse {x : Str} {px apos pos spos : Pos} {ds : List PyData} (hx : (x, .mu ds) ∈ ρ) (hline : (apos.endLine == pos.line) = true) (hu : Upd x (.mu ds.reverse) ρ ρ') :
    Step G k sc ρ (.Expr (.Call (.Attribute (.Name x px) "reverse" apos) [] [] pos) spos) ρ' := by
  refine Step.mutL hx PySem.F.slot_list_reverse PySem.F.type_list_reverse .nil (by simp) hline hu fun A M s a items vs Q E ho hp hr ha hb hQ => ?_
  simp only [RpL] at ha
  subst ha
  have hlen : items.size = ds.length := by simpa using hr.length
  obtain ⟨n, e⟩ := hp
  have g := PySem.AutoListH.list_reverse_list_0 a items n (by rw [hlen]; exact Nat.le_trans hb lid_le)
  refine call_meets PySem.F.slot_list_reverse ⟨_, e, rfl⟩ PySem.F.entry_list_reverse (PySem.F.args_list_reverse_1 _) g ⟨e, ?_⟩
  refine hQ _ _ items.reverse (Heap.SameBut.update ..) ⟨_, by rw [Heap.get?_update_self _ e rfl]; simp [Obj.mapSeq]; rfl⟩ (by simpa using hr.reverse) (by simpa using hb)

/-- del x[i] -/
theorem Step.del {x : Str} {px pp pos : Pos} {ie : Expr} {i : Int} {j : Nat} {ds : List PyData} (hx : (x, .mu ds) ∈ ρ) (he : EvTo G k sc ρ ie (.int i)) (hfit : Builtin.List.listFitsIndex i = true) (hj : seqIndex? i ds.length = some j) (hu : Upd x (.mu (ds.eraseIdx j)) ρ ρ') :
    Step G k sc ρ (.Delete [.Subscript (.Name x px) ie pp] pos) ρ' := by
  intro A env M0 L Wc Z s0 s Q E ho hv t hQ
  obtain ⟨a, items, ha, hm, h3, h4, h5⟩ := t.fm.vr.ent _ _ hx
  refine wpAny_Delete (wpAny_deleteEach_cons (wpAny_delete_Subscript (ha.name hv (he A env _ s _ _ ho hv t.fm.vr fun v s1 k1 r1 => ?_))))
  simp only [Rp] at r1
  obtain ⟨tk, rfl⟩ := r1
  have hlen : items.size = ds.length := by simpa using h4.length
  have hjl : j < ds.length := by
    unfold seqIndex? at hj
    generalize (if i < 0 then i + (ds.length : Int) else i) = z at hj
    simp only at hj
    by_cases h : (decide (0 ≤ z) && decide (z < (ds.length : Int))) = true
    · rw [if_pos h] at hj
      have := Option.some.inj hj
      simp only [Bool.and_eq_true, decide_eq_true_eq] at h; lia
    · rw [if_neg h] at hj; cases hj
  refine wpAny_delItem_plain (PL.gr h3 (k1.nt _)) hfit (by rw [hlen]; exact hj) (fun h' hp hs => ?_) (by rw [hlen]; exact Nat.le_trans h5 lid_le)
  have kb : KB G.T (· = a) s1 { s1 with heap := h' } := .mk' ⟨h', s1.toks, rfl⟩ (fun b o hb e => (hs.2 b hb).trans e) fun b o hb e => by
    obtain ⟨n, e0⟩ := PL.gr h3 (k1.nt _)
    rw [hb, e0] at e; cases e; exact notCoS rfl
  have hag : Agr (MM M0 Wc Z L) s1.heap h' := kb.agr fun b q => q ▸ hm
  have hr' : RpL prog w s1.heap (MM M0 Wc Z L) (ds.eraseIdx j) (items.eraseIdxIfInBounds j).toList := by
    have e1 : (items.eraseIdxIfInBounds j).toList = items.toList.eraseIdx j := by
      rw [Array.eraseIdxIfInBounds, dif_pos (by rw [hlen]; exact hjl)]; simp
    rw [e1]
    have h4' := RpL.agr k1.agr _ _ h4
    have hl2 : items.toList.length = ds.length := by simpa using hlen
    refine RpL.iff (by rw [List.length_eraseIdx, List.length_eraseIdx, hl2]) fun i d v q1 q2 => ?_
    rw [List.getElem?_eraseIdx] at q1 q2
    split at q1
    · rw [if_pos ‹_›] at q2; exact h4'.of_get q1 q2
    · rw [if_neg ‹_›] at q2; exact h4'.of_get q1 q2
  obtain ⟨t2, k2⟩ := (t.keeps k1).mut ⟨_, hx, trivial⟩ (ha.keeps k1.nt) kb hu trivial (by obtain ⟨n, e⟩ := hp; exact ⟨_, e⟩) fun hacc => ⟨a, _, hacc, hm, hp, RpL.agr hag _ _ hr', by rw [List.length_eraseIdx]; split <;> lia⟩
  exact wpAny_deleteEach_nil (hQ Z _ t2 (Ch.ofZ t2 ((KB.of k1).trans k2)))

/-- x[key] = value, x a growing dict -/
theorem Step.setKey {x : Str} {px pp pos : Pos} {ie e : Expr} {key : Str} {d : PyData} {F : List (Str × PyData)} (hx : (x, .mud (dk F)) ∈ ρ) (he : EvTo G k sc ρ e d) (hk : EvTo G k sc ρ ie (.str key)) (hu : Upd x (.mud (dk (put F key d))) ρ ρ') (hl : F.length < lid)
    (hs : ∀ env, swapsWith e (some (.Subscript (.Name x px) ie pp)) pos.line env = pure false) : Step G k sc ρ (.Assign [.Subscript (.Name x px) ie pp] e pos) ρ' := by
  intro A env M0 L Wc Z s0 s Q E ho hv t hQ
  refine wpAny_Assign_Subscript (he A env _ s _ _ ho hv t.fm.vr fun v s1 k1 r1 => ?_) (hs env)
  have t1 := t.keeps k1
  obtain ⟨a, kvs, ha, hm, hl1, hsm, h3, h4, h5⟩ := t1.fm.vr.ent _ _ hx
  refine ha.name hv (hk A env _ s1 _ _ ho hv t1.fm.vr fun kv s2 k2 r2 => ?_)
  simp only [Rp] at r2
  obtain ⟨tk, rfl⟩ := r2
  have t2 := t1.keeps k2
  have h3' := Dic.gr h3 (k2.nt _)
  have hkl : kvs.length ≤ lid := by rw [h4.length]; exact h5
  refine wpAny_setItem_pairs (k := key) (knd := PySem.strKind prog w) (by simp [PySem.strKind, Value.isStrOf]) h3' (fun h' hd hs' => ?_) (Nat.le_trans hkl lid_le)
  have kb : KB G.T (· = a) s2 { s2 with heap := h', toks := s2.toks + 1 } := .mk' ⟨h', s2.toks + 1, rfl⟩ (fun b o hb e => (hs'.2 b hb).trans e) fun b o hb e => by
    obtain ⟨o', es, ep, e0, _, hd0, _⟩ := h3'
    rw [hb, e0] at e; cases e; exact notCoD hd0
  have hag : Agr (MM M0 Wc Z L) s2.heap h' := kb.agr fun b q => q ▸ hm
  have hr' : RpD prog w s2.heap (MM M0 Wc Z L) (dk (put F key d)) (stored kvs key v) := RpD.put (RpD.agr k2.agr _ _ h4) (Rp.agr k2.agr _ _ r1)
  obtain ⟨t3, k3⟩ := t2.mut ⟨_, hx, trivial⟩ (ha.keeps k2.nt) kb hu trivial (by obtain ⟨o, es, ep, e, _⟩ := hd; exact ⟨_, e⟩) fun hacc => ⟨a, _, hacc, hm, hl1, hsm, hd, RpD.agr hag _ _ hr', by
    rw [dk_length]; have := put_length F key d; lia⟩
  exact hQ Z _ t3 (Ch.ofZ t3 ((KB.of (k1.trans k2)).trans k3))
end
end Mine
end
section
open PySem PyProof.Rows
set_option Elab.async false
set_option linter.unusedVariables false
namespace Mine

/-- an env of the scope, for what hangs on the scope alone -/
noncomputable def envOf (sc : Scope) : Env := { scope := sc, locals := 0, globals := 0, cells := [] }

section
variable {prog : Program} {w : World} {G : Gl prog w} {k : Nat} {sc csc : Scope} {ρ ρ' ρc : VEnv}

theorem swapped_of {env : Env} (hv : EnvOk sc env) (hk : sc.kind = .function) (ts : List Expr) (e : Expr) : swappedStores ts e env = swappedStores ts e (envOf sc) := by
  have hb : env.blockKind = .function := by unfold Env.blockKind; rw [hv.kind]; rfl
  have hb' : (envOf sc).blockKind = .function := by unfold Env.blockKind envOf; rw [hk]; rfl
  have hn : ∀ x, (env.kindOf x == some .local) = ((envOf sc).kindOf x == some .local) := fun x => hv.kindN x
  unfold swappedStores
  simp (config := { iota := false }) only [hb, hb', hn]

theorem EvIt.dict0 {pos : Pos} : EvIt G k sc ρ (.Dict [] [] pos) (.mud (dk [])) := by
  intro A env M s Q E ho hv hr hQ
  refine wpAny_Dict_empty ?_
  have hn : s.heap.get? s.heap.objs.size = none := fresh_none (Nat.le_refl _)
  have hd := Heap.DictOf.new (knd := PySem.strKind prog w) s.heap
  refine hQ _ _ (· = s.heap.objs.size) (Kp.push _ s.toks) (fun a ha => ?_) ⟨_, [], rfl, rfl, ?_, hd, by simp [dk, RpD], by simp [dk]⟩
  · subst ha; exact ⟨hn, ⟨_, Heap.get?_push_size _ rfl⟩, rfl⟩
  · obtain ⟨_, h0⟩ := (hr.base mainGlobals _ G.g.choose_spec.choose_spec.choose_spec.1).al
    have hlt : mainGlobals < s.heap.objs.size := Heap.lt_size h0
    have : (1 : Nat) < s.heap.objs.size := Nat.lt_of_le_of_lt (by decide) hlt
    exact beq_eq_false_iff_ne.mpr (Nat.ne_of_gt this)

theorem VR.grow {env : Env} {M own : Addr → Prop} {s s' : Shared} (f : VR G env M ρ s) (k : Kp G.T s s') (hn : ∀ b, own b → s.heap.get? b = none) (hd : ∀ b, own b → ∃ o, s'.heap.get? b = some o) : VR G env (fun a => M a ∨ own a) ρ s' := by
  have f' := f.keeps k
  exact ⟨f'.base, fun a ha => ha.elim (f'.dom a) (hd a), fun x b hx => ((f.ent x b hx).grow hn).keeps k.nt, fun x c hc => .inl (f.cel x c hc), f.nd⟩

structure ItsL (prog : Program) (w : World) (h : Heap) (M N : Addr → Prop) (bs : List B) (vs : List Value) : Prop where
  len : vs.length = bs.length
  each : ∀ (i : Nat) b v, bs[i]? = some b → vs[i]? = some v → Its prog w h M N b v
  apart : ∀ (i j : Nat) b c a, i ≠ j → bs[i]? = some b → bs[j]? = some c → b.isMu → c.isMu → vs[i]? = some (.ref a) → vs[j]? ≠ some (.ref a)

theorem Its.sub {h : Heap} {M N M' N' : Addr → Prop} {b : B} {v : Value} (r : Its prog w h M N b v) (hs : ∀ a o, h.get? a = some o → (M' a ∨ N' a) → (M a ∨ N a)) (hN : ∀ a, N a → N' a) : Its prog w h M' N' b v := by
  cases b with
  | un => exact r
  | own d => exact Rp.sub hs _ _ r
  | mu ds => obtain ⟨a, items, h1, h2, h3, h4, h5⟩ := r; exact ⟨a, items, h1, hN a h2, h3, RpL.sub hs _ _ h4, h5⟩
  | mud D => obtain ⟨a, items, h1, h2, h2', h3, h4, h5⟩ := r; exact ⟨a, items, h1, hN a h2, h2', h3, RpD.sub hs _ _ h4, h5⟩
theorem Its.agr {T : TabS} {h h' : Heap} {M N : Addr → Prop} {b : B} {v : Value} (r : Its prog w h M N b v) (ha : Agr (fun a => M a ∨ N a) h h') (hn : ∀ a o, N a → h.get? a = some o → Gr T h' a o) : Its prog w h' M N b v := by
  cases b with
  | un => exact r
  | own d => exact Rp.agr ha _ _ r
  | mu ds => obtain ⟨a, items, h1, h2, h3, h4, h5⟩ := r; exact ⟨a, items, h1, h2, PL.gr h3 fun o n e => (hn a o h2 e).nt n, RpL.agr ha _ _ h4, h5⟩
  | mud D => obtain ⟨a, items, h1, h2, h2', h3, h4, h5⟩ := r; exact ⟨a, items, h1, h2, h2', Dic.gr h3 fun o n e => (hn a o h2 e).nt n, RpD.agr ha _ _ h4, h5⟩
theorem Its.refN {h : Heap} {M N : Addr → Prop} {b : B} {v : Value} (r : Its prog w h M N b v) (hb : b.isMu) : ∃ a, v = .ref a ∧ N a := by
  cases b with
  | un => cases hb
  | own d => cases hb
  | mu ds => obtain ⟨a, items, h1, h2, _⟩ := r; exact ⟨a, h1, h2⟩
  | mud D => obtain ⟨a, items, h1, h2, _⟩ := r; exact ⟨a, h1, h2⟩

inductive EvIts (G : Gl prog w) (k : Nat) (sc : Scope) (ρ : VEnv) : List Expr → List B → Prop
  | nil : EvIts G k sc ρ [] []
  | cons {e es b bs} : NotStar e → EvIt G k sc ρ e b → EvIts G k sc ρ es bs → EvIts G k sc ρ (e :: es) (b :: bs)

theorem EvIts.run {es : List Expr} {bs : List B} (h : EvIts G k sc ρ es bs) : ∀ {A : Around} {env : Env} {M : Addr → Prop} {s : Shared} {Q : List Value → Shared → Prop} {E : Value → Shared → Prop} {pos : Pos},
    Ok k A → EnvOk sc env → VR G env M ρ s → (∀ vs s' N, Kp G.T s s' → (∀ a, N a → s.heap.get? a = none ∧ ∃ o, s'.heap.get? a = some o) → ItsL prog w s'.heap M N bs vs → Q vs s') → wpAny (model prog w) A (spliced (backTo pos (starEach es env))) Q E s := by
  induction h with
  | nil =>
    intro A env M s Q E pos _ _ _ hQ
    exact Calls.spliced_nil (hQ [] s (fun _ => False) Kp.refl (fun _ h => h.elim) ⟨rfl, fun i b v h => by simp at h, fun i j b c a _ h => by simp at h⟩)
  | cons hn he _ ih =>
    intro A env M s Q E pos ho hv hr hQ
    rw [backTo_cons hn]
    refine Calls.spliced_cons (he A env M s _ _ ho hv hr fun v s1 N1 k1 hN1 r1 => ?_)
    have hr1 := hr.grow k1 (fun a ha => (hN1 a ha).1) fun a ha => (hN1 a ha).2.1
    refine ih ho hv hr1 fun vs s2 N2 k2 hN2 r2 => ?_
    have back : ∀ a, N2 a → s.heap.get? a = none := fun a ha => by
      cases e : s.heap.get? a with
      | none => rfl
      | some o => obtain ⟨_, z⟩ := k1.al e; rw [(hN2 a ha).1] at z; cases z
    have new12 : ∀ a, N1 a → ¬ N2 a := fun a h1 h2 => by obtain ⟨o, e⟩ := (hN1 a h1).2.1; rw [(hN2 a h2).1] at e; cases e
    have r1' : Its prog w s1.heap M (fun a => N1 a ∨ N2 a) _ v := r1.sub (fun a o e q => q.elim .inl fun q => q.elim .inr fun q => by rw [(hN2 a q).1] at e; cases e) (fun a ha => .inl ha)
    refine hQ (v :: vs) s2 (fun a => N1 a ∨ N2 a) (k1.trans k2) (fun a ha => ?_) ⟨by simp [r2.len], fun i b u hb hu => ?_, fun i j b c a hij hb hc mb mc hi hj => ?_⟩
    · rcases ha with ha | ha
      · obtain ⟨o, e⟩ := (hN1 a ha).2.1; exact ⟨(hN1 a ha).1, k2.al e⟩
      · exact ⟨back a ha, (hN2 a ha).2⟩
    · cases i with
      | zero =>
        simp at hb hu; subst hb; subst hu
        exact r1'.agr k2.agr fun a o _ e => k2.tk a o e
      | succ i => exact (r2.each i b u (by simpa using hb) (by simpa using hu)).sub (fun a o e q => q.elim (fun q => .inl (.inl q)) fun q => q.elim (fun q => .inl (.inr q)) .inr) fun a ha => .inr ha
    · cases i with
      | zero =>
        cases j with
        | zero => exact hij rfl
        | succ j =>
          simp at hb hi
          subst hb
          obtain ⟨a1, e1, n1⟩ := r1.refN mb
          obtain ⟨a2, e2, n2⟩ := (r2.each j c _ (by simpa using hc) (by simpa using hj)).refN mc
          rw [hi] at e1; cases e1; cases e2
          exact new12 _ n1 n2
      | succ i =>
        cases j with
        | zero =>
          simp at hc hj
          subst hc
          obtain ⟨a1, e1, n1⟩ := r1.refN mc
          obtain ⟨a2, e2, n2⟩ := (r2.each i b _ (by simpa using hb) (by simpa using hi)).refN mb
          rw [hj] at e1; cases e1; cases e2
          exact new12 _ n1 n2
        | succ j => exact r2.apart i j b c a (by omega) (by simpa using hb) (by simpa using hc) mb mc (by simpa using hi) (by simpa using hj)

theorem ItsL.reverse {h : Heap} {M N : Addr → Prop} {bs : List B} {vs : List Value} (r : ItsL prog w h M N bs vs) : ItsL prog w h M N bs.reverse vs.reverse := by
  have hb : ∀ {i : Nat} {b : B}, bs.reverse[i]? = some b → i < bs.length ∧ bs[bs.length - 1 - i]? = some b := fun {i b} e => by
    have hi : i < bs.length := by have := (List.getElem?_eq_some_iff.mp e).1; simpa using this
    rw [List.getElem?_reverse hi] at e; exact ⟨hi, e⟩
  have hv : ∀ {i : Nat} {v : Value}, vs.reverse[i]? = some v → i < bs.length → vs[bs.length - 1 - i]? = some v := fun {i v} e hi => by
    rw [List.getElem?_reverse (by rw [r.len]; exact hi), r.len] at e; exact e
  refine ⟨by simp [r.len], fun i b v h1 h2 => ?_, fun i j b c a hij h1 h2 m1 m2 h3 h4 => ?_⟩
  · obtain ⟨hi, e⟩ := hb h1
    exact r.each _ b v e (hv h2 hi)
  · obtain ⟨hi, e1⟩ := hb h1
    obtain ⟨hj, e2⟩ := hb h2
    exact r.apart _ _ b c a (by omega) e1 e2 m1 m2 (hv h3 hi) (hv h4 hj)

inductive UpdAll (sc : Scope) : List Str → List B → VEnv → VEnv → Prop
  | nil {r} : UpdAll sc [] [] r r
  | cons {y ys b bs r r1 r'} : OwnName sc y → Upd y b r r1 → UpdAll sc ys bs r1 r' → UpdAll sc (y :: ys) (b :: bs) r r'

inductive Puts (prog : Program) (w : World) (A : Around) (env : Env) : List (Value → Sem Unit) → List Str → Prop
  | nil : Puts prog w A env [] []
  | cons {f fs y ys} : (∀ v s (Q : Unit → Shared → Prop) (E : Value → Shared → Prop), wpAny (model prog w) A (storeName env y v) Q E s → wpAny (model prog w) A (f v) Q E s) → Puts prog w A env fs ys → Puts prog w A env (f :: fs) (y :: ys)

theorem St.stores {A : Around} {env : Env} {M0 L Wc Z N : Addr → Prop} {s0 : Shared} (hv : EnvOk sc env) : ∀ {ys : List Str} {bs : List B} {ρ ρ' : VEnv}, UpdAll sc ys bs ρ ρ' → ∀ {fs : List (Value → Sem Unit)} {vs : List Value} {s : Shared} {Q : Unit → Shared → Prop} {E : Value → Shared → Prop}, Puts prog w A env fs ys →
    St G sc env M0 L Wc (fun a => Z a ∨ N a) s0 ρ s → ItsL prog w s.heap (MM M0 Wc Z L) N bs vs → (∀ (i : Nat) b a, bs[i]? = some b → b.isMu → vs[i]? = some (.ref a) → ∀ x c, (x, c) ∈ ρ → c.isMu → ¬ Acc env s.heap x (.ref a)) →
    (∀ s', KB G.T Wc s s' → St G sc env M0 L Wc (fun a => Z a ∨ N a) s0 ρ' s' → Q () s') → wpAny (model prog w) A (assignInOrder fs vs) Q E s := by
  intro ys bs ρ ρ' hu
  induction hu with
  | nil =>
    intro fs vs s Q E hp t hi hno hQ
    cases hp
    exact assignInOrder_nil (hQ s KB.refl t)
  | @cons y ys b bs ρ ρ1 ρ' hy hu _ ih =>
    intro fs vs s Q E hp t hi hno hQ
    cases hp with
    | cons hf hp =>
    cases vs with
    | nil => have := hi.len; simp at this
    | cons v vs =>
    have h0 := hi.each 0 b v rfl rfl
    refine assignInOrder_cons (hf v s _ _ (t.putZ hv hy hu h0 (fun hb a hva x c hx hc _ => hno 0 b a rfl hb (by rw [hva]; rfl) x c hx hc) fun s1 k1 t1 hacc hold => ?_))
    have hag : Agr (fun a => MM M0 Wc Z L a ∨ N a) s.heap s1.heap := by rw [MM_add]; exact t.agrW k1
    refine ih hp t1 ⟨by have := hi.len; simpa using this, fun i c u h1 h2 => (hi.each (i + 1) c u (by simpa using h1) (by simpa using h2)).agr hag fun a o ha e => k1.tk a o (t.zw a (.inr ha)) e, fun i j b' c a hij h1 h2 => hi.apart (i + 1) (j + 1) b' c a (by omega) (by simpa using h1) (by simpa using h2)⟩
      (fun i c a h1 hm h2 x c' hx hc' hacc' => ?_) fun s2 k2 t2 => hQ s2 (k1.trans k2) t2
    rcases hu.ent t.fm.vr.nd x c' hx with ⟨rfl, rfl⟩ | ⟨hne, hx⟩
    · have := hacc.det hacc'
      exact hi.apart 0 (i + 1) c' c a (by omega) rfl (by simpa using h1) hc' hm (by rw [this]; rfl) (by simpa using h2)
    · exact hno (i + 1) c a (by simpa using h1) hm (by simpa using h2) x c' hx hc' (t.fm.back hx hc' (fun u => hold x u hne) hacc')

/-- targets that are names -/
inductive Names : List Expr → List Str → Prop
  | nil : Names [] []
  | cons {y p ts ys} : Names ts ys → Names (.Name y p :: ts) (y :: ys)

theorem Names.puts {A : Around} {env : Env} {ts : List Expr} {ys : List Str} (h : Names ts ys) : Puts prog w A env ((assignEach ts env).map (·.2)) ys ∧ (assignEach ts env).length = ts.length ∧ (assignEach ts env).findIdx? (·.1) = none ∧ ts.length = ys.length := by
  induction h with
  | nil => exact ⟨.nil, rfl, rfl, rfl⟩
  | @cons y p ts ys _ ih =>
    have e : assignEach (.Name y p :: ts) env = (false, assign (.Name y p) env) :: assignEach ts env := rfl
    rw [e]
    refine ⟨.cons (fun v s Q E h => wpAny_assign_Name h) ih.1, by simp [ih.2.1], by rw [List.findIdx?_cons]; simp [ih.2.2.1], by simp [ih.2.2.2]⟩
theorem puts_bind {A : Around} {env : Env} : ∀ ys : List Str, Puts prog w A env (ys.map fun n => bindName env n) ys
  | [] => .nil
  | y :: ys => .cons (fun v s Q E h => wpAny_bindName h) (puts_bind ys)

theorem UpdAll.len {ys : List Str} {bs : List B} {ρ ρ' : VEnv} (h : UpdAll sc ys bs ρ ρ') : ys.length = bs.length := by
  induction h with
  | nil => rfl
  | cons _ _ _ ih => simp [ih]

theorem tup_core {A : Around} {env : Env} {M0 L Wc Z : Addr → Prop} {s0 s : Shared} {es : List Expr} {bs : List B} {c : Nat} {pos : Pos} {Q : Value → Shared → Prop} {E : Value → Shared → Prop} (ho : Ok k A) (hv : EnvOk sc env) (t : St G sc env M0 L Wc Z s0 ρ s) (he : EvIts G k sc ρ es bs) (hl : bs.length ≤ lid)
    (hQ : ∀ N s1 T items, (∀ a, N a → s.heap.get? a = none) → Kp G.T s s1 → St G sc env M0 L Wc (fun a => Z a ∨ N a) s0 ρ s1 → s1.heap.IsTuple T items → ItsL prog w s1.heap (MM M0 Wc Z L) N bs items.toList → (∀ (i : Nat) b a, bs[i]? = some b → b.isMu → items.toList[i]? = some (.ref a) → ∀ x c, (x, c) ∈ ρ → c.isMu → ¬ Acc env s1.heap x (.ref a)) → Q (.ref T) s1) :
    wpAny (model prog w) A (eval (.Tuple es c pos) env) Q E s := by
  refine Tuple_ (he.run ho hv t.fm.vr fun vs s1 N k1 hN r1 => ?_)
  refine wpAny_newObj_type ?_ (by show vs.toArray.size ≤ sizeLine; rw [List.size_toArray, r1.len]; exact Nat.le_trans hl lid_le)
  have k2 : Kp G.T s1 { s1 with heap := s1.heap.push { cls := .type "tuple", dict := none, data := .seq vs.toArray } } := Kp.push _ s1.toks
  refine hQ N _ _ vs.toArray (fun a ha => (hN a ha).1) (k1.trans k2) ((t.addZ k1 (fun a ha => (hN a ha).1) fun a ha => (hN a ha).2).keeps k2) ⟨_, Heap.get?_push_size _ rfl, rfl, _, rfl⟩ ?_ ?_
  · exact ⟨by simpa using r1.len, fun i b v h1 h2 => (r1.each i b v h1 (by simpa using h2)).agr k2.agr fun a o _ e => k2.tk a o e, fun i j b c a hij h1 h2 m1 m2 h3 h4 => r1.apart i j b c a hij h1 h2 m1 m2 (by simpa using h3) (by simpa using h4)⟩
  · intro i b a h1 hm h2 x c hx hc
    obtain ⟨a', e, hn⟩ := (r1.each i b _ h1 (by simpa using h2)).refN hm
    cases e
    exact t.noNew (k1.trans k2) (fun a ha => (hN a ha).1) hn x c hx hc

/-- (y1, ..) = (e1, ..), stored in order -/
theorem Step.tup {ts es : List Expr} {c c' : Nat} {p p' pos : Pos} {ys : List Str} {bs : List B} (he : EvIts G k sc ρ es bs) (hts : Names ts ys) (hu : UpdAll sc ys bs ρ ρ') (hk : sc.kind = .function) (hw : swappedStores [.Tuple ts c p] (.Tuple es c' p') (envOf sc) = pure none) (hl : bs.length ≤ lid) :
    Step G k sc ρ (.Assign [.Tuple ts c p] (.Tuple es c' p') pos) ρ' := by
  intro A env M0 L Wc Z s0 s Q E ho hv t hQ
  refine Assign_Tuple (tup_core ho hv t he hl fun N s1 T items hN k1 t1 hT hi hno => ?_) rfl ((swapped_of hv hk _ _).trans hw)
  obtain ⟨hp, h1, h2, h3⟩ := hts.puts (prog := prog) (w := w) (A := A) (env := env)
  have hlen := hi.len
  refine wpAny_assign_Tuple ho.hh hT (by rw [h1, h3, hu.len, ← hlen]; simp) h2 fun h' hx => ?_
  have k2 : Kp G.T s1 { s1 with heap := h' } := Kp.mk' fun b o e => hx b o (Nat.ne_of_lt (Heap.lt_size e)) e
  refine St.stores hv hu hp (t1.keeps k2) ⟨hi.len, fun i b v h1 h2 => (hi.each i b v h1 h2).agr k2.agr fun a o _ e => k2.tk a o e, hi.apart⟩ (fun i b a h1 hm h2 x c hx' hc q => ?_) fun s3 k3 t3 => hQ _ s3 t3 ((Ch.addN (k1.trans k2) hN).trans (Ch.ofW t3 k3))
  exact hno i b a h1 hm h2 x c hx' hc (t1.fm.back hx' hc (fun u a => a.keeps k2.nt) q)

/-- (y1, ..) = (e1, ..), stored backwards -/
theorem Step.tupSw {ts es : List Expr} {c c' : Nat} {p p' pos : Pos} {ys : List Str} {bs : List B} (he : EvIts G k sc ρ es bs) (hu : UpdAll sc ys.reverse bs.reverse ρ ρ') (hk : sc.kind = .function) (hw : swappedStores [.Tuple ts c p] (.Tuple es c' p') (envOf sc) = pure (some ys)) (hl : bs.length ≤ lid) :
    Step G k sc ρ (.Assign [.Tuple ts c p] (.Tuple es c' p') pos) ρ' := by
  intro A env M0 L Wc Z s0 s Q E ho hv t hQ
  refine Assign_Tuple_swapped (tup_core ho hv t he hl fun N s1 T items hN k1 t1 hT hi hno => ?_) rfl ((swapped_of hv hk _ _).trans hw)
  have hlen := hi.len
  have hul := hu.len
  simp only [List.length_reverse] at hul
  have hys : ys.length = items.size := by rw [hul, ← hlen]; simp
  rw [hys]
  refine wpAny_unpackItems_tuple ho.hh hT fun h' hx => ?_
  have k2 : Kp G.T s1 { s1 with heap := h' } := Kp.mk' fun b o e => hx b o (Nat.ne_of_lt (Heap.lt_size e)) e
  have hi2 : ItsL prog w h' (MM M0 Wc Z L) N bs items.toList := ⟨hi.len, fun i b v h1 h2 => (hi.each i b v h1 h2).agr k2.agr fun a o _ e => k2.tk a o e, hi.apart⟩
  refine St.stores hv hu (puts_bind _) (t1.keeps k2) hi2.reverse (fun i b a h1 hm h2 x c hx' hc q => ?_) fun s3 k3 t3 => hQ _ s3 t3 ((Ch.addN (k1.trans k2) hN).trans (Ch.ofW t3 k3))
  have hil : i < bs.length := by have := (List.getElem?_eq_some_iff.mp h1).1; simpa using this
  rw [List.getElem?_reverse hil] at h1
  rw [List.getElem?_reverse (by rw [hlen]; exact hil), hlen] at h2
  exact hno _ b a h1 hm h2 x c hx' hc (t1.fm.back hx' hc (fun u a => a.keeps k2.nt) q)
end
end Mine
end
section
open PySem PyProof.Rows
open PySem.Builtin.Str (partsBetween occurrences strKind tooLong)
set_option Elab.async false
set_option linter.unusedVariables false
namespace Mine
section
variable {prog : Program} {w : World} {G : Gl prog w} {k : Nat} {sc csc : Scope} {ρ ρ' ρc : VEnv}

/-- o.name(es) -/
theorem method_any {A : Around} {env : Env} {M : Addr → Prop} {s : Shared} {o : Expr} {T : String} {name : Str} {id : String} {apos pos : Pos} {es : List Expr} {ds : List PyData} {Q : Value → Shared → Prop} {E : Value → Shared → Prop}
    (ho : Ok k A) (hv : EnvOk sc env) (hr : VR G env M ρ s) (hbase : ∀ env, attributeBase o name env (eval o env) = eval o env) (pa : PlainAttrs T) (slot : Slot T name id) (hty : typeOf (.builtin id) = pure (.type "method_descriptor"))
    (he : EvAll G k sc ρ es ds) (hfew : es.length < 20) (hline : (apos.endLine == pos.line) = true)
    (h : wpAny (model prog w) A (eval o env) (fun ov s1 => Kp G.T s s1 ∧ s1.TypeIs ov T ∧ (∀ a, ov = .ref a → ∃ ob, s1.heap.get? a = some ob ∧ ob.dict = none) ∧ ∀ vs s2, Kp G.T s1 s2 → RpL prog w s2.heap M ds vs → wpAny (model prog w) A (call (.builtin id) (ov :: vs)) Q E s2) E s) :
    wpAny (model prog w) A (eval (.Call (.Attribute o name apos) es [] pos) env) Q E s := by
  have hns : ∀ {es : List Expr} {ds : List PyData}, EvAll G k sc ρ es ds → (backTo pos (starEach es env)).all (fun x => !x.1) = true := by
    intro es ds he
    have := noStar_any he pos env
    rw [List.any_eq_false] at this
    rw [List.all_eq_true]
    intro y hy
    simpa using this y hy
  refine wpAny_Call_method_lateS (hbase env) ?_ hline (wpAny_mono h (fun ov s1 h1 => ?_) fun _ _ z => z)
  · rw [hns he]
    show (true && decide (es.length + 0 + 0 < 30)) = true
    simp; lia
  · obtain ⟨k1, hT, hd, hc⟩ := h1
    refine ⟨T, id, pa, slot, hty, hT, hd, ?_⟩
    cases he with
    | nil => exact callWith_method0 (by simpa using hc [] s1 Kp.refl RpL.nil)
    | cons hn h1 hr' =>
      refine callWith_method1 (EvAll.run (.cons hn h1 hr') ho hv (hr.keeps k1) fun vs s2 k2 r2 => ?_) (hn _ _) ?_
      · simpa using hc vs s2 k2 r2
      · exact noStar_any hr' pos env

theorem EvTo.methS {o : Expr} {x : Str} {name : Str} {id : String} {apos pos : Pos} {es : List Expr} {ds : List PyData} {d : PyData} (ho : EvTo G k sc ρ o (.str x)) (hbase : ∀ env, attributeBase o name env (eval o env) = eval o env) (slot : Slot "str" name id) (hty : typeOf (.builtin id) = pure (.type "method_descriptor"))
    (he : EvAll G k sc ρ es ds) (hfew : es.length < 20) (hline : (apos.endLine == pos.line) = true)
    (hc : ∀ (A : Around) (M : Addr → Prop) (s : Shared) (t : Tok) (vs : List Value) (Q : Value → Shared → Prop) (E : Value → Shared → Prop), Ok k A → (∀ a, M a → ∃ o, s.heap.get? a = some o) → RpL prog w s.heap M ds vs →
      (∀ v s', Kp G.T s s' → Rp prog w s'.heap M d v → Q v s') → wpAny (model prog w) A (call (.builtin id) (.str x t :: vs)) Q E s) : EvTo G k sc ρ (.Call (.Attribute o name apos) es [] pos) d := by
  intro A env M s Q E hok hv hr hQ
  refine method_any hok hv hr hbase PySem.F.plainAttrs_str slot hty he hfew hline (ho A env M s _ _ hok hv hr fun v s1 k1 r1 => ?_)
  simp only [Rp] at r1
  obtain ⟨t, rfl⟩ := r1
  refine ⟨k1, typeIs_str _ _ _, (fun _ q => nomatch q), fun vs s2 k2 r2 => ?_⟩
  exact hc A M s2 t vs Q E hok (hr.keeps (k1.trans k2)).dom r2 fun v s3 k3 r3 => hQ v s3 ((k1.trans k2).trans k3) r3

theorem EvTo.startswith {o e : Expr} {x y : Str} {apos pos : Pos} (ho : EvTo G k sc ρ o (.str x)) (hbase : ∀ env, attributeBase o "startswith" env (eval o env) = eval o env) (he : EvTo G k sc ρ e (.str y)) (hn : NotStar e) (hline : (apos.endLine == pos.line) = true) :
    EvTo G k sc ρ (.Call (.Attribute o "startswith" apos) [e] [] pos) (.bool (Txt.startswith x y)) :=
  EvTo.methS ho hbase PySem.F.slot_str_startswith PySem.F.type_str_startswith (.cons hn he .nil) (by simp) hline fun A M s t vs Q E hok hd r hQ => by
    obtain ⟨v, rfl, r1⟩ := r.one
    simp only [Rp] at r1
    obtain ⟨u, rfl⟩ := r1
    exact call_gives PySem.F.slot_str_startswith (typeIs_str _ _ _) PySem.F.entry_str_startswith (PySem.F.args_str_startswith_2 _ _) (gives_str_startswith x y t u) (hQ _ _ Kp.refl (by simp only [Rp]; rfl))
theorem EvTo.endswith {o e : Expr} {x y : Str} {apos pos : Pos} (ho : EvTo G k sc ρ o (.str x)) (hbase : ∀ env, attributeBase o "endswith" env (eval o env) = eval o env) (he : EvTo G k sc ρ e (.str y)) (hn : NotStar e) (hline : (apos.endLine == pos.line) = true) :
    EvTo G k sc ρ (.Call (.Attribute o "endswith" apos) [e] [] pos) (.bool (Txt.endswith x y)) :=
  EvTo.methS ho hbase PySem.F.slot_str_endswith PySem.F.type_str_endswith (.cons hn he .nil) (by simp) hline fun A M s t vs Q E hok hd r hQ => by
    obtain ⟨v, rfl, r1⟩ := r.one
    simp only [Rp] at r1
    obtain ⟨u, rfl⟩ := r1
    exact call_gives PySem.F.slot_str_endswith (typeIs_str _ _ _) PySem.F.entry_str_endswith (PySem.F.args_str_endswith_2 _ _) (gives_str_endswith x y t u) (hQ _ _ Kp.refl (by simp only [Rp]; rfl))
theorem EvTo.lower {o : Expr} {x : Str} {apos pos : Pos} (ho : EvTo G k sc ρ o (.str x)) (hbase : ∀ env, attributeBase o "lower" env (eval o env) = eval o env) (hline : (apos.endLine == pos.line) = true) (hfit : tooLong (Txt.lower x).length = false) :
    EvTo G k sc ρ (.Call (.Attribute o "lower" apos) [] [] pos) (.str (Txt.lower x)) :=
  EvTo.methS ho hbase PySem.F.slot_str_lower PySem.F.type_str_lower .nil (by simp) hline fun A M s t vs Q E hok hd r hQ => by
    simp only [RpL] at r
    subst r
    exact call_gives PySem.F.slot_str_lower (typeIs_str _ _ _) PySem.F.entry_str_lower (PySem.F.args_str_lower_1 _) (gives_str_lower x t hfit) ⟨fit_le hfit, hQ _ _ (Kp.tok _) (by simp only [Rp]; exact ⟨_, rfl⟩)⟩

theorem strs_rp {h : Heap} {M : Addr → Prop} : ∀ {ts : List Str} {vs : List Value}, RpL prog w h M (ts.map .str) vs → ∃ l : List (Str × Tok), vs = strValues l ∧ l.map (·.1) = ts
  | [], vs, r => by simp only [List.map_nil, RpL] at r; subst r; exact ⟨[], rfl, rfl⟩
  | x :: ts, vs, r => by
    simp only [List.map_cons, RpL, Rp] at r
    obtain ⟨v, q, rfl, ⟨t, rfl⟩, r2⟩ := r
    obtain ⟨l, rfl, h2⟩ := strs_rp r2
    exact ⟨(x, t) :: l, rfl, by simp [h2]⟩
theorem strs_rp' {h : Heap} {M : Addr → Prop} : ∀ (l : List (Str × Tok)), RpL prog w h M ((l.map (·.1)).map .str) (strValues l)
  | [] => RpL.nil
  | (x, t) :: l => RpL.cons (by simp [Rp]) (strs_rp' l)

/-- sep.join(list of texts) -/
theorem EvTo.join {o e : Expr} {sep : Str} {ts : List Str} {apos pos : Pos} (ho : EvTo G k sc ρ o (.str sep)) (hbase : ∀ env, attributeBase o "join" env (eval o env) = eval o env) (he : EvTo G k sc ρ e (.list (ts.map .str))) (hn : NotStar e) (hline : (apos.endLine == pos.line) = true) (hok' : JoinOk sep ts = true) :
    EvTo G k sc ρ (.Call (.Attribute o "join" apos) [e] [] pos) (.str (Txt.join sep ts)) :=
  EvTo.methS ho hbase PySem.F.slot_str_join PySem.F.type_str_join (.cons hn he .nil) (by simp) hline fun A M s t vs Q E hok hd r hQ => by
    obtain ⟨v, rfl, r1⟩ := r.one
    simp only [Rp] at r1
    obtain ⟨a, items, rfl, _, hp, r1, hb⟩ := r1
    obtain ⟨l, hl, rfl⟩ := strs_rp r1
    have hp' : s.heap.PlainList a (strValues l).toArray := by rw [← hl]; simpa using hp
    have hj : tooLong ((l.map (·.1)).toArray.foldl (· + ·.length + sep.length) 0) = false := by
      unfold JoinOk at hok'; rwa [Bool.not_eq_true'] at hok'
    refine call_meets PySem.F.slot_str_join (typeIs_str _ _ _) PySem.F.entry_str_join (PySem.F.args_str_join_2 _ _) (meets_str_join_list sep t a l hj) ⟨hp'.isList, post_join l ⟨joinOk_length hok', fun t' kk => hQ _ _ (Kp.tok _) (by simp [Rp])⟩⟩

/-- a list just laid -/
theorem its_push {M : Addr → Prop} {s0 s : Shared} {ds : List PyData} {vs : List Value} {tk : Nat} (k : Kp G.T s0 s) (hr : RpL prog w s.heap M ds vs) (hl : ds.length ≤ lid) {Q : Value → Shared → Prop}
    (hQ : ∀ v s' N, Kp G.T s0 s' → (∀ a, N a → s0.heap.get? a = none ∧ (∃ o, s'.heap.get? a = some o) ∧ v = .ref a) → Its prog w s'.heap M N (.mu ds) v → Q v s') :
    Q (.ref s.heap.objs.size) { s with heap := s.heap.push { cls := .type "list", data := .seq vs.toArray }, toks := tk } := by
  have hn : s.heap.get? s.heap.objs.size = none := fresh_none (Nat.le_refl _)
  have hp : (s.heap.push { cls := .type "list", data := .seq vs.toArray }).get? s.heap.objs.size = some { cls := .type "list", data := .seq vs.toArray } := Heap.get?_push_size _ rfl
  refine hQ _ _ (· = s.heap.objs.size) (k.trans (Kp.push _ tk)) (fun a ha => ?_) ⟨_, vs.toArray, rfl, rfl, ⟨_, hp⟩, ?_, hl⟩
  · subst ha
    refine ⟨?_, ⟨_, hp⟩, rfl⟩
    cases e : s0.heap.get? s.heap.objs.size with
    | none => rfl
    | some o => obtain ⟨_, z⟩ := k.al e; rw [hn] at z; cases z
  · refine RpL.agr Agr.push _ _ (RpL.sub (fun a o e q => q.elim id fun q => ?_) _ _ hr)
    rw [q, hn] at e; cases e

/-- text.split(sep) -/
theorem EvIt.split {o e : Expr} {x y : Str} {apos pos : Pos} (ho : EvTo G k sc ρ o (.str x)) (hbase : ∀ env, attributeBase o "split" env (eval o env) = eval o env) (he : EvTo G k sc ρ e (.str y)) (hn : NotStar e) (hline : (apos.endLine == pos.line) = true) (hy : (y.length == 0) = false) (hx : x.length ≤ sizeLine)
    (hn2 : (partsBetween x (occurrences x y 0 x.length (x.length + 1)) y.length).length ≤ sizeLine) (hl : (Txt.split x y).length ≤ lid) :
    EvIt G k sc ρ (.Call (.Attribute o "split" apos) [e] [] pos) (.mu ((Txt.split x y).map .str)) := by
  intro A env M s Q E hok hv hr hQ
  refine method_any hok hv hr hbase PySem.F.plainAttrs_str PySem.F.slot_str_split PySem.F.type_str_split (.cons hn he .nil) (by simp) hline (ho A env M s _ _ hok hv hr fun v s1 k1 r1 => ?_)
  simp only [Rp] at r1
  obtain ⟨t, rfl⟩ := r1
  refine ⟨k1, typeIs_str _ _ _, (fun _ q => nomatch q), fun vs s2 k2 r2 => ?_⟩
  obtain ⟨v, rfl, r⟩ := r2.one
  simp only [Rp] at r
  obtain ⟨u, rfl⟩ := r
  have fin : ∀ (l : List (Str × Tok)) (tk : Nat), l.map (·.1) = Txt.split x y → Q (.ref s2.heap.objs.size) { s2 with heap := s2.heap.push { cls := .type "list", data := .seq (strValues l).toArray }, toks := tk } := fun l tk hlm => by
    refine its_push (ds := (Txt.split x y).map .str) (k1.trans k2) (by rw [← hlm]; exact strs_rp' l) (by simpa using hl) hQ
  cases h1 : (decide (x.length < y.length) || decide (strKind x < strKind y))
  · cases hf : (occurrences x y 0 x.length (x.length + 1)).isEmpty
    · refine call_meets PySem.F.slot_str_split (typeIs_str _ _ _) PySem.F.entry_str_split (PySem.F.args_str_split_2 _ _) (meets_str_split_sep x y t u h1 hy hf hx hn2) ?_
      show Q _ _
      rw [strsFrom_eq]
      exact fin (numbered s2.toks _) _ ((numbered_texts _ _).trans ((if_neg (ne_true_of_eq_false h1)).trans (if_neg (ne_true_of_eq_false hf))).symm)
    · exact call_meets PySem.F.slot_str_split (typeIs_str _ _ _) PySem.F.entry_str_split (PySem.F.args_str_split_2 _ _) (meets_str_split_not_found x y t u h1 hy hf) (fin [(x, t)] s2.toks ((if_neg (ne_true_of_eq_false h1)).trans (if_pos hf)).symm)
  · exact call_meets PySem.F.slot_str_split (typeIs_str _ _ _) PySem.F.entry_str_split (PySem.F.args_str_split_2 _ _) (meets_str_split_cannot_occur x y t u h1) (fin [(x, t)] s2.toks (if_pos h1).symm)

/-- text[l:u] -/
theorem EvTo.sliceS {e : Expr} {l u : Option Expr} {p pos : Pos} {x : Str} {lo hi : Option Int} (he : EvTo G k sc ρ e (.str x)) (hl : PartTo G k sc ρ l lo) (hu : PartTo G k sc ρ u hi) (hsz : x.length ≤ sizeLine)
    (ht : ∀ o r, letTemporaryGo e o r = pure ()) : EvTo G k sc ρ (.Subscript e (.Slice l u none p) pos) (.str (Txt.slice x lo hi)) := by
  intro A env M s Q E ho hv hr hQ
  refine wpAny_Subscript_str_slice (he A env M s _ _ ho hv hr fun v s1 k1 r1 => hl.run ho hv (hr.keeps k1) fun vl s2 k2 p2 => hu.run ho hv (hr.keeps (k1.trans k2)) fun vu s3 k3 p3 => ?_) ht
  simp only [Rp] at r1
  obtain ⟨t, rfl⟩ := r1
  have part : ∀ {v : Value} {n : Option Int}, IsPart v n → ∃ q : Option (Int × Tok), v = partValue q ∧ q.map (·.1) = n := fun h => by
    cases h with
    | none => exact ⟨none, rfl, rfl⟩
    | int i t => exact ⟨some (i, t), rfl, rfl⟩
  obtain ⟨q1, e1, f1⟩ := part p2
  obtain ⟨q2, e2, f2⟩ := part p3
  refine ⟨x, t, q1, q2, rfl, e1, e2, ?_⟩
  have key := post_val_or_str (s := { s3 with heap := s3.heap.push { cls := .type "slice", data := .fields #[vl, vu, .none] } }) (c := ((1 : Int) == 1 && (Builtin.Str.strSliceIndices lo hi 1 x.length).length == x.length) = true) (y := x) (z := ⟨((Builtin.Str.strSliceIndices lo hi 1 x.length).filterMap (x.cps[·]?)).toArray⟩) (t := t) (Q := Q)
    ⟨Nat.le_trans (Txt.slice_le x lo hi) hsz, fun t' kk => hQ (.str (Txt.slice x lo hi) t') _ ((k1.trans (k2.trans k3)).trans (Kp.push _ kk)) (by simp [Rp])⟩
  unfold sliceMade slicePicked
  rw [f1, f2]
  exact key

/-- list + list -/
theorem EvTo.catL {l r : Expr} {pos : Pos} {ds es : List PyData} (ha : EvL G k sc ρ l ds) (hb : EvL G k sc ρ r es) (hsz : (ds ++ es).length ≤ lid) : EvTo G k sc ρ (.BinOp l .Add r pos) (.list (ds ++ es)) := by
  intro A env M s Q E ho hv hr hQ
  refine wpAny_BinOp (ha A env M s _ _ ho hv hr fun a items s1 k1 h1 r1 b1 => hb A env M s1 _ _ ho hv (hr.keeps k1) fun b items2 s2 k2 h2 r2 b2 => ?_)
  obtain ⟨n1, e1⟩ := PL.gr h1 (k2.nt _)
  obtain ⟨n2, e2⟩ := h2
  have l1 : items.size = ds.length := by simpa using r1.length
  have l2 : items2.size = es.length := by simpa using r2.length
  rw [List.length_append] at hsz
  refine concat_meets ⟨_, e1, rfl⟩ ⟨_, e2, rfl⟩ noFill_list_add seq_list_add PySem.F.slot_list_add PySem.F.entry_list_add (PySem.F.args_list_add_2 _ _) (list_addW a b items items2 _ _ none none #[] #[] (by rw [l1, l2]; exact Nat.le_trans hsz lid_le)) ⟨e1, e2, ?_⟩
  have kk : Kp G.T s2 { s2 with heap := s2.heap.push { cls := .type "list", data := .seq (items ++ items2) }, toks := s2.toks } := Kp.push _ s2.toks
  refine hQ _ _ ((k1.trans k2).trans kk) ?_
  simp only [Rp]
  refine ⟨_, items ++ items2, rfl, not_M ((hr.keeps (k1.trans k2))).dom (fresh_none (Nat.le_refl _)), ⟨_, Heap.get?_push_size _ rfl⟩, ?_, by rw [List.length_append]; exact hsz⟩
  rw [Array.toList_append]
  exact RpL.append (RpL.agr (k2.trans kk).agr _ _ r1) (RpL.agr kk.agr _ _ r2)

/-- a if c else b -/
theorem EvTo.ite {c a b : Expr} {pos : Pos} {t : Bool} {d : PyData} (hc : TrTo G k sc ρ c t) (h1 : t = true → EvTo G k sc ρ a d) (h2 : t = false → EvTo G k sc ρ b d) : EvTo G k sc ρ (.IfExp c a b pos) d := by
  intro A env M s Q E ho hv hr hQ
  refine IfExp_ (hc A env M s _ _ ho hv hr fun s1 k1 => ?_)
  cases t with
  | true => simp only [if_true]; exact h1 rfl A env M s1 Q E ho hv (hr.keeps k1) fun v s2 k2 r2 => hQ v s2 (k1.trans k2) r2
  | false => simp only [Bool.false_eq_true, if_false]; exact h2 rfl A env M s1 Q E ho hv (hr.keeps k1) fun v s2 k2 r2 => hQ v s2 (k1.trans k2) r2

/-- i.bit_length() -/
theorem EvTo.bitLen {o : Expr} {i : Int} {apos pos : Pos} (ho : EvTo G k sc ρ o (.int i)) (hbase : ∀ env, attributeBase o "bit_length" env (eval o env) = eval o env) (hline : (apos.endLine == pos.line) = true) :
    EvTo G k sc ρ (.Call (.Attribute o "bit_length" apos) [] [] pos) (.int (Builtin.Int.intBits i)) := by
  intro A env M s Q E hok hv hr hQ
  refine method_any hok hv hr hbase PySem.F.plainAttrs_int PySem.F.slot_int_bit_length PySem.F.type_int_bit_length .nil (by simp) hline (ho A env M s _ _ hok hv hr fun v s1 k1 r1 => ?_)
  simp only [Rp] at r1
  obtain ⟨t, rfl⟩ := r1
  refine ⟨k1, rfl, (fun _ q => nomatch q), fun vs s2 k2 r2 => ?_⟩
  simp only [RpL] at r2
  subst r2
  exact call_int_bit_length (hQ _ _ ((k1.trans k2).trans (Kp.tok _)) (by simp [Rp]))

/-! ## membership -/
theorem CmpOk.isnNone {d : PyData} (h : (∃ x, d = .str x) ∨ d = .none) : CmpOk G k .IsNot d .none (match d with | .none => false | _ => true) := by
  intro A M s u v Q E ho r1 r2 hQ
  simp only [Rp] at r2
  subst r2
  rcases h with ⟨x, rfl⟩ | rfl
  · simp only [Rp] at r1; obtain ⟨t, rfl⟩ := r1; exact isnot_str_none (hQ _ Kp.refl)
  · simp only [Rp] at r1; subst r1; exact isnot_none_none (hQ _ Kp.refl)
end
end Mine
end
section
open PySem PyProof.Rows
open PySem.Builtin.Str (partsBetween occurrences strKind tooLong)
set_option Elab.async false
set_option linter.unusedVariables false
namespace Mine
section
variable {prog : Program} {w : World} {G : Gl prog w} {k : Nat} {sc csc : Scope} {ρ ρ' ρc : VEnv}

/-- the place of y in x[i:j] -/
noncomputable def findIn (x y : Str) (i j : Int) : Int := match occurrences x y (fromIndex x.length i) (min (fromIndex x.length j) x.length) 1 with | k :: _ => (k : Int) | [] => -1

theorem gives_find4 (x y : Str) (i j : Int) (t u v v' : Tok) : Gives (Builtin.«str.find» ⟨[.str x t, .str y u, .int i v, .int j v'], []⟩) (.int (findIn x y i j)) := by
  unfold findIn
  show Gives (match occurrences x y (fromIndex x.length i) (min (fromIndex x.length j) x.length) 1 with | k :: _ => PySem.retInt k | [] => (do rule "str.find.not-found"; PySem.retInt (-1))) _
  cases occurrences x y (fromIndex x.length i) (min (fromIndex x.length j) x.length) 1 with
  | nil => exact .rule (.of_eq rfl)
  | cons k _ => exact .of_eq rfl

theorem EvTo.find {o e1 e2 e3 : Expr} {x y : Str} {i j : Int} {apos pos : Pos} (ho : EvTo G k sc ρ o (.str x)) (hbase : ∀ env, attributeBase o "find" env (eval o env) = eval o env) (h1 : EvTo G k sc ρ e1 (.str y)) (h2 : EvTo G k sc ρ e2 (.int i)) (h3 : EvTo G k sc ρ e3 (.int j))
    (n1 : NotStar e1) (n2 : NotStar e2) (n3 : NotStar e3) (hline : (apos.endLine == pos.line) = true) :
    EvTo G k sc ρ (.Call (.Attribute o "find" apos) [e1, e2, e3] [] pos) (.int (findIn x y i j)) :=
  EvTo.methS ho hbase PySem.F.slot_str_find PySem.F.type_str_find (.cons n1 h1 (.cons n2 h2 (.cons n3 h3 .nil))) (by simp) hline fun A M s t vs Q E hok hd r hQ => by
    obtain ⟨a, b, c, rfl, r1, r2, r3⟩ := r.three
    simp only [Rp] at r1 r2 r3
    obtain ⟨u, rfl⟩ := r1
    obtain ⟨v, rfl⟩ := r2
    obtain ⟨v', rfl⟩ := r3
    exact call_gives PySem.F.slot_str_find (typeIs_str _ _ _) PySem.F.entry_str_find (PySem.F.args_str_find_4 _ _ _ _) (gives_find4 x y i j t u v v') (hQ _ _ (Kp.tok _) (by simp only [Rp]; exact ⟨_, rfl⟩))

theorem preSum_list (ns : List Int) : ∀ j, preSum (fun i => ns.getD i 0) j = (ns.take j).sum
  | 0 => by simp [preSum]
  | j + 1 => by
    rw [preSum, preSum_list ns j, List.take_add_one, List.sum_append]
    cases h : ns[j]? with
    | none => simp [List.getD, h]
    | some x => simp [List.getD, h]

theorem ints_rp {h : Heap} {M : Addr → Prop} {ns : List Int} {vs : List Value} (r : RpL prog w h M (ns.map .int) vs) {i : Nat} {v : Value} (hv : vs[i]? = some v) : ∃ t, v = .int (ns.getD i 0) t := by
  have hl := r.length
  have hi : i < ns.length := by have := (List.getElem?_eq_some_iff.mp hv).1; simpa [hl] using this
  have := r.of_get (i := i) (d := .int ns[i]) (by simp [hi]) hv
  simp only [Rp] at this
  obtain ⟨t, rfl⟩ := this
  exact ⟨t, by simp [List.getD, hi]⟩

/-- sum(list of ints) -/
theorem EvTo.sum {x : Str} {p pos : Pos} {e : Expr} {ns : List Int} (hx : sc.names.lookup x = some .globalImplicit) (hm : G.mg x = none) (hb : G.mb x = some (.builtin "sum")) (he : EvTo G k sc ρ e (.list (ns.map .int))) (hn : NotStar e) :
    EvTo G k sc ρ (.Call (.Name x p) [e] [] pos) (.int ns.sum) :=
  EvTo.blt hx hm hb (.cons hn he .nil) fun A M s vs Q E ho hd r _ hQ => by
    obtain ⟨v, rfl, r1⟩ := r.one
    simp only [Rp] at r1
    obtain ⟨a, items, rfl, hM, hl, rr, hbd⟩ := r1
    have hal : a < s.heap.objs.size := by obtain ⟨_, e⟩ := hl; exact Heap.lt_size e
    refine call_sum_walkG (wpAny_pyIter_list hl.isList ?_)
    have hp : Kp G.T s { s with heap := s.heap.push { cls := .type "list_iterator", data := .fields #[.ref a, .int 0 0] } } := Kp.push _ s.toks
    refine ⟨s.heap.objs.size, _, _, items.size, _, _, fun i => ns.getD i 0, rfl, Walks.list ho.in1 s.heap.objs.size a (Nat.ne_of_lt hal) items, ⟨⟨_, Heap.get?_push_size _ rfl, rfl, rfl⟩, (hl.at fun o e => Heap.get?_push_of_some _ e).isList⟩, ?_, ?_, ?_⟩
    · intro b hb
      simp only [Heap.size_push]
      rcases List.mem_cons.mp hb with h | h
      · subst h; exact Nat.lt_succ_self _
      · rw [List.mem_singleton.mp h]; exact Nat.lt_succ_of_lt hal
    · intro i v hv
      exact ints_rp rr (by simpa using hv)
    · intro h' tk t' hk
      have hlen : items.size = ns.length := by simpa using rr.length
      have e : preSum (fun i => ns.getD i 0) items.size = ns.sum := by rw [preSum_list, hlen, List.take_length]
      rw [e]
      refine hQ _ _ (Kp.mk' fun b o e => hk b o (fun q => ?_) (Heap.get?_push_of_some _ e)) (by simp only [Rp]; exact ⟨_, rfl⟩)
      rw [List.mem_singleton.mp q] at e
      exact absurd (Heap.lt_size e) (Nat.lt_irrefl _)

/-- list(range(a, b)) -/
theorem EvTo.listRange {x y : Str} {p p' pos pos' : Pos} {e1 e2 : Expr} {a b : Int} (hx : sc.names.lookup x = some .globalImplicit) (hm : G.mg x = none) (hb : G.mb x = some (.type "list")) (hx' : sc.names.lookup y = some .globalImplicit) (hm' : G.mg y = none) (hb' : G.mb y = some (.type "range"))
    (h1 : EvTo G k sc ρ e1 (.int a)) (h2 : EvTo G k sc ρ e2 (.int b)) (n1 : NotStar e1) (n2 : NotStar e2) (hs : Builtin.Range.small a b 1 = true) (hl : (rangeL a b 1).length ≤ lid) :
    EvTo G k sc ρ (.Call (.Name x p) [.Call (.Name y p') [e1, e2] [] pos'] [] pos) (.list ((rangeL a b 1).map .int)) := by
  intro A env M s Q E ho hv hr hQ
  have hgx := hv.kindG x hx
  refine Call_Name rfl (Calls.Name_function_global hv.kind hgx (Calls.loadGlobal_builtin (hv.glob ▸ Nsp.gr G.g (hr.bnt _)) hm (hv.blt ▸ Nsp.gr G.b (hr.bnt _)) hb ?_) (hv.dbg (by rw [hgx]; simp)))
  refine PySem.callWith_type rfl (Calls.evalArgs_plain (Calls.spliced_cons (call_type ho hv hr hx' hm' hb' (.cons n1 h1 (.cons n2 h2 .nil)) fun vs s1 k1 r1 => ?_)))
  obtain ⟨u, v, rfl, r, r'⟩ := r1.two
  simp only [Rp] at r r'
  obtain ⟨t, rfl⟩ := r
  obtain ⟨t', rfl⟩ := r'
  refine call_range_2 (Calls.spliced_nil ?_)
  have hsz0 : 0 ≤ Builtin.Range.rangeSize a b 1 := by
    rw [PySem.rangeSize_one]; split <;> lia
  have hlen : (rangeL a b 1).length = (Builtin.Range.rangeSize a b 1).toNat := by simp [rangeL]
  refine call_list_range ho.hh (IsRange.new ..) hs (n := (Builtin.Range.rangeSize a b 1).toNat) (Int.toNat_of_nonneg hsz0).symm (by rw [← hlen]; exact Nat.le_trans hl (by decide)) fun h' tk acc' c' hk hget hit => ?_
  have k2 := k1.trans (Kp.push (s := s1) { cls := .type "range", data := .fields #[.int a t, .int b t', .int 1 s1.toks] } (s1.toks + 1))
  refine hQ _ _ (k2.trans (Kp.mk' (t := tk) hk)) ?_
  simp only [Rp]
  refine ⟨_, acc', rfl, not_M (hr.keeps k2).dom (fresh_none (Nat.le_refl _)), ⟨_, hget⟩, RpL.iff (by simp [hit.1, hlen]) fun i d v hd hvv => ?_, by simpa using hl⟩
  obtain ⟨tt, e⟩ := hit.2 i v (by simpa using hvv)
  subst e
  rw [List.getElem?_map] at hd
  unfold rangeL at hd
  rw [List.getElem?_map] at hd
  cases hi : (List.range (Builtin.Range.rangeSize a b 1).toNat)[i]? with
  | none => rw [hi] at hd; simp at hd
  | some j =>
    rw [hi] at hd
    have hj : j = i := by obtain ⟨h1, h2⟩ := List.getElem?_eq_some_iff.mp hi; simpa using h2.symm
    subst hj
    simp at hd; subst hd
    simp [Rp]

/-! ## dicts read -/
noncomputable def getF {α : Type} (F : List (Str × α)) (x : Str) : Option α := (F.find? fun kv => kv.1 = x).map (·.2)

noncomputable def EvD (G : Gl prog w) (k : Nat) (sc : Scope) (ρ : VEnv) (e : Expr) (F : List (Str × PyData)) : Prop :=
  ∀ (A : Around) (env : Env) (M : Addr → Prop) (s : Shared) (Q : Value → Shared → Prop) (E : Value → Shared → Prop), Ok k A → EnvOk sc env → VR G env M ρ s →
    (∀ a kvs s', Kp G.T s s' → (a == sysModules) = false → s'.heap.DictOf (PySem.strKind prog w) a kvs → RpD prog w s'.heap M (dk F) kvs → F.length ≤ lid → Q (.ref a) s') → wpAny (model prog w) A (eval e env) Q E s

theorem EvD.of {e : Expr} {F : List (Str × PyData)} (h : EvTo G k sc ρ e (.dict (dk F))) : EvD G k sc ρ e F := by
  intro A env M s Q E ho hv hr hQ
  refine h A env M s Q E ho hv hr fun v s1 k1 r1 => ?_
  simp only [Rp] at r1
  obtain ⟨a, kvs, rfl, _, h1, h2, h3, h4⟩ := r1
  exact hQ a kvs s1 k1 h1 h2 h3 (by simpa [dk_length] using h4)
theorem EvD.mud {x : Str} {pos : Pos} {F : List (Str × PyData)} (h : (x, .mud (dk F)) ∈ ρ) : EvD G k sc ρ (.Name x pos) F := by
  intro A env M s Q E ho hv hr hQ
  obtain ⟨a, kvs, ha, _, _, h1, h2, h3, h4⟩ := hr.ent _ _ h
  exact ha.name hv (hQ a kvs s Kp.refl h1 h2 h3 (by simpa [dk_length] using h4))

theorem RpD.val {h : Heap} {M : Addr → Prop} {x : Str} : ∀ {F : List (Str × PyData)} {kvs : List (Str × Value)}, RpD prog w h M (dk F) kvs → match getF F x with | none => valueAt kvs x = none | some d => ∃ v, valueAt kvs x = some v ∧ Rp prog w h M d v
  | [], _, r => by simp only [dk, List.map_nil, RpD] at r; subst r; simp [getF, valueAt]
  | (y, d) :: F, _, r => by
    simp only [dk, List.map_cons, RpD] at r
    obtain ⟨z, v, q, rfl, h0, h1, h2⟩ := r
    cases h0
    have ih := RpD.val (x := x) (F := F) h2
    by_cases hy : y = x
    · simp [getF, valueAt, hy]; exact h1
    · simpa [getF, valueAt, hy] using ih

/-- d[key] -/
theorem EvTo.key {e i : Expr} {pos : Pos} {F : List (Str × PyData)} {x : Str} {d : PyData} (he : EvD G k sc ρ e F) (hi : EvTo G k sc ρ i (.str x)) (hd : getF F x = some d)
    (hs : ∀ o i', subscripted i false o i' = operate [o, i'] (getItem o i')) (hg : ∀ o r, letTemporaryGo e o r = pure ()) : EvTo G k sc ρ (.Subscript e i pos) d := by
  intro A env M s Q E ho hv hr hQ
  refine Subscript_ (he A env M s _ _ ho hv hr fun a kvs s1 k1 h1 h2 r1 hb => hi A env M s1 _ _ ho hv (hr.keeps k1) fun v s2 k2 r2 => ?_)
  simp only [Rp] at r2
  obtain ⟨t, rfl⟩ := r2
  have h2' := Dic.gr h2 (k2.nt _)
  have hval := RpD.val (x := x) (RpD.agr k2.agr _ _ r1)
  rw [hd] at hval
  obtain ⟨v, hv1, hv2⟩ := hval
  refine subscriptTail_builtin h2'.typeIs slot_dict_getitem.lookup (wpAny_getItem_of (k := x) (by simp [PySem.strKind, Value.isStrOf]) h2'.mapOf hv1 ?_) (hs _ _) (hg _)
  exact hQ v _ ((k1.trans k2).trans (Kp.tok _)) hv2

/-- d.get(key, other) -/
theorem EvTo.get2 {o e1 e2 : Expr} {F : List (Str × PyData)} {x : Str} {d : PyData} {apos pos : Pos} (ho : EvD G k sc ρ o F) (hbase : ∀ env, attributeBase o "get" env (eval o env) = eval o env) (h1 : EvTo G k sc ρ e1 (.str x)) (h2 : EvTo G k sc ρ e2 d) (n1 : NotStar e1) (n2 : NotStar e2)
    (hline : (apos.endLine == pos.line) = true) : EvTo G k sc ρ (.Call (.Attribute o "get" apos) [e1, e2] [] pos) ((getF F x).getD d) := by
  intro A env M s Q E hok hv hr hQ
  refine method_any hok hv hr hbase PySem.F.plainAttrs_dict PySem.F.slot_dict_get PySem.F.type_dict_get (.cons n1 h1 (.cons n2 h2 .nil)) (by simp) hline (ho A env M s _ _ hok hv hr fun a kvs s1 k1 hsm hd r1 hb => ?_)
  refine ⟨k1, hd.typeIs, hd.mapOf.noDict, fun vs s2 k2 r2 => ?_⟩
  obtain ⟨u, v, rfl, q1, q2⟩ := r2.two
  simp only [Rp] at q1
  obtain ⟨t, rfl⟩ := q1
  have hd' := Dic.gr hd (k2.nt _)
  refine call_meetsIn PySem.F.slot_dict_get hd'.typeIs PySem.F.entry_dict_get (PySem.F.args_dict_get_3 _ _ _) (meets_dict_get_default (PySem.strKind prog w) a (k := x) (by simp [PySem.strKind, Value.isStrOf]) hsm v) ⟨_, hd'.mapOf, ?_⟩
  have hval := RpD.val (x := x) (RpD.agr k2.agr _ _ r1)
  refine hQ _ _ ((k1.trans k2).trans (Kp.tok _)) ?_
  cases hF : getF F x with
  | none => rw [hF] at hval; simp only at hval; rw [hval]; exact q2
  | some d' => rw [hF] at hval; obtain ⟨v', e1, e2⟩ := hval; rw [e1]; exact e2
end
end Mine
end
section
open PySem PyProof.Rows
set_option Elab.async false
set_option linter.unusedVariables false
namespace Mine

/-- a def's scope, and the names that it takes -/
noncomputable def fnOk (sc : Scope) (ps : List Str) : Bool :=
  sc.kind == .function && !sc.isGenerator && !sc.isCoroutine && decide (sc.names.map (·.1)).Nodup && decide ps.Nodup && sc.names.all (fun y => y.1 != ("__debug__" : Str) && y.1 != ("__classdict__" : Str) && y.2 != .free) &&
    ps.all fun p => sc.names.lookup p == some .local || sc.names.lookup p == some .cell

theorem bindL_get (kindOf : Str → Option NameKind) : ∀ (binds : List (Str × Value)) (m : Str → Option Value) (p : Str), (binds.map (·.1)).Nodup → kindOf p = some .local →
    (p ∉ binds.map (·.1) → bindL kindOf binds m p = m p) ∧ ∀ v, (p, v) ∈ binds → bindL kindOf binds m p = some v
  | [], m, p, _, _ => ⟨fun _ => rfl, fun v h => by cases h⟩
  | (n, u) :: r, m, p, hn, hk => by
    simp only [List.map_cons, List.nodup_cons] at hn
    have ih := bindL_get kindOf r (if kindOf n = some .local then fun y => if y = n then some u else m y else m) p hn.2 hk
    refine ⟨fun hp => ?_, fun v hv => ?_⟩
    · simp only [List.map_cons, List.mem_cons, not_or] at hp
      unfold bindL
      rw [ih.1 hp.2]
      split
      · show (if p = n then _ else _) = _; rw [if_neg hp.1]
      · rfl
    · unfold bindL
      rcases List.mem_cons.mp hv with e | e
      · cases e
        rw [ih.1 hn.1, if_pos hk]; simp
      · exact ih.2 v e
theorem bindC_get (kindOf : Str → Option NameKind) : ∀ (binds : List (Str × Value)) (m : Str → Option Value) (p : Str), (binds.map (·.1)).Nodup → kindOf p ≠ some .local →
    (p ∉ binds.map (·.1) → bindC kindOf binds m p = m p) ∧ ∀ v, (p, v) ∈ binds → bindC kindOf binds m p = some v
  | [], m, p, _, _ => ⟨fun _ => rfl, fun v h => by cases h⟩
  | (n, u) :: r, m, p, hn, hk => by
    simp only [List.map_cons, List.nodup_cons] at hn
    have ih := bindC_get kindOf r (if kindOf n = some .local then m else fun y => if y = n then some u else m y) p hn.2 hk
    refine ⟨fun hp => ?_, fun v hv => ?_⟩
    · simp only [List.map_cons, List.mem_cons, not_or] at hp
      unfold bindC
      rw [ih.1 hp.2]
      split
      · rfl
      · show (if p = n then _ else _) = _; rw [if_neg hp.1]
    · unfold bindC
      rcases List.mem_cons.mp hv with e | e
      · cases e
        rw [ih.1 hn.1, if_neg hk]; simp
      · exact ih.2 v e

section
variable {prog : Program} {w : World} {G : Gl prog w} {k : Nat} {sc csc : Scope} {ρ ρ' ρc : VEnv}

theorem CodeO.rec {h : Heap} {c : Addr} {q : Str} (x : CodeO h c q) : h.CodeRec (.ref c) q := by
  obtain ⟨o, vs, t, ho, _, hd, hv⟩ := x
  exact ⟨c, o, vs, t, rfl, ho, hd, hv⟩

/-- a plain def of the top -/
noncomputable def DefAt (G : Gl prog w) (name : Str) (params : Arguments) (body : List Stmt) (scope : Scope) : Prop :=
  ∃ a c' o pm doc, G.mg name = some (.ref a) ∧ G.hB.get? a = some o ∧ o.data = .func (Calls.docDef name params body scope pm (.ref c') doc) ∧ CodeO G.hB c' name

structure ScopeOk (sc : Scope) (ps : List Str) : Prop where
  kind : sc.kind = .function
  gen : sc.isGenerator = false
  cor : sc.isCoroutine = false
  nd : (sc.names.map (·.1)).Nodup
  pnd : ps.Nodup
  dbg : sc.names.lookup ("__debug__" : Str) = none
  cd : sc.names.lookup ("__classdict__" : Str) = none
  free : ∀ x, (x, NameKind.free) ∉ sc.names
  pars : ∀ p, p ∈ ps → OwnName sc p
theorem fnOk.of {ps : List Str} (h : fnOk sc ps = true) : ScopeOk sc ps := by
  simp only [fnOk, Bool.and_eq_true, decide_eq_true_eq, List.all_eq_true, bne_iff_ne, Bool.or_eq_true, beq_iff_eq, Bool.not_eq_true'] at h
  obtain ⟨⟨⟨⟨⟨⟨h1, h2⟩, h3⟩, h4⟩, h5⟩, h6⟩, h7⟩ := h
  exact ⟨h1, h2, h3, h4, h5, lookup_none fun c hc => (h6 _ hc).1.1 rfl, lookup_none fun c hc => (h6 _ hc).1.2 rfl, fun x hx => (h6 _ hx).2 rfl, h7⟩

theorem mem_nodup {α : Type} {l : List (Str × α)} (hn : (l.map (·.1)).Nodup) {x : Str} {a b : α} (ha : (x, a) ∈ l) (hb : (x, b) ∈ l) : a = b := by
  induction l with
  | nil => cases ha
  | cons y r ih =>
    simp only [List.map_cons, List.nodup_cons] at hn
    rcases List.mem_cons.mp ha with e | ha <;> rcases List.mem_cons.mp hb with e' | hb
    · rw [← e'] at e; exact (Prod.mk.inj e).2
    · exact absurd (List.mem_map.mpr ⟨_, hb, by rw [← e]⟩) hn.1
    · exact absurd (List.mem_map.mpr ⟨_, ha, by rw [← e']⟩) hn.1
    · exact ih hn.2 ha hb

theorem zip_fst {α β : Type} : ∀ {ps : List α} {vs : List β}, vs.length = ps.length → (ps.zip vs).map (·.1) = ps
  | [], [], _ => rfl
  | p :: ps, v :: vs, h => by simp [zip_fst (ps := ps) (vs := vs) (by simpa using h)]

/-- as ExTo, in one frame -/
noncomputable def ExAt (G : Gl prog w) (k : Nat) (sc : Scope) (ρ : VEnv) (env : Env) (ss : List Stmt) (P : Out → Prop) : Prop :=
  ∀ (A : Around) (M0 L Wc Z : Addr → Prop) (s0 s : Shared) (Q : Flow → Shared → Prop) (E : Value → Shared → Prop), Ok k A → EnvOk sc env → St G sc env M0 L Wc Z s0 ρ s →
    (∀ ρ' Z' s', P (.next ρ') → St G sc env M0 L Wc Z' s0 ρ' s' → Ch G.T Wc Z Z' s s' → Q .next s') →
    (∀ d v s', P (.ret d) → Kp G.T s0 s' → Rp prog w s'.heap M0 d v → Q (.ret v) s') → wpAny (model prog w) A (execs ss env) Q E s

/-- c' is the code of the def of that name -/
noncomputable def CodeOf (G : Gl prog w) (name : Str) (params : Arguments) (body : List Stmt) (scope : Scope) (c' : Addr) : Prop :=
  ∃ a o pm doc, G.mg name = some (.ref a) ∧ G.hB.get? a = some o ∧ o.data = .func (Calls.docDef name params body scope pm (.ref c') doc)

/-- the call of a plain def of the top: its body runs in a new frame -/
theorem call_body {name : Str} {params : Arguments} {body : List Stmt} {ps : List Str} (hD : DefAt G name params body sc) (hs : fnOk sc ps = true)
    (hbind : ∀ (pm c doc : Value) (vs : List Value), vs.length = ps.length → bindArgs (Calls.docDef name params body sc pm c doc) ⟨vs, []⟩ = pure (ps.zip vs)) :
    ∃ a, G.mg name = some (.ref a) ∧ (∃ o fd, G.hB.get? a = some o ∧ o.data = .func fd) ∧
      ∀ (A : Around) (M : Addr → Prop) (s : Shared) (vs : List Value) (ds : List PyData) (Q : Value → Shared → Prop) (E : Value → Shared → Prop), Ok (k + 1) A →
        (∀ b o, G.hB.get? b = some o → Gr G.T s.heap b o) → (∀ a, M a → ∃ o, s.heap.get? a = some o) → RpL prog w s.heap M ds vs → ds.length = ps.length →
        (∀ (cenv : Env) (s1 : Shared) (c' : Addr) (Wc : Addr → Prop) (Q' : Flow → Shared → Prop) (E' : Value → Shared → Prop), CodeOf G name params body sc c' → cenv.code = .ref c' → cenv.qual = name ++ ".<locals>." → cenv.frame = some cenv.locals → cenv.scope = sc →
          EnvOk sc cenv → Ok k (A.deeper cenv) → s.heap.get? cenv.locals = none → Kp G.T s s1 → (∀ b, Wc b → s.heap.get? b = none) → St G sc cenv M (fun _ => False) Wc (fun _ => False) s (ps.zip (ds.map B.own)) s1 →
          (∀ f s', Q (match f with | .ret v => v | _ => .none) s' → Q' f s') → (∀ e s', wpAny (model prog w) (A.deeper cenv) (leaving cenv e) (fun _ s'' => E e s'') E s' → E' e s') →
          wpAny (model prog w) (A.deeper cenv) (execs body cenv) Q' E' s1) →
        wpAny (model prog w) A (call (.ref a) vs) Q E s := by
  obtain ⟨a, c', o, pm, doc, hm, hg, hdat, hcr⟩ := hD
  have hCO : CodeOf G name params body sc c' := ⟨a, o, pm, doc, hm, hg, hdat⟩
  have hs := fnOk.of hs
  refine ⟨a, hm, ⟨o, _, hg, hdat⟩, fun A M s vs ds Q E ho hbase hdom hr hlen hex => ?_⟩
  have hvl : vs.length = ps.length := by rw [hr.length]; exact hlen
  have hbn : ((ps.zip vs).map (·.1)).Nodup := by rw [zip_fst hvl]; exact hs.pnd
  generalize hfd : Calls.docDef name params body sc pm (.ref c') doc = fd at hdat
  have hfs : fd.scope = sc := by rw [← hfd]; rfl
  have hlim : s.heap.NoLimit := by
    obtain ⟨mm, p, q⟩ := G.lim
    exact ⟨mm, Nsp.gr p (fun o n e => (hbase _ o e).nt n), q⟩
  have cellLook : ∀ p, sc.names.lookup p = some .cell → ∃ c, (p, c) ∈ cellsFrom (s.heap.objs.size + 1) sc.names [] ∧ (cellsFrom (s.heap.objs.size + 1) sc.names []).lookup p = some c := fun p hp => by
    obtain ⟨c, hc⟩ := cellsFrom_has sc.names (s.heap.objs.size + 1) p (mem_of_lookup hp)
    refine ⟨c, hc, lookup_of_mem hc fun c2 hc2 => ?_⟩
    have huniq : ∀ (l : List (Str × NameKind)) (n : Nat), (l.map (·.1)).Nodup → ∀ c c', (p, c) ∈ cellsFrom n l [] → (p, c') ∈ cellsFrom n l [] → c' = c := by
      intro l
      induction l with
      | nil => intro n _ c c' h; cases h
      | cons y r ih =>
        intro n hn c c' h h'
        obtain ⟨y1, y2⟩ := y
        simp only [List.map_cons, List.nodup_cons] at hn
        unfold cellsFrom at h h'
        split at h
        · rename_i hk
          rw [if_pos hk] at h'
          rw [cellsFrom_acc, List.mem_append] at h h'
          have hno : ∀ c, (y1, c) ∉ cellsFrom (n + 1) r [] := fun c hc => hn.1 (List.mem_map.mpr ⟨_, cellsFrom_names r _ _ _ hc, rfl⟩)
          rcases h with h | h <;> rcases h' with h' | h'
          · exact ih _ hn.2 c c' h h'
          · cases List.mem_singleton.mp h'; exact absurd h (hno c)
          · cases List.mem_singleton.mp h; exact absurd h' (hno c')
          · cases List.mem_singleton.mp h; cases List.mem_singleton.mp h'; rfl
        · rename_i hk
          rw [if_neg hk] at h'
          exact ih _ hn.2 c c' h h'
    exact huniq sc.names _ hs.nd c c2 hc hc2
  have hkinds : ∀ x, x ∈ ps.zip vs → sc.names.lookup x.1 = some .local ∨ (sc.names.lookup x.1 = some .cell ∧ ((cellsFrom (s.heap.objs.size + 1) sc.names []).lookup x.1).isSome = true) := fun x hx => by
    have hxp : x.1 ∈ ps := by rw [← zip_fst hvl]; exact List.mem_map.mpr ⟨x, hx, rfl⟩
    rcases hs.pars x.1 hxp with h | h
    · exact .inl h
    · obtain ⟨c, _, hc⟩ := cellLook x.1 h
      exact .inr ⟨h, by rw [hc]; rfl⟩
  have hroom : A.depth < recursionLimit := by
    have := ho.depth
    have e : recursionLimit = 1000 := rfl
    lia
  refine wpAny_call (codeAny_call_cells (fd := fd) (body := body) (binds := ps.zip vs) hroom ((hbase _ _ hg).nt (.func hdat)) hdat hlim (by rw [← hfd]; exact (hcr.gr (fun o _ e => hbase _ o e)).rec) (by rw [← hfd]; rfl) (by rw [← hfd]; exact hbind pm (.ref c') doc vs hvl) (by rw [← hfd]; rfl) (by rw [hfs]; exact hkinds) (fun s1 x => ?_)
    (by rw [hfs]; exact hs.cor) (by rw [hfs]; exact hs.gen) (by rw [hfs]; exact hs.kind))
  generalize hce : callEnvC fd s.heap.objs.size a = cenv at x
  have hsc : cenv.scope = sc := by rw [← hce, ← hfd]; rfl
  have hloc : cenv.locals = s.heap.objs.size := by rw [← hce]; rfl
  have hcel : cenv.cells = cellsFrom (s.heap.objs.size + 1) sc.names [] := by rw [← hce, ← hfd]; rfl
  have hko : ∀ y, cenv.kindOf y = sc.names.lookup y := fun y => by show cenv.scope.names.lookup y = _; rw [hsc]
  have hvc : EnvOk sc cenv := ⟨by rw [hsc]; exact hs.kind, by rw [← hce, ← hfd]; rfl, by rw [← hce, ← hfd]; rfl, fun y hy => by rw [hko, hy], fun y hy => by
      rcases hy with hy | hy
      · rw [hko, hy]; exact .inl rfl
      · exact absurd (mem_of_lookup hy) (hs.free y), fun y => by rw [hko], by rw [hko]; exact hs.dbg, fun y hy => by
      rcases hy with hy | hy
      · obtain ⟨c, _, hc⟩ := cellLook y hy; exact ⟨c, by rw [hcel]; exact hc⟩
      · exact absurd (mem_of_lookup hy) (hs.free y), by rw [hko]; exact hs.cd⟩
  let Wc : Addr → Prop := fun b => b = cenv.locals ∨ ∃ n, (n, b) ∈ cenv.cells
  have kp : Kp G.T s s1 := ⟨x.toInCall.same, fun b o e => .inl (x.toInCall.keep b o e)⟩
  have freshL : ∀ b, s.heap.objs.size ≤ b → s.heap.get? b = none := fun b hb => fresh_none hb
  have wNone : ∀ b, Wc b → s.heap.get? b = none := fun b hb => by
    rcases hb with rfl | ⟨n, hn⟩
    · exact freshL _ (by rw [hloc]; exact Nat.le_refl _)
    · exact freshL _ (Nat.le_of_lt (by have := x.above n b hn; rw [hloc] at this; exact this))
  have hcn : ∀ n c, (n, c) ∈ cenv.cells → cenv.cells.lookup n = some c := fun n c hn => by
    rw [hcel] at hn ⊢
    have hnm := cellsFrom_names sc.names _ n c hn
    have hl : sc.names.lookup n = some .cell := lookup_of_mem hnm fun c' hc' => mem_nodup hs.nd hc' hnm
    obtain ⟨c2, hc2, hc3⟩ := cellLook n hl
    rw [hc3]
    have : ∀ (c c2 : Addr), (n, c) ∈ cellsFrom (s.heap.objs.size + 1) sc.names [] → (cellsFrom (s.heap.objs.size + 1) sc.names []).lookup n = some c2 → c2 = c := fun c c2 hc hl2 => by
      have h0 := lookup_of_mem hc (fun c' hc' => by
        obtain ⟨c4, h4, h5⟩ := cellLook n hl
        have : ∀ c', (n, c') ∈ cellsFrom (s.heap.objs.size + 1) sc.names [] → c' = c4 := fun c' hc' => by
          have hu := fun (l : List (Str × NameKind)) => l
          exact by
            have hnd2 : ∀ (l : List (Str × NameKind)) (k : Nat), (l.map (·.1)).Nodup → ((cellsFrom k l []).map (·.1)).Nodup := by
              intro l
              induction l with
              | nil => intro k _; exact List.nodup_nil
              | cons y r ih =>
                intro k hn
                obtain ⟨y1, y2⟩ := y
                simp only [List.map_cons, List.nodup_cons] at hn
                unfold cellsFrom
                split
                · rw [cellsFrom_acc, List.map_append, List.nodup_append]
                  refine ⟨ih _ hn.2, by simp, fun z hz z' hz' => ?_⟩
                  simp at hz'
                  subst hz'
                  intro e
                  subst e
                  obtain ⟨p, hp, rfl⟩ := List.mem_map.mp hz
                  exact hn.1 (List.mem_map.mpr ⟨_, cellsFrom_names r _ _ _ hp, rfl⟩)
                · exact ih _ hn.2
            exact mem_nodup (hnd2 sc.names _ hs.nd) hc' h4
        rw [this c' hc', this c hc])
      rw [h0] at hl2; exact (Option.some.inj hl2).symm
    rw [this c c2 hn hc3]
  have hcell : ∀ n c, (n, c) ∈ cenv.cells → s1.heap.IsCell c (bindC cenv.kindOf (ps.zip vs) (fun _ => none) n) := fun n c hn => x.cell n c (hcn n c hn)
  have wDom : ∀ b, Wc b → ∃ o, s1.heap.get? b = some o := fun b hb => by
    rcases hb with rfl | ⟨n, hn⟩
    · obtain ⟨o, _, _, e, _⟩ := x.toInCall.ns; exact ⟨o, e⟩
    · obtain ⟨o, e, _⟩ := hcell n b hn; exact ⟨o, e⟩
  have hst : St G sc cenv M (fun _ => False) Wc (fun _ => False) s (ps.zip (ds.map B.own)) s1 := by
    refine ⟨⟨⟨⟨_, x.toInCall.ns⟩, .inl rfl, fun y hy => ?_, fun b ob hb e => ?_⟩, ⟨fun b ob e => (hbase b ob e).trans kp.code (kp.tk b), fun b hb => ?_, fun y b hy => ?_, fun y c hy => .inr (.inl (.inr ⟨y, mem_of_lookup hy⟩)), ?_⟩, fun b hb => .inr (.inl hb), fun b hb => ?_, fun y b hy hb => ?_, fun y c hy => .inl (.inr ⟨y, mem_of_lookup hy⟩), fun b hb => hb.elim⟩,
      kp, fun b hb => ?_, hdom, hbase, fun b hb => hb.elim, fun b hb => hb.elim, fun b _ hb => hb, fun y c hy => .inr ⟨y, mem_of_lookup hy⟩, fun y z b c b' hy hz hb => ?_⟩
    · obtain ⟨c, h1, h2⟩ := cellLook y hy
      rw [← hcel] at h1 h2
      exact ⟨by rw [hko, hy], c, _, h2, hcell y c h1, .inr ⟨y, h1⟩, Nat.ne_of_gt (x.above y c h1), fun z hz => name_of_addr x.apart (mem_of_lookup hz) h1⟩
    · rcases hb with rfl | ⟨n, hn⟩
      · exact .inl rfl
      · obtain ⟨o', e', h⟩ := hcell n b hn
        rw [e'] at e; cases e; exact .inr ⟨_, h⟩
    · rcases hb with hb | hb | hb | hb
      · obtain ⟨o, e⟩ := hdom b hb; exact kp.al e
      · exact wDom b hb
      · exact hb.elim
      · exact hb.elim
    · obtain ⟨i, hi, hpi⟩ := List.mem_iff_getElem.mp hy
      have hi' : i < ps.length := by rw [List.length_zip] at hi; lia
      have hd : i < ds.length := by lia
      have hvi : i < vs.length := by lia
      rw [List.getElem_zip] at hpi
      simp only [List.getElem_map, Prod.mk.injEq] at hpi
      obtain ⟨rfl, rfl⟩ := hpi
      have hmem : (ps[i], vs[i]) ∈ ps.zip vs := List.mem_iff_getElem.mpr ⟨i, by rw [List.length_zip]; lia, by rw [List.getElem_zip]⟩
      refine ⟨vs[i], ?_, ?_⟩
      · rcases hs.pars ps[i] (List.getElem_mem _) with h | h
        · exact .inl ⟨by rw [hko, h], _, x.toInCall.ns, (bindL_get cenv.kindOf _ _ ps[i] hbn (by rw [hko, h])).2 _ hmem⟩
        · obtain ⟨c, h1, h2⟩ := cellLook ps[i] h
          rw [← hcel] at h1 h2
          have hbc := (bindC_get cenv.kindOf (ps.zip vs) (fun _ => none) ps[i] hbn (by rw [hko, h]; decide)).2 _ hmem
          exact .inr ⟨.inl (by rw [hko, h]), c, h2, hbc ▸ hcell _ c h1⟩
      · have r1 := hr.of_get (i := i) (d := ds[i]) (by simp [hd]) (v := vs[i]) (by simp [hvi])
        refine Rp.agr kp.agr _ _ (Rp.sub (fun b o e q => ?_) _ _ r1)
        rcases q with q | q | q | q
        · exact q
        · rw [wNone b q] at e; cases e
        · exact q.elim
        · exact q.elim
    · rw [zip_fst (by simpa using hlen)]; exact hs.pnd
    · cases e : G.hB.get? b with
      | none => rfl
      | some o' => obtain ⟨_, z⟩ := (hbase b o' e).al; rw [wNone b hb] at z; cases z
    · obtain ⟨i, hi, hpi⟩ := List.mem_iff_getElem.mp hy
      rw [List.getElem_zip] at hpi
      simp only [List.getElem_map, Prod.mk.injEq] at hpi
      rw [← hpi.2] at hb; cases hb
    · rcases hb with hb | hb | hb
      · exact wNone b hb
      · exact hb.elim
      · exact hb.elim
    · obtain ⟨i, hi, hpi⟩ := List.mem_iff_getElem.mp hy
      rw [List.getElem_zip] at hpi
      simp only [List.getElem_map, Prod.mk.injEq] at hpi
      rw [← hpi.2] at hb; cases hb
  exact hex cenv s1 c' Wc _ _ hCO (by rw [← hce, ← hfd]; rfl) (by rw [← hce, ← hfd]; rfl) (by rw [← hce]; rfl) hsc hvc (ho.deeper cenv) (wNone _ (.inl rfl)) kp wNone hst (fun f s' h => h) (fun e s' h => h)

theorem FnOk.of1 {name : Str} {params : Arguments} {body : List Stmt} {ps : List Str} {f : List PyData → PyData → Prop} (hD : DefAt G name params body sc) (hs : fnOk sc ps = true)
    (hbind : ∀ (pm c doc : Value) (vs : List Value), vs.length = ps.length → bindArgs (Calls.docDef name params body sc pm c doc) ⟨vs, []⟩ = pure (ps.zip vs))
    (hbody : ∀ ds d, f ds d → ds.length = ps.length ∧ ∀ env c', CodeOf G name params body sc c' → env.code = .ref c' → env.qual = name ++ ".<locals>." → ExAt G k sc (ps.zip (ds.map B.own)) env body (fun o => o = .ret d ∨ ((∃ ρ, o = .next ρ) ∧ d = .none))) : FnOk G name (k + 1) f := by
  obtain ⟨a, hm, hfd, hcall⟩ := call_body (k := k) hD hs hbind
  refine ⟨a, hm, hfd, fun A M s vs ds d Q E ho hbase hdom hr hf hQ => ?_⟩
  obtain ⟨hlen, hex⟩ := hbody ds d hf
  refine hcall A M s vs ds Q E ho hbase hdom hr hlen fun cenv s1 c' Wc Q' E' hCO hcode hqual _ _ hvc hok _ _ _ hst hq _ => ?_
  refine hex cenv c' hCO hcode hqual (A.deeper cenv) M (fun _ => False) Wc (fun _ => False) s s1 _ _ hok hvc hst (fun ρ1 Z1 s2 hp t2 _ => hq _ _ ?_) fun d' v s2 hp hk hr' => hq _ _ ?_
  · rcases hp with hp | ⟨_, rfl⟩
    · cases hp
    · exact hQ .none s2 t2.kp (by simp [Rp])
  · rcases hp with hp | ⟨⟨ρ1, hp⟩, _⟩
    · cases hp; exact hQ v s2 hk hr'
    · cases hp

theorem FnOk.of {name : Str} {params : Arguments} {body : List Stmt} {ps : List Str} {f : List PyData → PyData → Prop} (hD : DefAt G name params body sc) (hs : fnOk sc ps = true)
    (hbind : ∀ (pm c doc : Value) (vs : List Value), vs.length = ps.length → bindArgs (Calls.docDef name params body sc pm c doc) ⟨vs, []⟩ = pure (ps.zip vs))
    (hbody : ∀ ds d, f ds d → ds.length = ps.length ∧ ExTo G k sc (ps.zip (ds.map B.own)) body (fun o => o = .ret d ∨ ((∃ ρ, o = .next ρ) ∧ d = .none))) : FnOk G name (k + 1) f :=
  .of1 hD hs hbind fun ds d h => ⟨(hbody ds d h).1, fun env _ _ _ _ A => (hbody ds d h).2 A env⟩
end
end Mine
end
section
open PySem PyProof.Rows
set_option Elab.async false
set_option linter.unusedVariables false
namespace Mine

/-! ## closures -/
noncomputable def closOk (sc : Scope) (ps : List Str) : Bool :=
  sc.kind == .function && !sc.isGenerator && !sc.isCoroutine && decide (sc.names.map (·.1)).Nodup && decide ps.Nodup && sc.names.all (fun y => y.1 != ("__debug__" : Str) && y.1 != ("__classdict__" : Str) && y.2 != .cell) &&
    ps.all fun p => sc.names.lookup p == some .local

section
variable {prog : Program} {w : World} {G : Gl prog w} {k : Nat} {sc : Scope} {ρ ρ' : VEnv}

theorem clos_run {ps : List Str} {A : Around} {s : Shared} {Q : Value → Shared → Prop} {E : Value → Shared → Prop} {f c' : Addr} {o : Obj} {fd : FuncData} {body : List Stmt} {vs : List Value} {ds : List PyData} {M Z : Addr → Prop} {ρf : VEnv}
    (ho : Ok (k + 1) A) (hbase : ∀ b o, G.hB.get? b = some o → Gr G.T s.heap b o) (hdom : ∀ a, M a → ∃ o, s.heap.get? a = some o)
    (hf : s.heap.get? f = some o) (hd : o.data = .func fd) (hsc : fd.scope = sc) (hgl : fd.globals = mainGlobals) (hbl : fd.builtins = builtinsNs) (hcode : fd.code = .ref c') (hco : CodeO s.heap c' fd.qualname) (hbody : fd.body = .stmts body)
    (hbind : bindArgs fd ⟨vs, []⟩ = pure (ps.zip vs)) (hs : closOk sc ps = true) (hfree : ∀ x, sc.names.lookup x = some .free → ∃ c, fd.closure.lookup x = some c) (hcz : ∀ x c, fd.closure.lookup x = some c → Z c) (hzM : ∀ a, Z a → M a)
    (hlen : ds.length = ps.length) (hr : RpL prog w s.heap M ds vs)
    (hρ : ∀ x b, (x, b) ∈ ρf → sc.names.lookup x = some .free ∧ ∃ d c v, b = .own d ∧ fd.closure.lookup x = some c ∧ s.heap.IsCell c (some v) ∧ Rp prog w s.heap M d v) (hρn : (ρf.map (·.1)).Nodup)
    (h : ∀ env s1 E', EnvOk sc env → env.cells = fd.closure → Ok k (A.deeper env) → Kp G.T s s1 → s.heap.get? env.locals = none → Fm G sc env (· = env.locals) Z (fun a => M a ∨ a = env.locals) (ρf ++ ps.zip (ds.map B.own)) s1 →
      wpAny (model prog w) (A.deeper env) (execs body env) (fun r s' => match r with | .ret v => Q v s' | _ => Q .none s') E' s1) :
    wpAny (model prog w) A (call (.ref f) vs) Q E s := by
  simp only [closOk, Bool.and_eq_true, decide_eq_true_eq, List.all_eq_true, bne_iff_ne, beq_iff_eq, Bool.not_eq_true'] at hs
  obtain ⟨⟨⟨⟨⟨⟨h1, h2⟩, h3⟩, h4⟩, h5⟩, h6⟩, h7⟩ := hs
  have hvl : vs.length = ps.length := by rw [hr.length]; exact hlen
  have hbn : ((ps.zip vs).map (·.1)).Nodup := by rw [zip_fst hvl]; exact h5
  have hroom : A.depth < recursionLimit := by
    have := ho.depth
    have e : recursionLimit = 1000 := rfl
    lia
  have hlim : s.heap.NoLimit := by
    obtain ⟨mm, p, q⟩ := G.lim
    exact ⟨mm, Nsp.gr p (fun o n e => (hbase _ o e).nt n), q⟩
  refine wpAny_call (codeAny_call_function hroom hf hd (by rw [hsc]; exact h3) (by rw [hsc]; exact h2) hbody (hcode ▸ hco.rec) ?_)
  rw [hbind, hsc, hgl, hbl, hcode]
  refine wpAny_pure (wpAny_newFunctionEnv (fun x hx => (h6 x hx).2) (fun x hx => h7 _ (by rw [← zip_fst hvl]; exact List.mem_map.mpr ⟨x, hx, rfl⟩)) (fun h' hn hsb => ?_) h1)
  generalize hce : newEnv sc s.heap.objs.size mainGlobals fd.closure (fd.qualname ++ ".<locals>.") (some f) (.ref c') none builtinsNs = env
  have hloc : env.locals = s.heap.objs.size := by rw [← hce]; rfl
  have hcel : env.cells = fd.closure := by rw [← hce]; rfl
  have hko : ∀ y, env.kindOf y = sc.names.lookup y := fun y => by rw [← hce]; rfl
  have hknd : env.scope.kind = .function := by rw [← hce]; exact h1
  have hge : env.globals = mainGlobals := by rw [← hce]; rfl
  have hbe : env.builtins = builtinsNs := by rw [← hce]; rfl
  have hnoC : ∀ y, sc.names.lookup y = some .cell → False := fun y hy => (h6 _ (mem_of_lookup hy)).2 rfl
  have hv : EnvOk sc env := ⟨hknd, hge, hbe, fun y hy => by rw [hko, hy], fun y hy => by rw [hko]; exact hy, fun y => by rw [hko],
    by rw [hko]; exact lookup_none fun c hc => (h6 _ hc).1.1 rfl, fun y hy => by
      rcases hy with hy | hy
      · exact (hnoC y hy).elim
      · rw [hcel]; exact hfree y hy, by rw [hko]; exact lookup_none fun c hc => (h6 _ hc).1.2 rfl⟩
  have keep : ∀ b o, s.heap.get? b = some o → h'.get? b = some o := fun b o e => (hsb.2 b (fun q => by rw [q, fresh_none (Nat.le_refl _)] at e; cases e)).trans (Heap.get?_push_of_some _ e)
  have kp : Kp G.T s { s with heap := h', toks := s.toks + (ps.zip vs).length } := Kp.mk' keep
  have hL : s.heap.get? env.locals = none := by rw [hloc]; exact fresh_none (Nat.le_refl _)
  have hnl : h'.Ns env.locals (fun x => (ps.zip vs).reverse.lookup x) := by rw [hloc]; exact hn
  refine ⟨hlim.keeps keep, codeAny_func ?_⟩
  refine wpAny_mono (h env _ _ hv hcel (ho.deeper env) kp hL ?_) (fun r s' hq => by cases r <;> exact hq) (fun _ _ z => z)
  refine ⟨⟨⟨_, hnl⟩, rfl, fun y hy => (hnoC y hy).elim, fun a ob ha _ => .inl ha⟩, ⟨fun b ob e => (hbase b ob e).trans kp.code (kp.tk b), fun a ha => ?_, fun x b hx => ?_, fun x c hx => .inl (hzM _ (hcz x c (hcel ▸ hx))), ?_⟩, fun a ha => .inr ha, fun a ha => ?_, fun x b hx hb => ?_, fun x c hx => .inr (hcz x c (hcel ▸ hx)), fun a ha => .inl (hzM a ha)⟩
  · rcases ha with ha | rfl
    · exact kp.al (hdom a ha).choose_spec
    · obtain ⟨o', _, _, e, _⟩ := hnl; exact ⟨o', e⟩
  · have sub : ∀ a o, s.heap.get? a = some o → (M a ∨ a = env.locals) → M a := fun a o' e q => q.elim id fun q => by rw [q, hL] at e; cases e
    rcases List.mem_append.mp hx with hx | hx
    · obtain ⟨hf', d, c, v, rfl, hc, hi, r⟩ := hρ x b hx
      exact ⟨v, .inr ⟨.inr (by rw [hko, hf']), c, by rw [hcel]; exact hc, Cel.gr hi (kp.nt _)⟩, Rp.agr kp.agr _ _ (Rp.sub sub _ _ r)⟩
    · obtain ⟨i, hi, hpi⟩ := List.mem_iff_getElem.mp hx
      have hi' : i < ps.length := by rw [List.length_zip] at hi; lia
      have hdl : i < ds.length := by lia
      have hvi : i < vs.length := by lia
      rw [List.getElem_zip] at hpi
      simp only [List.getElem_map, Prod.mk.injEq] at hpi
      obtain ⟨rfl, rfl⟩ := hpi
      have hmem : (ps[i], vs[i]) ∈ ps.zip vs := List.mem_iff_getElem.mpr ⟨i, by rw [List.length_zip]; lia, by rw [List.getElem_zip]⟩
      refine ⟨vs[i], .inl ⟨by rw [hko]; exact h7 _ (List.getElem_mem _), _, hnl, ?_⟩, Rp.agr kp.agr _ _ (Rp.sub sub _ _ (hr.of_get (i := i) (d := ds[i]) (by simp [hdl]) (v := vs[i]) (by simp [hvi])))⟩
      exact lookup_of_mem (List.mem_reverse.mpr hmem) fun c' hc' => mem_nodup hbn (List.mem_reverse.mp hc') hmem
  · rw [List.map_append, zip_fst (by simpa using hlen), List.nodup_append]
    refine ⟨hρn, h5, fun a ha b hb q => ?_⟩
    obtain ⟨⟨x, b'⟩, hx, rfl⟩ := List.mem_map.mp ha
    have := (hρ x b' hx).1
    rw [show x = b from q, h7 b hb] at this; cases this
  · rw [ha]
    cases e : G.hB.get? env.locals with
    | none => rfl
    | some o' => obtain ⟨_, z⟩ := (hbase _ o' e).al; rw [hL] at z; cases z
  · rcases List.mem_append.mp hx with hx | hx
    · obtain ⟨_, d, _, _, rfl, _⟩ := hρ x b hx; cases hb
    · obtain ⟨i, hi, hpi⟩ := List.mem_iff_getElem.mp hx
      rw [List.getElem_zip] at hpi
      simp only [List.getElem_map, Prod.mk.injEq] at hpi
      rw [← hpi.2] at hb; cases hb

/-- x = e, in a frame -/
theorem Fm.assign {A : Around} {env : Env} {Wc Z M : Addr → Prop} {s : Shared} {Q : Flow → Shared → Prop} {E : Value → Shared → Prop} {y : Str} {p pos : Pos} {e : Expr} {d : PyData} (ho : Ok k A) (hv : EnvOk sc env) (f : Fm G sc env Wc Z M ρ s)
    (he : EvTo G k sc ρ e d) (hy : OwnName sc y) (hu : Upd y (.own d) ρ ρ') (h : ∀ s', KB G.T Wc s s' → Fm G sc env Wc Z M ρ' s' → Q .next s') (hs : swapsWith e (some (.Name y p)) pos.line env = pure false) :
    wpAny (model prog w) A (exec (.Assign [.Name y p] e pos) env) Q E s := by
  rw [exec_Assign_Name env y p e pos hs]
  refine wpAny_bind (wpAny_standAt (wpAny_bind (he A env _ s _ _ ho hv f.vr fun v s1 k1 r1 => ?_)))
  exact wpAny_bind (wpAny_standAt (wpAny_bind (wpAny_bindName ((f.keeps k1).store hv hy hu r1 fun s2 k2 f2 _ => wpAny_pure (h s2 ((KB.of k1).trans k2) f2)))))
end

/-! ## a def in a def -/
section
variable {prog : Program} {w : World} {G : Gl prog w} {k : Nat} {sc : Scope} {ρ ρ' : VEnv}
open PySem.W in
theorem makeFunction_M {M : Model} {A : Around} {E : Value → Shared → Prop} {s : Shared} {name qual : Str} {params : Arguments} {body : List Stmt} {scope : Scope} {env : Env} {c P : Addr} {ps : Array Value} {pos : Pos} {firstLine : Nat} {mg : Str → Option Value}
    {clos : List (Str × Addr)} {Q : Value → Shared → Prop} (hcl : closureFor scope env = pure clos) (hge0 : env.globals = mainGlobals) (hg : s.heap.Ns mainGlobals mg) (hcode : env.code = .ref c) (C : CodeHd s.heap c P) (hP : s.heap.get? P = some (tabObj ps)) (ht : TriplesOk ps.toList)
    (hnf : codeAmong pos ps.toList = none) (hgP : mainGlobals ≠ P) (hb : s.heap.BuiltinsAt mg P)
    (h : ∀ c' ctv doc h' tk, Heap.ExtBut P s.heap h' → s.heap.objs.size ≤ h'.objs.size → CodeO h' c' qual → h'.get? P = some (tabObj (ps ++ #[rawInt pos.line, rawInt pos.col, .ref c'])) →
      Q (.ref h'.objs.size) { s with heap := h'.push (fnMade name qual params body scope clos doc ((mg "__name__").getD .none) c' ctv), toks := tk }) :
    wpAny M A (makeFunction name qual params (.stmts body) scope env [] [] [] pos firstLine) Q E s := by
  rw [makeFunction_eq]
  simp only [List.zip_nil_right, List.filterMap_nil, List.isEmpty_nil, if_true, pure_bind]
  have mk : ∀ {h' : Heap} {c' : Addr}, h'.CodeRec (.ref c') qual → (∃ P', s.heap.objs.size ≤ P' ∧ h'.IsCode c' P' #[] ∧ h'.TableAt c' P' #[]) → CodeO h' c' qual := by
    rintro h' c' ⟨c2, o, vs, t, e, ho, hd, hv⟩ ⟨P', _, _, ⟨⟨o2, vs2, ho2, hc2, hd2, _⟩, _⟩⟩
    cases e
    rw [ho] at ho2; cases ho2
    exact ⟨o, vs, t, ho, hc2, hd, hv⟩
  obtain ⟨bm, ob, hbm, hne0, _, hneP, hbo, hcls, hdict, hdata⟩ := hb
  unfold makeTail
  rw [hcl, hge0]
  refine wpAny_bind (wpAny_pure ?_)
  cases clos with
  | nil =>
    simp only [List.isEmpty_nil, if_true]
    refine wpAny_bind (wpAny_pure ?_)
    refine wpAny_bind (wpAny_functionCodeX hcode (C.code hP ht) (C.tab hP) hnf fun c' h' tk hx hge hlt _ hrec htb hpp => ?_)
    have hg' := hg.extBut hx hgP
    have hsz : s.heap.objs.size ≤ h'.objs.size := Nat.le_of_lt (Nat.lt_of_le_of_lt hge hlt)
    refine wpAny_bind (wpAny_builtinsFor hg' hbm hne0 (hx _ _ hneP hbo) hcls hdict hdata ?_)
    refine wpAny_bind (wpAny_nsGet hg' ?_)
    cases hdoc : docOf body with
    | none => exact wpAny_bind (wpAny_pure (wpAny_newObj_type (h c' .none .none h' tk hx hsz (mk hrec hpp) htb.2) (by size_fits)))
    | some t => exact wpAny_bind (wpAny_mkText (wpAny_newObj_type (h c' .none _ h' _ hx hsz (mk hrec hpp) htb.2) (by size_fits)))
  | cons q r =>
    simp only [List.isEmpty_cons, Bool.false_eq_true, if_false]
    refine wpAny_bind (wpAny_newTextTuple ?_)
    refine wpAny_bind (wpAny_functionCodeX hcode ((C.keeps fun b o e => Heap.get?_push_of_some _ e).code (Heap.get?_push_of_some _ hP) ht) ((C.keeps fun b o e => Heap.get?_push_of_some _ e).tab (Heap.get?_push_of_some _ hP)) hnf fun c' h' tk hx hge hlt _ hrec htb hpp => ?_)
    have hg' := (hg.push _).extBut hx hgP
    have hx' : Heap.ExtBut P s.heap h' := fun b o hb' e => hx b o hb' (Heap.get?_push_of_some _ e)
    have hge' : s.heap.objs.size ≤ c' := Nat.le_trans (by rw [Heap.size_push]; lia) hge
    have hsz : s.heap.objs.size ≤ h'.objs.size := Nat.le_of_lt (Nat.lt_of_le_of_lt hge' hlt)
    have hpp' : ∃ P', s.heap.objs.size ≤ P' ∧ h'.IsCode c' P' #[] ∧ h'.TableAt c' P' #[] := let ⟨P', a, b⟩ := hpp; ⟨P', Nat.le_trans (by rw [Heap.size_push]; lia) a, b⟩
    refine wpAny_bind (wpAny_builtinsFor hg' hbm hne0 (hx' _ _ hneP hbo) hcls hdict hdata ?_)
    refine wpAny_bind (wpAny_nsGet hg' ?_)
    cases hdoc : docOf body with
    | none => exact wpAny_bind (wpAny_pure (wpAny_newObj_type (h c' _ .none h' tk hx' hsz (mk hrec hpp') htb.2) (by size_fits)))
    | some t => exact wpAny_bind (wpAny_mkText (wpAny_newObj_type (h c' _ _ h' _ hx' hsz (mk hrec hpp') htb.2) (by size_fits)))

/-- the table of the code of a def of the top, in which one def lies -/
structure TabDef (G : Gl prog w) (c P : Addr) (pos : Pos) (qual : Str) : Prop where
  hd : PySem.W.CodeHd G.hB c P
  tab : G.hB.get? P = some (tabO #[])
  at' : G.T P pos.line pos.col qual
  only : ∀ l cl q, G.T P l cl q → l = pos.line ∧ cl = pos.col ∧ q = qual
  bm : G.hB.BuiltinsAt G.mg P

open PySem.W in
theorem def_nested {A : Around} {env : Env} {s : Shared} {Q : Value → Shared → Prop} {E : Value → Shared → Prop} {nm qual : Str} {params : Arguments} {body : List Stmt} {isc : Scope} {c P : Addr} {pos : Pos} {fl : Nat} {clos : List (Str × Addr)}
    (T : TabDef G c P pos qual) (hbase : ∀ b o, G.hB.get? b = some o → Gr G.T s.heap b o) (hge : env.globals = mainGlobals) (hcode : env.code = .ref c) (hcl : closureFor isc env = pure clos)
    (h : ∀ f c2 ctv doc s', Kp G.T s s' → s.heap.get? f = none → s'.heap.get? f = some (fnMade nm qual params body isc clos doc ((G.mg "__name__").getD .none) c2 ctv) → CodeO s'.heap c2 qual → Q (.ref f) s') :
    wpAny (model prog w) A (makeFunction nm qual params (.stmts body) isc env [] [] [] pos fl) Q E s := by
  have hnt : ∀ b o, NT o → G.hB.get? b = some o → s.heap.get? b = some o := fun b o n e => (hbase b o e).nt n
  have hg : s.heap.Ns mainGlobals G.mg := Nsp.gr G.g (hnt _)
  have hgP : mainGlobals ≠ P := fun q => by
    obtain ⟨o, es, ep, e, hd, _⟩ := G.g
    rw [q, T.tab] at e; cases e; cases hd
  have C : CodeHd s.heap c P := by
    obtain ⟨o, vs, file, tf, flags, tg, inF, text, tt, e, hc, r⟩ := T.hd
    exact ⟨o, vs, file, tf, flags, tg, inF, text, tt, hnt _ _ (.cls hc) e, hc, r⟩
  have hb : s.heap.BuiltinsAt G.mg P := by
    obtain ⟨bm, o, h1, h2, h3, h4, h5, h6, r⟩ := T.bm
    exact ⟨bm, o, h1, h2, h3, h4, hnt _ _ (.cls h6) h5, h6, r⟩
  rcases hbase P _ T.tab with hP | ⟨l, cl, q, c2, hT, _, hP, hc2⟩
  · refine makeFunction_M hcl hge hg hcode C hP trivial rfl hgP hb fun c' ctv doc h' tk hx hsz hco hP' => ?_
    refine h _ c' ctv doc _ ⟨⟨_, _, rfl⟩, fun b o e => ?_⟩ (fresh_none hsz) (Heap.get?_push_size _ rfl) ?_
    · by_cases hbP : b = P
      · subst hbP
        rw [hP] at e; cases e
        refine .inr ⟨pos.line, pos.col, qual, c', T.at', rfl, ?_, ?_⟩
        · exact Heap.get?_push_of_some _ (by simpa [tabO] using hP')
        · exact hco.gr (T := G.T) fun o _ e => .inl (Heap.get?_push_of_some _ e)
      · exact .inl (Heap.get?_push_of_some _ (hx b o hbP e))
    · exact hco.gr (T := G.T) fun o _ e => .inl (Heap.get?_push_of_some _ e)
  · obtain ⟨rfl, rfl, rfl⟩ := T.only _ _ _ hT
    refine makeFunction_hit (cv := .ref c2) hcl hge hg hcode C hP trivial ?_ hb fun ctv doc h' tk hk hsz => ?_
    · simp [codeAmong, rawInt]
    · refine h _ c2 ctv doc _ ⟨⟨_, _, rfl⟩, fun b o e => .inl (Heap.get?_push_of_some _ (hk b o e))⟩ (fresh_none hsz) (Heap.get?_push_size _ rfl) ?_
      exact hc2.gr (T := G.T) fun o _ e => .inl (Heap.get?_push_of_some _ (hk _ _ e))
end
end Mine
end
section
open PySem PyProof.Rows
set_option Elab.async false
set_option linter.unusedVariables false
namespace Mine
section
variable {prog : Program} {w : World} {G : Gl prog w} {k : Nat} {sc : Scope} {ρ ρ' : VEnv}

theorem RpL.rep {h : Heap} {M : Addr → Prop} {d : PyData} {v : Value} (r : Rp prog w h M d v) : ∀ n : Nat, RpL prog w h M (List.replicate n d) (List.replicate n v)
  | 0 => RpL.nil
  | n + 1 => by rw [List.replicate_succ, List.replicate_succ]; exact RpL.cons r (RpL.rep r n)

/-- [d] * n -/
theorem EvIt.rep {l r : Expr} {pos : Pos} {d : PyData} {n : Int} (hl : EvTo G k sc ρ l (.list [d])) (hr : EvTo G k sc ρ r (.int n)) (hn : n.toNat ≤ lid) (hlo : -(2 ^ 62 : Int) ≤ n) : EvIt G k sc ρ (.BinOp l .Mult r pos) (.mu (List.replicate n.toNat d)) := by
  intro A env M s Q E ho hv hvr hQ
  refine wpAny_BinOp (hl A env M s _ _ ho hv hvr fun u s1 k1 r1 => hr A env M s1 _ _ ho hv (hvr.keeps k1) fun v s2 k2 r2 => ?_)
  simp only [Rp] at r1 r2
  obtain ⟨a, items, rfl, hM, hp, rr, _⟩ := r1
  obtain ⟨t, rfl⟩ := r2
  obtain ⟨v, hv1, rv⟩ := rr.one
  have hp2 := PL.gr hp (k2.nt _)
  obtain ⟨n0, e0⟩ := id hp2
  have hsz : items.size = 1 := by have := congrArg List.length hv1; simpa using this
  have hlid : lid = 1048576 := rfl
  have hn' : n.toNat ≤ 1048576 := by rw [← hlid]; exact hn
  have hsz' : items.size * n.toNat ≤ 1048576 := by rw [hsz]; lia
  refine wpAny_binaryOp_repeat_ref (T := "list") (U := "int") (by decide) ⟨_, e0, rfl⟩ (fun s' => typeIs_int s' n t) noFill_list_mul F.fills_int_mul F.slot_int_rmul repeat_list F.slot_int_index.lookup
    (call_meets F.slot_int_rmul (typeIs_int s2 n t) F.entry_int_rmul (F.args_int_rmul_2 _ _) (lm_int_rmul_list_any n t a items n0 none #[])
      ⟨e0, rfl, ⟨_, e0, rfl⟩, call_meets F.slot_list_mul ⟨_, e0, rfl⟩ F.entry_list_mul (F.args_list_mul_2 _ _)
        (lm_list_mul_any a items n0 none #[] n t (by simp [Builtin.List.listFitsIndex]; lia) (by lia) (by simp [Builtin.List.listTooLong, sizeLine]; lia))
        ⟨e0, ?_⟩⟩)
  rw [listMul_foldl_if, hv1, lm_rep_flat_one]
  have hn : s2.heap.get? s2.heap.objs.size = none := fresh_none (Nat.le_refl _)
  have hq : (s2.heap.push { cls := .type "list", data := .seq (List.replicate n.toNat v).toArray }).PlainList s2.heap.objs.size (List.replicate n.toNat v).toArray := ⟨_, Heap.get?_push_size _ rfl⟩
  refine hQ _ _ (· = s2.heap.objs.size) ((k1.trans k2).trans (Kp.push _ s2.toks)) (fun b hb => ?_) ⟨_, _, rfl, rfl, hq, ?_, by rw [List.length_replicate, hlid]; exact hn'⟩
  · subst hb
    refine ⟨?_, ⟨_, hq.choose_spec⟩, rfl⟩
    cases e : s.heap.get? s2.heap.objs.size with
    | none => rfl
    | some o => obtain ⟨_, z⟩ := (k1.trans k2).al e; rw [hn] at z; cases z
  · refine RpL.agr Agr.push _ _ (RpL.sub (fun b o e q => q.elim id fun q => ?_) _ _ (RpL.agr k2.agr _ _ (RpL.rep rv n.toNat)))
    rw [q, hn] at e; cases e

theorem wpAny_setItem_pl {A : Around} {E : Value → Shared → Prop} {s : Shared} {l : Addr} {items : Array Value} {k : Int} {t : Tok} {v : Value} {Q : Unit → Shared → Prop} (hp : s.heap.PlainList l items)
    (h0 : 0 ≤ k) (hfit : k < 2 ^ 63) (hn : k < items.size)
    (hQ : ∀ h', h'.PlainList l (items.setIfInBounds k.toNat v) → Heap.SameBut l s.heap h' → Q () { s with heap := h' }) :
    wpAny (model prog w) A (setItem (.ref l) (.int k t) v) Q E s := by
  obtain ⟨n, hol⟩ := id hp
  have hl := hp.isList
  obtain ⟨o, ho, hc, ne, hd⟩ := id hl
  unfold setItem
  try with_reducible refine wpAny_holding ?_
  first | refine wpAny_bind (wpAny_pure ?_) | skip
  refine wpAny_bind (wpAny_sequenceKey hl.typeIs (by decide) ?_)
  refine wpAny_bind (wpAny_callSpecial?_slot (name := Str.ofString "__setitem__") hl.typeIs slot_list_setitem
    (wpAny_call_entry slot_list_setitem hl.typeIs entry_list_setitem ?_ (args_list_setitem _ _ _)))
  show wpAny _ _ (Builtin.List.listSubscript? (.int k t) >>= _) _ _ s
  refine wpAny_bind (wpAny_listSubscript_int (fitsIndex_of h0 hfit) ?_)
  clear hfit
  obtain ⟨j, rfl⟩ := Int.eq_ofNat_of_zero_le h0
  have hj : j < items.size := by lia
  have hx' : items[j]? = some items[j] := Array.getElem?_eq_getElem hj
  show wpAny _ _ ((seqItemAt l j >>= fun r => pure (r.map (j, ·))) >>= _) _ _ s
  refine wpAny_bind (wpAny_bind (wpAny_seqItemAt ho hd (wpAny_pure ?_)))
  rw [hx']
  show wpAny _ _ (setSeqItemAt l j v >>= _) _ _ s
  have hfin : (s.heap.update l (Obj.mapSeq (·.setIfInBounds j v))).PlainList l (items.setIfInBounds j v) := ⟨_, IsL.update (n := n) hol _⟩
  refine wpAny_bind (wpAny_setSeqItemAt ho hd ?_)
  first
    | exact wpAny_bind (wpAny_pure (wpAny_pure ⟨.none, rfl, wpAny_pure (hQ _ hfin (Heap.SameBut.update ..))⟩))
    | exact wpAny_pure ⟨.none, rfl, wpAny_pure (hQ _ hfin (Heap.SameBut.update ..))⟩
end
end Mine
end
section
open PySem PyProof.Rows
set_option Elab.async false
set_option linter.unusedVariables false
namespace Mine

/-! ## digits -/
theorem or_sub (x s : Nat) : x ||| (x / 2 ^ s * 2 ^ s) = x := by
  apply Nat.eq_of_testBit_eq
  intro i
  rw [← Nat.shiftRight_eq_div_pow, ← Nat.shiftLeft_eq, Nat.testBit_or, Nat.testBit_shiftLeft, Nat.testBit_shiftRight]
  by_cases h : i ≥ s
  · simp [h, Nat.add_sub_cancel' h]
  · simp [h]
theorem and_sub (x s : Nat) : x &&& (x / 2 ^ s * 2 ^ s) = x / 2 ^ s * 2 ^ s := by
  apply Nat.eq_of_testBit_eq
  intro i
  rw [← Nat.shiftRight_eq_div_pow, ← Nat.shiftLeft_eq, Nat.testBit_and, Nat.testBit_shiftLeft, Nat.testBit_shiftRight]
  by_cases h : i ≥ s
  · simp [h, Nat.add_sub_cancel' h]
  · simp [h]
theorem bitNot_bitNot (x : Int) : Builtin.bitNot (Builtin.bitNot x) = x := by
  unfold Builtin.bitNot; lia
theorem bitAnd_nat (x y : Nat) : Builtin.bitAnd (x : Int) (y : Int) = ((x &&& y : Nat) : Int) := by
  unfold Builtin.bitAnd; simp
theorem bitOr_nat (x y : Nat) : Builtin.bitOr (x : Int) (y : Int) = ((x ||| y : Nat) : Int) := by
  have hx : ¬ (0 ≤ Builtin.bitNot (x : Int)) := by unfold Builtin.bitNot; lia
  have hy : ¬ (0 ≤ Builtin.bitNot (y : Int)) := by unfold Builtin.bitNot; lia
  unfold Builtin.bitOr Builtin.bitAnd
  simp only [hx, hy, decide_false, bitNot_bitNot, Int.toNat_natCast]
theorem bitXor_low (x s : Nat) : Builtin.bitXor (x : Int) ((x / 2 ^ s * 2 ^ s : Nat) : Int) = ((x % 2 ^ s : Nat) : Int) := by
  unfold Builtin.bitXor
  rw [bitOr_nat, bitAnd_nat, or_sub, and_sub]
  have := Nat.div_add_mod x (2 ^ s)
  have h2 : x / 2 ^ s * 2 ^ s = 2 ^ s * (x / 2 ^ s) := Nat.mul_comm _ _
  lia

/-- the m digits of x to the base 2^n, the lowest first -/
noncomputable def digN (n x : Nat) : Nat → List Nat
  | 0 => []
  | m + 1 => x % 2 ^ n :: digN n (x / 2 ^ n) m
noncomputable def digs (n x m : Nat) : List PyData := (digN n x m).map fun (z : Nat) => PyData.int (z : Int)
theorem digN_length (n : Nat) : ∀ (m x : Nat), (digN n x m).length = m
  | 0, _ => rfl
  | m + 1, x => by simp [digN, digN_length n m]
theorem digs_length (n x m : Nat) : (digs n x m).length = m := by simp [digs, digN_length]
theorem digN_append (n : Nat) : ∀ (h m x : Nat), digN n x (h + m) = digN n (x % 2 ^ (n * h)) h ++ digN n (x / 2 ^ (n * h)) m
  | 0, m, x => by simp [digN]
  | h + 1, m, x => by
    have e : h + 1 + m = (h + m) + 1 := by lia
    rw [e]
    simp only [digN, List.cons_append]
    have e1 : 2 ^ (n * (h + 1)) = 2 ^ n * 2 ^ (n * h) := by rw [← Nat.pow_add]; congr 1; rw [Nat.mul_add]; lia
    have p1 : x % 2 ^ (n * (h + 1)) % 2 ^ n = x % 2 ^ n := by rw [e1]; exact Nat.mod_mul_right_mod x _ _
    have p2 : x % 2 ^ (n * (h + 1)) / 2 ^ n = x / 2 ^ n % 2 ^ (n * h) := by rw [e1]; exact Nat.mod_mul_right_div_self x _ _
    have p3 : x / 2 ^ (n * (h + 1)) = x / 2 ^ n / 2 ^ (n * h) := by rw [e1, Nat.div_div_eq_div_mul]
    rw [p1, p2, p3, digN_append n h m (x / 2 ^ n)]
theorem digs_append (n x h m : Nat) : digs n x (h + m) = digs n (x % 2 ^ (n * h)) h ++ digs n (x / 2 ^ (n * h)) m := by
  simp only [digs, digN_append, List.map_append]
theorem digs_one {n x : Nat} (h : x < 2 ^ n) : digs n x 1 = [.int (x : Int)] := by
  simp [digs, digN, Nat.mod_eq_of_lt h]

/-- back again -/
noncomputable def undig (n : Nat) : List Nat → Nat
  | [] => 0
  | z :: r => z + 2 ^ n * undig n r
theorem undig_append (n : Nat) : ∀ a b : List Nat, undig n (a ++ b) = undig n a + 2 ^ (n * a.length) * undig n b
  | [], b => by simp [undig]
  | z :: r, b => by
    simp only [List.cons_append, undig, undig_append n r b, List.length_cons]
    have e1 : 2 ^ (n * (r.length + 1)) = 2 ^ n * 2 ^ (n * r.length) := by rw [← Nat.pow_add]; congr 1; rw [Nat.mul_add]; lia
    rw [e1, Nat.mul_add, Nat.mul_assoc]; lia
theorem undig_digN (n : Nat) : ∀ (m x : Nat), x < 2 ^ (n * m) → undig n (digN n x m) = x
  | 0, x, h => by simp at h; simp [digN, undig, h]
  | m + 1, x, h => by
    have e1 : 2 ^ (n * (m + 1)) = 2 ^ n * 2 ^ (n * m) := by rw [← Nat.pow_add]; congr 1; rw [Nat.mul_add]; lia
    simp only [digN, undig]
    rw [undig_digN n m (x / 2 ^ n) (Nat.div_lt_of_lt_mul (e1 ▸ h))]
    exact Nat.mod_add_div x (2 ^ n)


theorem intBits_le {x m : Nat} (h : x < 2 ^ m) : Builtin.Int.intBits (x : Int) ≤ m := by
  unfold Builtin.Int.intBits
  by_cases h0 : x = 0
  · simp [h0]
  · have : ((x : Int) == 0) = false := by simp [h0]
    rw [this, if_neg (by decide), Int.natAbs_natCast]
    exact (Nat.log2_lt h0).mpr h
theorem fdiv_nat (x s : Nat) : ((x : Int)).fdiv (2 ^ s) = ((x / 2 ^ s : Nat) : Int) := by
  rw [Int.fdiv_eq_ediv_of_nonneg _ (by exact Int.le_of_lt (Int.pow_pos (by decide)))]
  simp
theorem RpL.set {prog : Program} {w : World} {h : Heap} {M : Addr → Prop} {ds : List PyData} {vs : List Value} (r : RpL prog w h M ds vs) (j : Nat) {d : PyData} {v : Value} (hd : Rp prog w h M d v) : RpL prog w h M (ds.set j d) (vs.set j v) := by
  refine RpL.iff (by simp [r.length]) fun i d' v' q1 q2 => ?_
  rw [List.getElem?_set] at q1 q2
  by_cases e : j = i
  · rw [if_pos e] at q1 q2
    split at q1
    · split at q2
      · cases q1; cases q2; exact hd
      · cases q2
    · cases q1
  · rw [if_neg e] at q1 q2; exact r.of_get q1 q2
section
variable {prog : Program} {w : World} {G : Gl prog w} {k : Nat} {sc : Scope} {ρ ρ' : VEnv}
theorem exec_ite {A : Around} {env : Env} {M : Addr → Prop} {s : Shared} {Q : Flow → Shared → Prop} {E : Value → Shared → Prop} {test : Expr} {body orelse : List Stmt} {pos : Pos} {b : Bool} (ho : Ok k A) (hv : EnvOk sc env) (hr : VR G env M ρ s)
    (hc : TrTo G k sc ρ test b) (h : ∀ s', Kp G.T s s' → wpAny (model prog w) A (execs (if b then body else orelse) env) Q E s') : wpAny (model prog w) A (exec (.If test body orelse pos) env) Q E s := by
  rw [exec_If]
  refine wpAny_bind (wpAny_standAt (wpAny_bind (hc A env _ s _ _ ho hv hr fun s1 k1 => ?_)))
  have := h s1 k1
  cases b with
  | true => simp only [if_true] at this ⊢; exact this
  | false => simp only [Bool.false_eq_true, if_false] at this ⊢; exact this
end
end Mine
end
section
open PySem PyProof.Rows
set_option Elab.async false
set_option linter.unusedVariables false
namespace Mine
section
variable {prog : Program} {w : World} {G : Gl prog w} {k : Nat} {sc : Scope} {ρ : VEnv}

/-! ## tables of the top -/
theorem Set.gr {K : Type} [DecidableEq K] {knd : KeyKind prog w K} {h h' : Heap} {a : Addr} {S : K → Bool} {n : Nat} (x : h.SetOf knd a S n) (e : ∀ o, NT o → h.get? a = some o → h'.get? a = some o) : h'.SetOf knd a S n := by
  obtain ⟨o, es, ep, t, q, hx, r⟩ := x
  exact ⟨o, es, ep, t, e _ (.cls hx.1) q, hx, r⟩

/-- a name of the top, read -/
theorem glob_name {x : Str} {p : Pos} {v : Value} (hx : sc.names.lookup x = some .globalImplicit) (hm : G.mg x = some v) {A : Around} {env : Env} {M : Addr → Prop} {s : Shared} {Q : Value → Shared → Prop} {E : Value → Shared → Prop}
    (hv : EnvOk sc env) (hr : VR G env M ρ s) (h : Q v s) : wpAny (model prog w) A (eval (.Name x p) env) Q E s := by
  have hgx := hv.kindG x hx
  exact Calls.Name_function_global hv.kind hgx (Calls.loadGlobal_global (hv.glob ▸ Nsp.gr G.g (hr.bnt _)) hm h) (hv.dbg (by rw [hgx]; simp))

theorem EvTo.inSet {l : Expr} {x : Str} {p pos : Pos} {i : Int} {S : Int → Bool} {a : Addr} {n : Nat} (hx : sc.names.lookup x = some .globalImplicit) (hm : G.mg x = some (.ref a)) (hS : G.hB.SetOf (intKind prog w) a S n) (hl : EvTo G k sc ρ l (.int i)) :
    EvTo G k sc ρ (.Compare l [.In] [.Name x p] pos) (.bool (S i)) := by
  intro A env M s Q E ho hv hr hQ
  refine wpAny_Compare1 (hl A env M s _ _ ho hv hr fun u s1 k1 r1 => glob_name hx hm hv (hr.keeps k1) ?_) rfl
  simp only [Rp] at r1
  obtain ⟨t, rfl⟩ := r1
  exact wpAny_inSet_of (intKind_is prog w i t) rfl (Set.gr hS ((hr.keeps k1).bnt _)) (hQ _ _ (k1.trans (Kp.tok _)) (by simp [Rp]))

noncomputable def getT (T : List (Int × Str)) (i : Int) : Option Str := (T.find? fun kv => kv.1 = i).map (·.2)
noncomputable def optS : Option Str → PyData
  | none => .none
  | some x => .str x

/-- a dict of the top, from ints to texts -/
noncomputable def TabAt (G : Gl prog w) (x : Str) (T : List (Int × Str)) : Prop :=
  ∃ a kvs, G.mg x = some (.ref a) ∧ (a == sysModules) = false ∧ G.hB.DictOf (intKind prog w) a kvs ∧ ∀ i, match getT T i with | none => valueAt kvs i = none | some y => ∃ t, valueAt kvs i = some (.str y t)

theorem EvTo.tabGet {e : Expr} {x : Str} {p apos pos : Pos} {i : Int} {T : List (Int × Str)} (hx : sc.names.lookup x = some .globalImplicit) (hT : TabAt G x T) (he : EvTo G k sc ρ e (.int i)) (n1 : NotStar e)
    (hbase : ∀ env, attributeBase (.Name x p) "get" env (eval (.Name x p) env) = eval (.Name x p) env) (hline : (apos.endLine == pos.line) = true) : EvTo G k sc ρ (.Call (.Attribute (.Name x p) "get" apos) [e] [] pos) (optS (getT T i)) := by
  intro A env M s Q E hok hv hr hQ
  obtain ⟨a, kvs, hm, hsm, hd, hval⟩ := hT
  refine method_any hok hv hr hbase PySem.F.plainAttrs_dict PySem.F.slot_dict_get PySem.F.type_dict_get (.cons n1 he .nil) (by simp) hline (glob_name hx hm hv hr ?_)
  have hd1 := Dic.gr hd (hr.bnt _)
  refine ⟨Kp.refl, hd1.typeIs, hd1.mapOf.noDict, fun vs s2 k2 r2 => ?_⟩
  obtain ⟨u, rfl, q1⟩ := r2.one
  simp only [Rp] at q1
  obtain ⟨t, rfl⟩ := q1
  have hd' := Dic.gr hd1 (k2.nt _)
  refine call_meetsIn PySem.F.slot_dict_get hd'.typeIs PySem.F.entry_dict_get (PySem.F.args_dict_get_2 _ _) (meets_dict_get (PySem.intKind prog w) a (k := i) (intKind_is prog w i t) hsm) ⟨_, hd'.mapOf, ?_⟩
  have hv1 := hval i
  refine hQ _ _ (k2.trans (Kp.tok _)) ?_
  cases hF : getT T i with
  | none => rw [hF] at hv1; simp only at hv1; rw [hv1]; simp [optS, Rp]
  | some y => rw [hF] at hv1; obtain ⟨t', hv1⟩ := hv1; rw [hv1]; simp [optS, Rp]

/-! ## dicts -/
theorem EvTo.dict0 {pos : Pos} : EvTo G k sc ρ (.Dict [] [] pos) (.dict (dk [])) := by
  intro A env M s Q E ho hv hr hQ
  refine EvIt.dict0 A env M s Q E ho hv hr fun v s' N k1 hn hi => ?_
  obtain ⟨a, kvs, rfl, hNa, hsm, hd, hr', hl⟩ := hi
  have hk : kvs = [] := by have := hr'.length; simpa [dk] using this
  subst hk
  refine hQ _ _ k1 ?_
  simp only [Rp, dk, List.map_nil, RpD]
  refine ⟨a, [], rfl, fun q => ?_, hsm, hd, rfl, by simp [lid]⟩
  obtain ⟨o, e⟩ := hr.dom a q
  rw [(hn a hNa).1] at e; cases e

/-- a dict that holds something is not the empty one -/
theorem CmpOk.eqDict0 {D : List (PyData × PyData)} (h : D ≠ []) : CmpOk G k .Eq (.dict D) (.dict (dk [])) false := by
  intro A M s u v Q E ho r1 r2 hQ
  simp only [Rp] at r1 r2
  obtain ⟨a, ka, rfl, _, sa, da, ra, _⟩ := r1
  obtain ⟨b, kb, rfl, _, sb, db, rb, _⟩ := r2
  have hb : kb = [] := by have := rb.length; simpa [dk] using this
  subst hb
  have ha : ka.length = D.length := ra.length
  have hne : ¬ ka.length = ([] : List (Str × Value)).length := by
    rw [ha]; simpa using h
  refine PySem.W.keq_eq (r := false) sa sb da db (by have := ho.units; have : cLine = 9900 := rfl; lia) (fun e => absurd e hne) ?_
  rw [Bool.and_false]
  exact hQ _ Kp.refl

/-- return of a dict that grew -/
theorem ExTo.retMud {x : Str} {p pos : Pos} {rest : List Stmt} {P : Out → Prop} {D : List (PyData × PyData)} (hx : (x, .mud D) ∈ ρ) (hp : P (.ret (.dict D))) : ExTo G k sc ρ (.Return (some (.Name x p)) pos :: rest) P := by
  intro A env M0 L Wc Z s0 s Q E ho hv t hQ hR
  refine wpAny_execs_cons ?_
  rw [exec_Return_some]
  obtain ⟨a, kvs, ha, hm, hl, hsm, h3, h4, h5⟩ := t.fm.vr.ent _ _ hx
  obtain ⟨a', ha', hz⟩ := t.fm.ym _ _ hx trivial
  cases ha.det ha'
  have hq : Q (.ret (.ref a)) s := hR _ _ s hp t.kp (by
    simp only [Rp]
    refine ⟨a, kvs, rfl, fun q => ?_, hsm, h3, RpD.sub (fun a o e q => .inl q) _ _ h4, h5⟩
    obtain ⟨o, e⟩ := t.d0 a q
    rw [t.fr a (.inr (.inl hz))] at e; cases e)
  exact wpAny_bind (wpAny_standAt (wpAny_bind (ha.name hv (wpAny_pure hq))))
end
end Mine
end
section
open PySem PyProof.Rows
set_option Elab.async false
set_option linter.unusedVariables false
namespace Mine
section
variable {prog : Program} {w : World} {G : Gl prog w} {k : Nat} {sc csc : Scope} {ρ ρc : VEnv}

theorem BindTo.nameNew {y : Str} {p : Pos} {x : PyData} (hy : OwnName sc y) (hn : NotIn y ρ) : BindTo G k sc ρ (.Name y p) x ((y, .own x) :: ρ) := BindTo.name hy (.fresh hn)

/-- [elt for y in iter] -/
theorem EvTo.cmpN {α : Type} {f g : α → PyData} {elt iter : Expr} {y : Str} {p pos : Pos} {xs : List α}
    (hc : compOk sc csc = true) (hρ : Filt csc ρ ρc) (hit : ItTo G k sc ρ (.Name y p) false iter (xs.map f)) (hs : ∀ env x, foldedSetIterable iter env x = pure x)
    (hy : OwnName csc y) (hn : NotIn y ρc) (he : ∀ x, x ∈ xs → EvTo G k csc ((y, .own (f x)) :: ρc) elt (g x)) (hl : xs.length ≤ lid) :
    EvTo G k sc ρ (.ListComp elt [⟨.Name y p, iter, [], 0⟩] csc pos) (.list (xs.map g)) :=
  EvTo.compMap (ρ' := fun x => (y, .own (f x)) :: ρc) hc hρ hit hs (fun x => .nameNew hy hn) (fun x q h => List.mem_cons_of_mem _ h) he hl
/-- [elt for y in iter if c] -/
theorem EvTo.cmpIfN {α : Type} {f g : α → PyData} {elt iter c : Expr} {y : Str} {p pos : Pos} {xs : List α} {b : α → Bool}
    (hc : compOk sc csc = true) (hρ : Filt csc ρ ρc) (hit : ItTo G k sc ρ (.Name y p) false iter (xs.map f)) (hs : ∀ env x, foldedSetIterable iter env x = pure x)
    (hy : OwnName csc y) (hn : NotIn y ρc) (hp : ∀ x, x ∈ xs → TrTo G k csc ((y, .own (f x)) :: ρc) c (b x)) (he : ∀ x, x ∈ xs → b x = true → EvTo G k csc ((y, .own (f x)) :: ρc) elt (g x)) (hl : xs.length ≤ lid) :
    EvTo G k sc ρ (.ListComp elt [⟨.Name y p, iter, [c], 0⟩] csc pos) (.list ((xs.filter b).map g)) :=
  EvTo.compIf (ρ' := fun x => (y, .own (f x)) :: ρc) hc hρ hit hs (fun x => .nameNew hy hn) (fun x q h => List.mem_cons_of_mem _ h) hp he hl

theorem BindTo.pairNew {y z : Str} {p q pos : Pos} {c : Nat} {x u : PyData} (hy : OwnName sc y) (hz : OwnName sc z) (hn : NotIn y ρ) (hm : NotIn z ρ) (hne : y ≠ z) : BindTo G k sc ρ (.Tuple [.Name y p, .Name z q] c pos) (.tuple [x, u]) ((z, .own u) :: (y, .own x) :: ρ) :=
  BindTo.tuple (.cons _ _ _ _ _ _ _ (fun _ _ => rfl) (.nameNew hy hn) (.cons _ _ _ _ _ _ _ (fun _ _ => rfl) (.nameNew hz (.cons hne hm)) (.nil _)))

/-- [elt for y, z in iter if c] -/
theorem EvTo.cmpIfP {α : Type} {f1 f2 g : α → PyData} {elt iter c : Expr} {y z : Str} {p q tp pos : Pos} {cc : Nat} {xs : List α} {b : α → Bool}
    (hc : compOk sc csc = true) (hρ : Filt csc ρ ρc) (hit : ItTo G k sc ρ (.Tuple [.Name y p, .Name z q] cc tp) false iter (xs.map fun x => .tuple [f1 x, f2 x])) (hs : ∀ env x, foldedSetIterable iter env x = pure x)
    (hy : OwnName csc y) (hz : OwnName csc z) (hn : NotIn y ρc) (hm : NotIn z ρc) (hne : y ≠ z) (hp : ∀ x, x ∈ xs → TrTo G k csc ((z, .own (f2 x)) :: (y, .own (f1 x)) :: ρc) c (b x)) (he : ∀ x, x ∈ xs → b x = true → EvTo G k csc ((z, .own (f2 x)) :: (y, .own (f1 x)) :: ρc) elt (g x)) (hl : xs.length ≤ lid) :
    EvTo G k sc ρ (.ListComp elt [⟨.Tuple [.Name y p, .Name z q] cc tp, iter, [c], 0⟩] csc pos) (.list ((xs.filter b).map g)) :=
  EvTo.compIf (ρ' := fun x => (z, .own (f2 x)) :: (y, .own (f1 x)) :: ρc) hc hρ hit hs (fun x => .pairNew hy hz hn hm hne) (fun x q h => List.mem_cons_of_mem _ (List.mem_cons_of_mem _ h)) hp he hl

theorem enumD_map {α : Type} (f : α → PyData) : ∀ (xs : List α) (n : Nat), enumD n (xs.map f) = (xs.zipIdx n).map fun x => .tuple [.int (x.2 : Int), f x.1]
  | [], _ => rfl
  | x :: xs, n => by simp [enumD, List.zipIdx_cons, enumD_map f xs (n + 1)]
theorem rangeL_nat (n : Nat) : rangeL 0 (n : Int) 1 = (List.range n).map fun i : Nat => (i : Int) := by
  unfold rangeL Builtin.Range.rangeSize
  simp only [Int.zero_lt_one, if_true, Int.zero_add, Int.mul_one]
  by_cases h : (0 : Int) < n
  · rw [if_pos h]
    have : ((n : Int) - 0 - 1) / 1 + 1 = n := by lia
    rw [this]; rfl
  · rw [if_neg h]
    have : n = 0 := by lia
    subst this; rfl
theorem small_nat {n : Nat} (h : n < 2 ^ 30) : Builtin.Range.small 0 (n : Int) 1 = true := small_one (by decide) (by decide) (by lia) (by lia)
/-- range(n) -/
theorem ItTo.rangeN {tgt : Expr} {cf : Bool} {x : Str} {p pos : Pos} {e : Expr} {n : Nat} (hx : sc.names.lookup x = some .globalImplicit) (hm : G.mg x = none) (hb : G.mb x = some (.type "range")) (he : EvTo G k sc ρ e (.int (n : Int))) (hn : NotStar e)
    (hs : n < 2 ^ 30) : ItTo G k sc ρ tgt cf (.Call (.Name x p) [e] [] pos) ((List.range n).map fun i : Nat => .int (i : Int)) := by
  have := ItTo.range1 (tgt := tgt) (cf := cf) (p := p) (pos := pos) hx hm hb he hn (small_nat hs)
  rw [rangeL_nat, List.map_map] at this
  exact this
end
end Mine
end
section
open PySem PyProof.Rows
set_option Elab.async false
set_option linter.unusedVariables false
namespace Mine
section
variable {prog : Program} {w : World} {G : Gl prog w} {k : Nat} {sc csc : Scope} {ρ ρc : VEnv}

/-! ## a dict written out, its keys texts -/
inductive EvPairs (G : Gl prog w) (k : Nat) (sc : Scope) (ρ : VEnv) : List (Option Expr) → List Expr → List (Str × PyData) → Prop
  | nil : EvPairs G k sc ρ [] [] []
  | cons {ke ve ks vs x d F} : EvTo G k sc ρ ke (.str x) → EvTo G k sc ρ ve d → EvPairs G k sc ρ ks vs F → EvPairs G k sc ρ (some ke :: ks) (ve :: vs) ((x, d) :: F)

theorem EvPairs.shape {keys : List (Option Expr)} {values : List Expr} {F : List (Str × PyData)} (h : EvPairs G k sc ρ keys values F) : keys.all (·.isSome) = true ∧ keys.length = values.length := by
  induction h with
  | nil => exact ⟨rfl, rfl⟩
  | cons _ _ _ ih => exact ⟨by simpa using ih.1, by simp [ih.2]⟩

theorem EvPairs.run {keys : List (Option Expr)} {values : List Expr} {F : List (Str × PyData)} (h : EvPairs G k sc ρ keys values F) : ∀ {A : Around} {env : Env} {M : Addr → Prop} {s : Shared} {Q : List (Value × Value) → Shared → Prop} {E : Value → Shared → Prop} {pos : Pos},
    Ok k A → EnvOk sc env → VR G env M ρ s → (∀ vs kvs s', Kp G.T s s' → allStrKeys vs = true → strPairs vs = kvs → RpD prog w s'.heap M (dk F) kvs → Q vs s') → wpAny (model prog w) A (evalPairs (pairTrees keys values env pos)) Q E s := by
  induction h with
  | nil => intro A env M s Q E pos ho hv hr hQ; exact pairTrees_nil_walk (hQ [] [] s Kp.refl rfl rfl (by simp [dk, RpD]))
  | @cons ke ve ks vs x d F hk hd _ ih =>
    intro A env M s Q E pos ho hv hr hQ
    refine pairTrees_cons_walk (hk A env M s _ _ ho hv hr fun u s1 k1 r1 => hd A env M s1 _ _ ho hv (hr.keeps k1) fun v s2 k2 r2 => ih ho hv (hr.keeps (k1.trans k2)) fun vs kvs s3 k3 h1 h2 h3 => ?_)
    simp only [Rp] at r1
    obtain ⟨t, rfl⟩ := r1
    refine hQ _ ((x, v) :: kvs) s3 ((k1.trans k2).trans k3) h1 (by simp [strPairs, h2]) ?_
    simp only [dk, List.map_cons, RpD]
    exact ⟨x, v, kvs, rfl, rfl, Rp.agr k3.agr _ _ r2, h3⟩

theorem EvTo.dictS {keys : List (Option Expr)} {values : List Expr} {F : List (Str × PyData)} {pos : Pos} (h : EvPairs G k sc ρ keys values F) (h0 : keys ≠ []) (hlen : keys.length ≤ 15) (hn : (F.map (·.1)).Nodup) (hF : F.length ≤ lid) :
    EvTo G k sc ρ (.Dict keys values pos) (.dict (dk F)) := by
  intro A env M s Q E ho hv hr hQ
  have hsh := h.shape
  have hfn : s.heap.get? s.heap.objs.size = none := fresh_none (Nat.le_refl _)
  refine wpAny_Dict_walk (knd := PySem.strKind prog w) hsh.1 hsh.2 h0 hlen ?_
  have k0 : Kp G.T s { s with heap := s.heap.push { cls := .type "dict", data := .dict #[] } } := Kp.push _ s.toks
  have hr0 : VR G env (fun a => M a ∨ a = s.heap.objs.size) ρ { s with heap := s.heap.push { cls := .type "dict", data := .dict #[] } } :=
    hr.grow k0 (fun b hb => hb ▸ hfn) (fun b hb => hb ▸ ⟨_, Heap.get?_push_size _ rfl⟩)
  have hd0 : (s.heap.push { cls := .type "dict", data := .dict #[] }).DictOf (PySem.strKind prog w) s.heap.objs.size [] := Heap.DictOf.new s.heap
  refine h.run ho hv hr0 fun vs kvs s1 k1 a1 a2 a3 => ?_
  have hkeys := RpD.keys a3
  have hd1 : s1.heap.DictOf (PySem.strKind prog w) s.heap.objs.size [] := Dic.gr hd0 (k1.nt _)
  refine display_done_str a1 (by rw [a2, hkeys]; exact hn) hd1 fun h' hd' hs' => ?_
  rw [a2] at hd'
  have kk : Kp G.T s { s1 with heap := h', toks := s1.toks + vs.length } := by
    obtain ⟨⟨h1, t1, rfl⟩, hk1⟩ := k0.trans k1
    refine ⟨⟨h', _, rfl⟩, fun b o e => (hk1 b o e).trans (fun c o2 ic e2 => .inl ((hs'.2 c fun q => ?_).trans e2)) fun o2 e2 => .inl ((hs'.2 b fun q => by rw [q, hfn] at e; cases e).trans e2)⟩
    obtain ⟨od, es, ep, hod, _, hdd, _⟩ := hd1
    rw [q] at e2
    rw [hod] at e2; cases e2
    exact notCoD hdd ic
  refine hQ _ _ kk ?_
  simp only [Rp]
  refine ⟨s.heap.objs.size, kvs, rfl, fun q => ?_, ?_, hd', RpD.sub (fun a o e q => .inl q) _ _ (RpD.agr (fun b o hb n e => (hs'.2 b fun q => hb (.inr q)).trans e) _ _ a3), by rw [dk_length]; exact hF⟩
  · obtain ⟨o, e⟩ := hr.dom _ q
    rw [hfn] at e; cases e
  · obtain ⟨_, h0⟩ := (hr.base mainGlobals _ G.g.choose_spec.choose_spec.choose_spec.1).al
    have hlt : mainGlobals < s.heap.objs.size := Heap.lt_size h0
    have : (1 : Nat) < s.heap.objs.size := Nat.lt_of_le_of_lt (by decide) hlt
    exact beq_eq_false_iff_ne.mpr (Nat.ne_of_gt this)

theorem ExTo.body {ss ss' : List Stmt} {P : Out → Prop} (h : ss = ss') (hx : ExTo G k sc ρ ss' P) : ExTo G k sc ρ ss P := h ▸ hx

/-! ## numbers from nought up -/
noncomputable def natL (xs : List Nat) : List PyData := xs.map fun z : Nat => .int (z : Int)
theorem EvTo.natC {n c : Nat} {pos : Pos} : EvTo G k sc ρ (.Constant (.int (n : Int)) c pos) (.int (n : Int)) := EvTo.intC
theorem EvTo.addN {l r : Expr} {pos : Pos} {a b : Nat} (ha : EvTo G k sc ρ l (.int (a : Int))) (hb : EvTo G k sc ρ r (.int (b : Int))) : EvTo G k sc ρ (.BinOp l .Add r pos) (.int ((a + b : Nat) : Int)) :=
  EvTo.cast (EvTo.add ha hb) (by rw [Int.natCast_add])
theorem EvTo.subN {l r : Expr} {pos : Pos} {a b : Nat} (ha : EvTo G k sc ρ l (.int (a : Int))) (hb : EvTo G k sc ρ r (.int (b : Int))) (h : b ≤ a) : EvTo G k sc ρ (.BinOp l .Sub r pos) (.int ((a - b : Nat) : Int)) :=
  EvTo.cast (EvTo.sub ha hb) (by rw [Int.ofNat_sub h])
theorem EvTo.mulN {l r : Expr} {pos : Pos} {a b : Nat} (ha : EvTo G k sc ρ l (.int (a : Int))) (hb : EvTo G k sc ρ r (.int (b : Int))) (hm : IntMulOk (a : Int) (b : Int)) : EvTo G k sc ρ (.BinOp l .Mult r pos) (.int ((a * b : Nat) : Int)) :=
  EvTo.cast (EvTo.mul ha hb hm) (by rw [Int.natCast_mul])
theorem EvTo.modN {l r : Expr} {pos : Pos} {a b : Nat} (ha : EvTo G k sc ρ l (.int (a : Int))) (hb : EvTo G k sc ρ r (.int (b : Int))) (h0 : b ≠ 0) : EvTo G k sc ρ (.BinOp l .Mod r pos) (.int ((a % b : Nat) : Int)) :=
  EvTo.cast (EvTo.fmod ha hb (by lia)) (by rw [Int.fmod_eq_emod_of_nonneg _ (by lia)]; rfl)
theorem EvTo.divN {l r : Expr} {pos : Pos} {a b : Nat} (ha : EvTo G k sc ρ l (.int (a : Int))) (hb : EvTo G k sc ρ r (.int (b : Int))) (h0 : b ≠ 0) (hs : b.log2 < 9000) : EvTo G k sc ρ (.BinOp l .FloorDiv r pos) (.int ((a / b : Nat) : Int)) :=
  EvTo.cast (EvTo.fdiv ha hb (by lia) (by simpa using hs)) (by rw [Int.fdiv_eq_ediv_of_nonneg _ (by lia)]; rfl)
theorem EvTo.powN {l r : Expr} {pos : Pos} {a b : Nat} (ha : EvTo G k sc ρ l (.int (a : Int))) (hb : EvTo G k sc ρ r (.int (b : Int))) (hs : (Builtin.Int.intBits (a : Int) : Int) * b ≤ 2 ^ 27) : EvTo G k sc ρ (.BinOp l .Pow r pos) (.int ((a ^ b : Nat) : Int)) :=
  EvTo.cast (EvTo.pow ha hb (by lia) hs) (by rw [Int.toNat_natCast, Int.natCast_pow])
theorem EvTo.itemNat {e i : Expr} {pos : Pos} {xs : List Nat} {n v : Nat} (he : EvL G k sc ρ e (natL xs)) (hi : EvTo G k sc ρ i (.int (n : Int))) (hd : xs[n]? = some v)
    (hs : ∀ o i', subscripted i false o i' = operate [o, i'] (getItem o i')) : EvTo G k sc ρ (.Subscript e i pos) (.int (v : Int)) :=
  EvTo.item he hi (by lia) (by rw [Int.toNat_natCast]; unfold natL; rw [List.getElem?_map, hd]; rfl) hs

variable {ρ' : VEnv}
/-- y = [elt for x in iter], at rest -/
theorem Step.cmpN {α : Type} {f g : α → PyData} {elt iter : Expr} {y z : Str} {p q pos spos : Pos} {xs : List α}
    (hc : compOk sc csc = true) (hρ : Filt csc ρ ρc) (hit : ItTo G k sc ρ (.Name y p) false iter (xs.map f)) (hs : ∀ env x, foldedSetIterable iter env x = pure x)
    (hy : OwnName csc y) (hn : NotIn y ρc) (he : ∀ x, x ∈ xs → EvTo G k csc ((y, .own (f x)) :: ρc) elt (g x)) (hl : xs.length ≤ lid) (hz : OwnName sc z) (hu : Upd z (.own (.list (xs.map g))) ρ ρ') :
    Step G k sc ρ (.Assign [.Name z q] (.ListComp elt [⟨.Name y p, iter, [], 0⟩] csc pos) spos) ρ' :=
  Step.assignComp (f := f) (o := fun x => [g x]) (b := .own (.list (xs.map g))) (.inr (by rw [flatMap_single])) hc hρ hit hs (fun x hx => .map1 (.nameNew hy hn) (fun q h => List.mem_cons_of_mem _ h) (he x hx)) (by rw [flatMap_single]; simpa using hl) hz hu
/-- the same, to grow -/
theorem Step.cmpNMu {α : Type} {f g : α → PyData} {elt iter : Expr} {y z : Str} {p q pos spos : Pos} {xs : List α}
    (hc : compOk sc csc = true) (hρ : Filt csc ρ ρc) (hit : ItTo G k sc ρ (.Name y p) false iter (xs.map f)) (hs : ∀ env x, foldedSetIterable iter env x = pure x)
    (hy : OwnName csc y) (hn : NotIn y ρc) (he : ∀ x, x ∈ xs → EvTo G k csc ((y, .own (f x)) :: ρc) elt (g x)) (hl : xs.length ≤ lid) (hz : OwnName sc z) (hu : Upd z (.mu (xs.map g)) ρ ρ') :
    Step G k sc ρ (.Assign [.Name z q] (.ListComp elt [⟨.Name y p, iter, [], 0⟩] csc pos) spos) ρ' :=
  Step.assignComp (f := f) (o := fun x => [g x]) (b := .mu (xs.map g)) (.inl (by rw [flatMap_single])) hc hρ hit hs (fun x hx => .map1 (.nameNew hy hn) (fun q h => List.mem_cons_of_mem _ h) (he x hx)) (by rw [flatMap_single]; simpa using hl) hz hu
/-- y = [elt for x in iter if c] -/
theorem Step.cmpIfN {α : Type} {f g : α → PyData} {elt iter c : Expr} {y z : Str} {p q pos spos : Pos} {xs : List α} {b : α → Bool}
    (hc : compOk sc csc = true) (hρ : Filt csc ρ ρc) (hit : ItTo G k sc ρ (.Name y p) false iter (xs.map f)) (hs : ∀ env x, foldedSetIterable iter env x = pure x)
    (hy : OwnName csc y) (hn : NotIn y ρc) (hp : ∀ x, x ∈ xs → TrTo G k csc ((y, .own (f x)) :: ρc) c (b x)) (he : ∀ x, x ∈ xs → b x = true → EvTo G k csc ((y, .own (f x)) :: ρc) elt (g x)) (hl : xs.length ≤ lid) (hz : OwnName sc z) (hu : Upd z (.own (.list ((xs.filter b).map g))) ρ ρ') :
    Step G k sc ρ (.Assign [.Name z q] (.ListComp elt [⟨.Name y p, iter, [c], 0⟩] csc pos) spos) ρ' :=
  Step.assignComp (f := f) (o := fun x => if b x then [g x] else []) (b := .own (.list ((xs.filter b).map g))) (.inr (by rw [flatMap_if])) hc hρ hit hs (fun x hx => .if1 (.nameNew hy hn) (fun q h => List.mem_cons_of_mem _ h) (hp x hx) (he x hx)) (by rw [flatMap_if, List.length_map]; exact Nat.le_trans (List.length_filter_le _ _) hl) hz hu
/-- w = [elt for y, z in iter] -/
theorem Step.cmpP {α : Type} {f1 f2 g : α → PyData} {elt iter : Expr} {y z u : Str} {p q r tp pos spos : Pos} {cc : Nat} {xs : List α}
    (hc : compOk sc csc = true) (hρ : Filt csc ρ ρc) (hit : ItTo G k sc ρ (.Tuple [.Name y p, .Name z q] cc tp) false iter (xs.map fun x => .tuple [f1 x, f2 x])) (hs : ∀ env x, foldedSetIterable iter env x = pure x)
    (hy : OwnName csc y) (hz : OwnName csc z) (hn : NotIn y ρc) (hm : NotIn z ρc) (hne : y ≠ z) (he : ∀ x, x ∈ xs → EvTo G k csc ((z, .own (f2 x)) :: (y, .own (f1 x)) :: ρc) elt (g x)) (hl : xs.length ≤ lid) (hw : OwnName sc u) (hu : Upd u (.own (.list (xs.map g))) ρ ρ') :
    Step G k sc ρ (.Assign [.Name u r] (.ListComp elt [⟨.Tuple [.Name y p, .Name z q] cc tp, iter, [], 0⟩] csc pos) spos) ρ' :=
  Step.assignComp (f := fun x => .tuple [f1 x, f2 x]) (o := fun x => [g x]) (b := .own (.list (xs.map g))) (.inr (by rw [flatMap_single])) hc hρ hit hs (fun x hx => .map1 (.pairNew hy hz hn hm hne) (fun q h => List.mem_cons_of_mem _ (List.mem_cons_of_mem _ h)) (he x hx)) (by rw [flatMap_single]; simpa using hl) hw hu
theorem Step.tupSwN {ts es : List Expr} {c c' : Nat} {p p' pos : Pos} {ys : List Str} {bs : List B} (he : EvIts G k sc ρ es bs) (hts : Names ts ys) (hu : UpdAll sc ys.reverse bs.reverse ρ ρ') (hk : sc.kind = .function) (hw : swappedStores [.Tuple ts c p] (.Tuple es c' p') (envOf sc) = pure (some ys)) (hl : bs.length ≤ lid) :
    Step G k sc ρ (.Assign [.Tuple ts c p] (.Tuple es c' p') pos) ρ' := Step.tupSw he hu hk hw hl
end
end Mine
end
section
open PySem PyProof.Rows
set_option Elab.async false
set_option linter.unusedVariables false
namespace Mine

theorem fm_congr {α β : Type} {f g : α → Option β} : ∀ {l : List α}, (∀ x, x ∈ l → f x = g x) → l.filterMap f = l.filterMap g
  | [], _ => rfl
  | x :: l, h => by
    rw [List.filterMap_cons, List.filterMap_cons, h x List.mem_cons_self, fm_congr fun y hy => h y (List.mem_cons_of_mem _ hy)]
theorem filt_range {α : Type} : ∀ (l : List α) (c : Nat), (List.range c).filterMap (fun k => l[k]?) = l.take c
  | _, 0 => by simp
  | [], c + 1 => by
    have : (List.range (c + 1)).filterMap (fun k => ([] : List α)[k]?) = [] := by
      rw [List.filterMap_eq_nil_iff]; intro a _; simp
    simpa using this
  | x :: l, c + 1 => by
    rw [List.range_succ_eq_map, List.filterMap_cons, List.filterMap_map]
    simp only [List.getElem?_cons_zero, List.take_succ_cons]
    congr 1
    have := filt_range l c
    rw [← this]
    refine fm_congr fun k _ => ?_
    simp [Function.comp]
theorem filt_range_from {α : Type} (l : List α) (a c : Nat) : (List.range c).filterMap (fun k => l[a + k]?) = (l.drop a).take c := by
  rw [← filt_range]
  refine fm_congr fun k _ => ?_
  rw [List.getElem?_drop]
theorem range_one (a b : Nat) : sliceRange (a : Int) (b : Int) 1 = (List.range (b - a)).map fun k => a + k := by
  unfold sliceRange
  simp only [show (1 : Int) > 0 by decide, if_true]
  have e : (if (a : Int) < b then ((b : Int) - a + 1 - 1) / 1 else 0).toNat = b - a := by split <;> lia
  rw [e]
  refine List.map_congr_left fun k _ => ?_
  lia
theorem pick_one {ds : List PyData} {a b : Nat} (hb : b ≤ ds.length) : (sliceRange (a : Int) (b : Int) 1).filterMap (ds[·]?) = (ds.drop a).take (b - a) := by
  rw [range_one, List.filterMap_map]
  exact filt_range_from ds a (b - a)
theorem pick_from (ds : List PyData) (a : Nat) : pickL ds (some (a : Int)) none none = ds.drop a := by
  unfold pickL sliceBounds
  simp only [Option.getD_none, show (1 : Int) > 0 by decide, if_true]
  have h0 : ¬ ((a : Int) < 0) := by lia
  simp only [h0, if_false]
  have e : max (0 : Int) (min (a : Int) (ds.length : Int)) = ((min a ds.length : Nat) : Int) := by lia
  rw [e, pick_one (Nat.le_refl _)]
  rcases Nat.le_total a ds.length with h | h
  · rw [Nat.min_eq_left h, List.take_of_length_le (by simp)]
  · rw [Nat.min_eq_right h, Nat.sub_self, List.take_zero, List.drop_of_length_le h]
theorem pick_to (ds : List PyData) (a : Nat) : pickL ds none (some (a : Int)) none = ds.take a := by
  unfold pickL sliceBounds
  simp only [Option.getD_none, show (1 : Int) > 0 by decide, if_true]
  have h0 : ¬ ((a : Int) < 0) := by lia
  simp only [h0, if_false]
  have e : max (0 : Int) (min (a : Int) (ds.length : Int)) = ((min a ds.length : Nat) : Int) := by lia
  rw [e, show (0 : Int) = ((0 : Nat) : Int) from rfl, pick_one (Nat.min_le_right _ _), List.drop_zero, Nat.sub_zero]
  rcases Nat.le_total a ds.length with h | h
  · rw [Nat.min_eq_left h]
  · rw [Nat.min_eq_right h, List.take_of_length_le (Nat.le_refl _), List.take_of_length_le h]
theorem pick_but (ds : List PyData) : pickL ds none (some (-1)) none = ds.dropLast := by
  unfold pickL sliceBounds
  simp only [Option.getD_none, show (1 : Int) > 0 by decide, if_true, show (-1 : Int) < 0 by decide]
  have e : max (0 : Int) (min ((-1 : Int) + (ds.length : Int)) (ds.length : Int)) = ((ds.length - 1 : Nat) : Int) := by lia
  rw [e, show (0 : Int) = ((0 : Nat) : Int) from rfl, pick_one (Nat.sub_le _ _), List.drop_zero, Nat.sub_zero, List.dropLast_eq_take]
theorem pick_rev (ds : List PyData) : pickL ds none none (some (-1)) = ds.reverse := by
  unfold pickL sliceBounds
  simp only [Option.getD_some, show ¬ ((-1 : Int) > 0) by decide, if_false]
  unfold sliceRange
  simp only [show ¬ ((-1 : Int) > 0) by decide, if_false]
  have e : (if (ds.length : Int) - 1 > -1 then ((ds.length : Int) - 1 - -1 - -1 - 1) / (- -1) else 0).toNat = ds.length := by
    rw [show (ds.length : Int) - 1 - -1 - -1 - 1 = ds.length by lia, show (- -1 : Int) = 1 by decide, Int.ediv_one]
    split <;> lia
  rw [e, List.filterMap_map]
  have h2 : ds.reverse = ds.reverse.take ds.length := by rw [List.take_of_length_le (by simp)]
  rw [h2, ← filt_range]
  refine fm_congr fun k hk => ?_
  have hk := List.mem_range.mp hk
  simp only [Function.comp]
  rw [List.getElem?_reverse hk]
  congr 1
  lia

section
variable {prog : Program} {w : World} {G : Gl prog w} {k : Nat} {sc csc : Scope} {ρ ρc ρ' : VEnv}
theorem EvTo.revL {e a : Expr} {p pos : Pos} {ds : List PyData} (he : EvL G k sc ρ e ds) (ha : EvTo G k sc ρ a (.int (-1))) : EvTo G k sc ρ (.Subscript e (.Slice none none (some a) p) pos) (.list ds.reverse) :=
  EvTo.cast (EvTo.sliceL he .none .none (.some ha) (by decide)) (by rw [pick_rev])
theorem EvTo.dropL {e a : Expr} {p pos : Pos} {ds : List PyData} {n : Nat} (he : EvL G k sc ρ e ds) (ha : EvTo G k sc ρ a (.int (n : Int))) : EvTo G k sc ρ (.Subscript e (.Slice (some a) none none p) pos) (.list (ds.drop n)) :=
  EvTo.cast (EvTo.sliceL he (.some ha) .none .none (by decide)) (by rw [pick_from])
theorem EvTo.takeL {e a : Expr} {p pos : Pos} {ds : List PyData} {n : Nat} (he : EvL G k sc ρ e ds) (ha : EvTo G k sc ρ a (.int (n : Int))) : EvTo G k sc ρ (.Subscript e (.Slice none (some a) none p) pos) (.list (ds.take n)) :=
  EvTo.cast (EvTo.sliceL he .none (.some ha) .none (by decide)) (by rw [pick_to])
theorem EvTo.butL {e a : Expr} {p pos : Pos} {ds : List PyData} (he : EvL G k sc ρ e ds) (ha : EvTo G k sc ρ a (.int (-1))) : EvTo G k sc ρ (.Subscript e (.Slice none (some a) none p) pos) (.list ds.dropLast) :=
  EvTo.cast (EvTo.sliceL he .none (.some ha) .none (by decide)) (by rw [pick_but])
theorem sum_cast : ∀ xs : List Nat, (xs.map fun n : Nat => (n : Int)).sum = ((xs.sum : Nat) : Int)
  | [] => rfl
  | x :: xs => by simp [sum_cast xs]
theorem EvTo.sumN {x : Str} {p pos : Pos} {e : Expr} {ns : List Nat} (hx : sc.names.lookup x = some .globalImplicit) (hm : G.mg x = none) (hb : G.mb x = some (.builtin "sum")) (he : EvTo G k sc ρ e (.list (natL ns))) (hn : NotStar e) :
    EvTo G k sc ρ (.Call (.Name x p) [e] [] pos) (.int ((ns.sum : Nat) : Int)) :=
  EvTo.cast (EvTo.sum (ns := ns.map fun n : Nat => (n : Int)) hx hm hb (EvTo.cast he (by unfold natL; rw [List.map_map]; rfl)) hn) (by rw [sum_cast])
theorem EvTo.rshN {l r : Expr} {pos : Pos} {a b : Nat} (ha : EvTo G k sc ρ l (.int (a : Int))) (hb : EvTo G k sc ρ r (.int (b : Int))) : EvTo G k sc ρ (.BinOp l .RShift r pos) (.int ((a / 2 ^ b : Nat) : Int)) :=
  EvTo.cast (EvTo.rsh ha hb (by lia)) (by rw [Int.toNat_natCast, fdiv_nat])
theorem EvTo.maxN {e1 e2 : Expr} {p pos : Pos} {x : Str} {a b : Nat} (hx : sc.names.lookup x = some .globalImplicit) (hm : G.mg x = none) (hb : G.mb x = some (.builtin "max")) (h1 : EvTo G k sc ρ e1 (.int (a : Int))) (h2 : EvTo G k sc ρ e2 (.int (b : Int)))
    (n1 : NotStar e1) (n2 : NotStar e2) : EvTo G k sc ρ (.Call (.Name x p) [e1, e2] [] pos) (.int ((max a b : Nat) : Int)) :=
  EvTo.cast (EvTo.max2 hx hm hb h1 h2 n1 n2) (by congr 1; split <;> lia)
/-- a slice of a text, of any expression -/
theorem EvTo.sliceX {e : Expr} {l u : Option Expr} {p pos : Pos} {x : Str} {lo hi : Option Int} (he : EvTo G k sc ρ e (.str x)) (hl : PartTo G k sc ρ l lo) (hu : PartTo G k sc ρ u hi) (hsz : x.length ≤ sizeLine) :
    EvTo G k sc ρ (.Subscript e (.Slice l u none p) pos) (.str (Txt.slice x lo hi)) := by
  intro A env M s Q E ho hv hr hQ
  refine Subscript_ (he A env M s _ _ ho hv hr fun v s1 k1 r1 => wpAny_Slice (hl.run ho hv (hr.keeps k1) fun vl s2 k2 p2 => hu.run ho hv (hr.keeps (k1.trans k2)) fun vu s3 k3 p3 => PartTo.none.run ho hv (hr.keeps ((k1.trans k2).trans k3)) fun vst s4 k4 p4 => ?_))
  simp only [Rp] at r1
  obtain ⟨t, rfl⟩ := r1
  have part : ∀ {v : Value} {n : Option Int}, IsPart v n → ∃ q : Option (Int × Tok), v = partValue q ∧ q.map (·.1) = n := fun h => by
    cases h with
    | none => exact ⟨none, rfl, rfl⟩
    | int i t => exact ⟨some (i, t), rfl, rfl⟩
  obtain ⟨q1, rfl, f1⟩ := part p2
  obtain ⟨q2, rfl, f2⟩ := part p3
  cases p4
  obtain ⟨ops, hs⟩ := sub_slice_ops l u none p (.str x t) (.ref s4.heap.objs.size)
  have kk := ((k1.trans k2).trans k3).trans k4
  have key := post_val_or_str (s := { s4 with heap := s4.heap.push { cls := .type "slice", data := .fields #[partValue q1, partValue q2, .none] } }) (c := ((1 : Int) == 1 && (Builtin.Str.strSliceIndices lo hi 1 x.length).length == x.length) = true) (y := x) (z := ⟨((Builtin.Str.strSliceIndices lo hi 1 x.length).filterMap (x.cps[·]?)).toArray⟩) (t := t) (Q := Q)
    ⟨Nat.le_trans (Txt.slice_le x lo hi) hsz, fun t' k5 => hQ (.str (Txt.slice x lo hi) t') _ (kk.trans (Kp.push _ k5)) (by simp [Rp])⟩
  refine tail_any (T := "str") (ops := ops) (typeIs_str _ _ _) F.slot_str_getitem.lookup (wpAny_getItem_str_slice (l := q1) (u := q2) (st := none) ⟨_, Heap.get?_push_size _ rfl, rfl, rfl⟩ rfl ?_) hs
  unfold sliceMade slicePicked
  rw [f1, f2]
  exact key
end
end Mine
end
section
open PySem PyProof.Rows
set_option Elab.async false
set_option linter.unusedVariables false
namespace Mine
set_option autoImplicit false
theorem lay_strs : ∀ {ts : List Str}, ts.all PyData.strOk = true → PyData.canLayAll0 (ts.map .str) = true ∧ PyData.depthAll (ts.map .str) = 0
  | [], _ => ⟨rfl, rfl⟩
  | t :: ts, h => by
    simp only [List.all_cons, Bool.and_eq_true] at h
    have ih := lay_strs h.2
    simp only [List.map_cons, PyData.canLayAll0, PyData.canLay0, h.1, ih.1, PyData.depthAll, PyData.depth, ih.2, Bool.and_self, Nat.max_self, and_self]
theorem lay_ints : ∀ (ts : List Int), PyData.canLayAll0 (ts.map .int) = true ∧ PyData.depthAll (ts.map .int) = 0
  | [] => ⟨rfl, rfl⟩
  | t :: ts => by
    have ih := lay_ints ts
    simp only [List.map_cons, PyData.canLayAll0, PyData.canLay0, ih.1, PyData.depthAll, PyData.depth, ih.2, Bool.and_self, Nat.max_self, and_self]
theorem natL_ints (xs : List Nat) : natL xs = (xs.map fun n : Nat => (n : Int)).map .int := by unfold natL; rw [List.map_map]; rfl
section
variable {prog : Program} {w : World} {G : Gl prog w} {k : Nat} {sc csc : Scope} {ρ ρc ρ' : VEnv}
theorem CmpOk.neSelf {d : PyData} (h : d.canLay0 = true) (hd : d.depth ≤ 64) : CmpOk G k .NotEq d d false := by
  have := CmpOk.neD (G := G) (k := k) h h hd
  rw [PySem.SeqAt.eqv_refl d h] at this
  exact this
theorem CmpOk.neStrs {ts : List Str} (h : ts.all PyData.strOk = true) : CmpOk G k .NotEq (.list (ts.map .str)) (.list (ts.map .str)) false :=
  .neSelf (by simp only [PyData.canLay0]; exact (lay_strs h).1) (by simp only [PyData.depth, (lay_strs h).2]; decide)
theorem CmpOk.neInts {ts : List Int} : CmpOk G k .NotEq (.list (ts.map .int)) (.list (ts.map .int)) false :=
  .neSelf (by simp only [PyData.canLay0]; exact (lay_ints ts).1) (by simp only [PyData.depth, (lay_ints ts).2]; decide)
theorem CmpOk.neNats {ts : List Nat} : CmpOk G k .NotEq (.list (natL ts)) (.list (natL ts)) false := by rw [natL_ints]; exact .neInts
theorem CmpOk.nePairs {ts : List Int} : CmpOk G k .NotEq (.tuple (ts.map .int)) (.tuple (ts.map .int)) false :=
  .neSelf (by simp only [PyData.canLay0]; exact (lay_ints ts).1) (by simp only [PyData.depth, (lay_ints ts).2]; decide)
/-- if c: .. , not so -/
theorem ExTo.skipIf {test : Expr} {body rest : List Stmt} {pos : Pos} {P : Out → Prop} (hc : TrTo G k sc ρ test false) (h : ExTo G k sc ρ rest P) : ExTo G k sc ρ (.If test body [] pos :: rest) P :=
  ExTo.ite (P1 := fun o => o = .next ρ) hc (fun q => by cases q) (fun _ => ExTo.nil rfl) (fun ρ' e => by cases e; exact h) (fun d e => by cases e)
theorem keys_dk (F : List (Str × PyData)) : (dk F).map (·.1) = (F.map (·.1)).map .str := by unfold dk; rw [List.map_map, List.map_map]; rfl
end
end Mine
end
section
open PySem PyProof.Rows
set_option Elab.async false
set_option linter.unusedVariables false
namespace Mine
set_option autoImplicit false

/-- a heap without the object at a -/
noncomputable def cut (h : Heap) (a : Addr) : Heap := h.update a fun o => { o with data := .freed }
theorem cut_none (h : Heap) (a : Addr) : (cut h a).get? a = none := by
  cases e : (cut h a).get? a with
  | none => rfl
  | some o =>
    obtain ⟨h1, h2⟩ := Heap.get?_some_iff.mp e
    exfalso
    cases h with
    | mk objs =>
      simp only [cut, Heap.update, Array.getElem?_modify, if_true] at h1
      rw [Option.map_eq_some_iff] at h1
      obtain ⟨o', _, rfl⟩ := h1
      simp [Obj.isFreed] at h2
theorem cut_other {h : Heap} {a b : Addr} (n : b ≠ a) : (cut h a).get? b = h.get? b := Heap.get?_update_other h _ (Ne.symm n)
theorem cut_some {h : Heap} {a b : Addr} {o : Obj} (e : (cut h a).get? b = some o) : b ≠ a ∧ h.get? b = some o := by
  have n : b ≠ a := fun q => by rw [q, cut_none] at e; cases e
  exact ⟨n, by rw [← cut_other n]; exact e⟩
theorem dict_notCo {o : Obj} {es n} (h : o.data = .dict es n) : ¬ IsCo o := fun ⟨_, vs, q⟩ => by rw [h] at q; cases q
theorem Gr.stays {T : TabS} {base h : Heap} {b : Addr} {o : Obj} (g : Gr T base b o) (k : base.StaysIn h) : Gr T h b o := g.trans (fun c o' _ e => .inl (k c o' e)) fun o' e => .inl (k b o' e)

/-- all stands, but for the slots of one frame -/
structure SK (T : TabS) (L : Addr) (s s' : Shared) : Prop where
  same : ∃ h t, s' = { s with heap := h, toks := t }
  gr : ∀ b o, b ≠ L → s.heap.get? b = some o → Gr T s'.heap b o
  sl : ∀ o, s.heap.get? L = some o → ∃ sl, s'.heap.get? L = some { o with slots := sl }

section
variable {prog : Program} {w : World} {G : Gl prog w} {k : Nat} {sc : Scope} {ρ ρ' : VEnv}

theorem St.slots {env : Env} {M0 L Wc Z : Addr → Prop} {s0 s s' : Shared} (t : St G sc env M0 L Wc Z s0 ρ s) (k : SK G.T env.locals s s') : St G sc env M0 L Wc Z s0 ρ s' := by
  obtain ⟨oL, es, ep, hL, hLd⟩ := t.fm.locNs
  obtain ⟨slL, hL'⟩ := k.sl oL hL
  have kb : KB G.T (· = env.locals) s s' := ⟨k.same, fun b o hb e => k.gr b o hb e, fun b o i e => by
    by_cases hb : b = env.locals
    · subst hb; rw [hL] at e; cases e; exact absurd i (dict_notCo hLd)
    · exact (k.gr b o hb e).nt i.nt⟩
  have kbW : KB G.T Wc s s' := ⟨k.same, fun b o hb e => k.gr b o (fun q => hb (q ▸ t.fm.fe.wl)) e, kb.co⟩
  have ns : ∀ m, s.heap.Ns env.locals m → s'.heap.Ns env.locals m := fun m hm => by
    obtain ⟨o, es', ep', ho, hd, r⟩ := hm
    obtain ⟨sl, h'⟩ := k.sl o ho
    exact ⟨_, es', ep', h', hd, r⟩
  have hcl : ∀ x c, env.cells.lookup x = some c → ∀ vo, s.heap.IsCell c vo → s'.heap.IsCell c vo := fun x c hc vo hi => by
    obtain ⟨o, ho, hd⟩ := hi
    have hne : c ≠ env.locals := fun q => by rw [q, hL] at ho; cases ho; rw [hLd] at hd; cases hd
    exact ⟨o, (k.gr c o hne ho).nt (.cell hd), hd⟩
  have hacc : ∀ x u, Acc env s.heap x u → Acc env s'.heap x u := fun x u a => by
    rcases a with ⟨a, m, b, c⟩ | ⟨a, c, b, d⟩
    · exact .inl ⟨a, m, ns m b, c⟩
    · exact .inr ⟨a, c, b, hcl x c b _ d⟩
  have f := t.fm
  refine t.next ⟨⟨?_, f.fe.wl, ?_, ?_⟩, ⟨?_, ?_, fun x b hx => ER.kb f kbW (fun u => hacc x u) (f.vr.ent x b hx), f.vr.cel, f.vr.nd⟩, f.sub, f.nb, fun x b hx hb => ?_, f.cz, f.zs⟩ (t.kpW kb fun b hb => .inl (hb ▸ f.fe.wl)) fun x b hx hb => ⟨hx, fun u => hacc x u⟩
  · obtain ⟨m, hm⟩ := f.fe.loc; exact ⟨m, ns m hm⟩
  · intro x hx
    obtain ⟨a, c, vo, h1, h2, r⟩ := f.fe.cel x hx
    exact ⟨a, c, vo, h1, hcl x c h1 _ h2, r⟩
  · intro a o ha e
    by_cases hb : a = env.locals
    · exact .inl hb
    · obtain ⟨o', e'⟩ := f.vr.dom a (f.sub a ha)
      have e2 := (k.gr a o' hb e').nt (f.fe.nt ha e')
      rw [e2] at e; cases e
      exact f.fe.wdata a o ha e'
  · intro b o e
    have hb : b ≠ env.locals := fun q => by rw [q, f.nb _ f.fe.wl] at e; cases e
    exact (f.vr.base b o e).trans kb.code fun o' e' => k.gr b o' hb e'
  · intro a ha
    by_cases hb : a = env.locals
    · exact ⟨_, hb ▸ hL'⟩
    · obtain ⟨o, e⟩ := f.vr.dom a ha; exact (k.gr a o hb e).al
  · obtain ⟨a, h1, h2⟩ := f.ym x b hx hb
    exact ⟨a, hacc x _ h1, h2⟩

/-- what is known when an exception has left a call and comes to the frame at L -/
structure Come (G : Gl prog w) (env : Env) (X : String) (s s' : Shared) (e : Addr) : Prop where
  fl : ∃ base a0, Heap.FlyingW base [env] e (.type X) a0 s'.heap ∧ ∀ b o, b ≠ env.locals → s.heap.get? b = some o → Gr G.T base b o
  same : ∃ h t, s' = { s with heap := h, toks := t }
  sl : ∀ o, s.heap.get? env.locals = some o → ∃ sl, s'.heap.get? env.locals = some { o with slots := sl }

/-- a def whose first statement raises -/
theorem raise_call {name : Str} {params : Arguments} {body : List Stmt} {ps : List Str} (hD : DefAt G name params body sc) (hs : fnOk sc ps = true)
    (hbind : ∀ (pm c doc : Value) (vs : List Value), vs.length = ps.length → bindArgs (Calls.docDef name params body sc pm c doc) ⟨vs, []⟩ = pure (ps.zip vs))
    {test : Expr} {orelse rest : List Stmt} {x : Str} {np rpos ipos : Pos} {X N I : String} (hb : body = .If test [.Raise (some (.Name x np)) none rpos] orelse ipos :: rest)
    (hx : sc.names.lookup x = some .globalImplicit) (hmx : G.mg x = none) (hmb : G.mb x = some (.type X)) (hc : ExcClass X N I) :
    ∃ a, G.mg name = some (.ref a) ∧ (∃ o fd, G.hB.get? a = some o ∧ o.data = .func fd) ∧
      ∀ (A : Around) (M : Addr → Prop) (s : Shared) (vs : List Value) (ds : List PyData) (Q : Value → Shared → Prop) (E : Value → Shared → Prop) (env : Env), Ok (k + 1) A →
        (∀ b o, G.hB.get? b = some o → Gr G.T s.heap b o) → (∀ a, M a → ∃ o, s.heap.get? a = some o) → RpL prog w s.heap M ds vs → ds.length = ps.length →
        TrTo G k sc (ps.zip (ds.map B.own)) test true → A.frames = some [env] → env.scope.kind ≠ .module → env.frame = some env.locals → (∃ o es n, s.heap.get? env.locals = some o ∧ o.data = .dict es n) →
        (∀ s' e, Come G env X s s' e → E (.ref e) s') → wpAny (model prog w) A (call (.ref a) vs) Q E s := by
  obtain ⟨a, hm, hfd, hcall⟩ := call_body (k := k) hD hs hbind
  refine ⟨a, hm, hfd, fun A M s vs ds Q E env ho hbase hdom hr hlen ht hfr0 hkm hfe hdict hE => hcall A M s vs ds Q E ho hbase hdom hr hlen fun cenv s1 c' Wc Q' E' _ _ _ hfr hsc hvc hok hnew kp wn st hq he => ?_⟩
  subst hb
  obtain ⟨oL, esL, nL, hL, hLd⟩ := hdict
  refine wpAny_execs_cons ?_
  rw [exec_If]
  refine wpAny_bind (wpAny_standAt (wpAny_bind (ht (A.deeper cenv) cenv _ s1 _ _ hok hvc st.fm.vr fun s2 k2 => ?_)))
  simp only [if_true]
  have v2 := st.fm.vr.keeps k2
  have k02 := kp.trans k2
  refine wpAny_execs_cons (Raise_classB hok.hh hc hc.self ?_ fun h' e hn => ?_)
  · have hgx := hvc.kindG x hx
    exact Calls.Name_function_global hvc.kind hgx (Calls.loadGlobal_builtin (hvc.glob ▸ Nsp.gr G.g (v2.bnt _)) hmx (hvc.blt ▸ Nsp.gr G.b (v2.bnt _)) hmb ⟨rfl, rfl⟩) (hvc.dbg (by rw [hgx]; simp))
  · refine he _ _ ?_
    obtain ⟨ob, t0, he1, hcl, hd⟩ := hn.there
    have hne : env.locals ≠ cenv.locals := fun q => by rw [q, hnew] at hL; cases hL
    have hL2 : s2.heap.get? env.locals = some oL := (k02.tk _ _ hL).nt (.dict hLd)
    have hL3 : h'.get? env.locals = some oL := hn.keeps _ _ hL2
    obtain ⟨m1, hm1⟩ := st.fm.fe.loc
    have hm2 : s2.heap.Ns cenv.locals m1 := Nsp.gr hm1 (k2.nt _)
    obtain ⟨oc, ec, pc, hoc, hdc, _⟩ := id hm2
    have hbs : ∀ b o, (cut (cut s2.heap env.locals) cenv.locals).get? b = some o → b ≠ cenv.locals ∧ b ≠ env.locals ∧ s2.heap.get? b = some o := fun b o e => by
      obtain ⟨n1, e1⟩ := cut_some e
      obtain ⟨n2, e2⟩ := cut_some e1
      exact ⟨n1, n2, e2⟩
    have hbo : ∀ b o, b ≠ cenv.locals → b ≠ env.locals → s2.heap.get? b = some o → (cut (cut s2.heap env.locals) cenv.locals).get? b = some o := fun b o n1 n2 e => by
      rw [cut_other n1, cut_other n2]; exact e
    have hl : h'.FunFrames (cut (cut s2.heap env.locals) cenv.locals) (cenv :: [env]) :=
      Heap.FunFrames.cons (by rw [hvc.kind]; decide) hfr (hm2.keeps hn.keeps) (cut_none _ _) ⟨hkm, ⟨env.locals, oL, hfe, by rw [cut_other hne, cut_none], hL3, fun vs q => by rw [hLd] at q; cases q⟩, trivial⟩
    refine wpAny_leaving_firstW (base := cut (cut s2.heap env.locals) cenv.locals) (a0 := t0) (Around.frames_deeper hfr0) hl hfr he1 (fun b o e => hn.keeps b o (hbs b o e).2.2) ?_ hd rfl rfl fun h'' hLf => ?_
    · cases q : (cut (cut s2.heap env.locals) cenv.locals).get? e with
      | none => rfl
      | some o => have := (hbs e o q).2.2; rw [hn.new] at this; cases this
    · obtain ⟨k1, ⟨_, _, kf⟩, kt, ku⟩ := hLf
      rw [hcl] at kt
      refine hE _ e ⟨⟨cut (cut s2.heap env.locals) cenv.locals, t0, ⟨k1, ?_, kf, kt⟩, fun b o hb ho' => ?_⟩, ?_, fun o ho' => ?_⟩
      · cases q : (cut (cut s2.heap env.locals) cenv.locals).get? e with
        | none => rfl
        | some o => have := (hbs e o q).2.2; rw [hn.new] at this; cases this
      · have hb2 : b ≠ cenv.locals := fun q => by rw [q, hnew] at ho'; cases ho'
        refine (k02.tk b o ho').trans (fun c o' ic e' => .inl (hbo c o' (fun q => ?_) (fun q => ?_) e')) fun o' e' => .inl (hbo b o' hb2 hb e')
        · rw [q, hoc] at e'; cases e'; exact dict_notCo hdc ic
        · rw [q, hL2] at e'; cases e'; exact dict_notCo hLd ic
      · obtain ⟨hh, tt, q⟩ := k02.same
        exact ⟨h'', tt, by rw [q]⟩
      · rw [hL] at ho'; cases ho'
        exact ku _ _ hL3 fun vs q => by rw [hLd] at q; cases q

theorem sk_slots {h h' : Heap} {L : Addr} {o : Obj} (u : h.UpToSlots h') (hd : ∀ vs, o.data ≠ .fields vs) {sl : Array (Option Value)} (e : h.get? L = some { o with slots := sl }) : ∃ sl', h'.get? L = some { o with slots := sl' } := by
  obtain ⟨sl', e'⟩ := u L _ e hd
  exact ⟨sl', e'⟩

/-- try: f(es)  except X: y = True; the call raises X -/
theorem Try_call {A : Around} {env : Env} {M0 L Wc Z : Addr → Prop} {s0 s : Shared} {X N I : String} {fn x y : Str} {fp cp ep xp yp bp ap hp pos : Pos} {es : List Expr} {ds : List PyData} {nb : Nat} {Q : Flow → Shared → Prop} {E : Value → Shared → Prop}
    (ho : Ok k A) (hv : EnvOk sc env) (t : St G sc env M0 L Wc Z s0 ρ s) (hfr : A.frames = some [env]) (hfe : env.frame = some env.locals)
    (hcall : ∃ a, G.mg fn = some (.ref a) ∧ (∃ o fd, G.hB.get? a = some o ∧ o.data = .func fd) ∧
      ∀ (A : Around) (M : Addr → Prop) (s : Shared) (vs : List Value) (Q : Value → Shared → Prop) (E : Value → Shared → Prop) (env : Env), Ok k A →
        (∀ b o, G.hB.get? b = some o → Gr G.T s.heap b o) → (∀ a, M a → ∃ o, s.heap.get? a = some o) → RpL prog w s.heap M ds vs →
        A.frames = some [env] → env.scope.kind ≠ .module → env.frame = some env.locals → (∃ o es n, s.heap.get? env.locals = some o ∧ o.data = .dict es n) →
        (∀ s' e, Come G env X s s' e → E (.ref e) s') → wpAny (model prog w) A (call (.ref a) vs) Q E s)
    (hfn : sc.names.lookup fn = some .globalImplicit) (ha : EvAll G k sc ρ es ds) (hs1 : ∀ env, swapsWith (.Call (.Name fn fp) es [] cp) none ep.line env = pure false)
    (hx : sc.names.lookup x = some .globalImplicit) (hmx : G.mg x = none) (hmb : G.mb x = some (.type X)) (hc : ExcClass X N I) (hnt : isSubtype (.type ((Manifest.find? X).elim "type" fun x => x.metatype)) (.type "tuple") = pure false)
    (hy : OwnName sc y) (hu : Upd y (.own (.bool true)) ρ ρ') (hs2 : ∀ env, swapsWith (.Constant (.bool true) nb bp) (some (.Name y yp)) ap.line env = pure false)
    (hQ : ∀ s', St G sc env M0 L Wc Z s0 ρ' s' → Q .next s') :
    wpAny (model prog w) A (exec (.Try [.Expr (.Call (.Name fn fp) es [] cp) ep] [.ExceptHandler (some (.Name x xp)) none [.Assign [.Name y yp] (.Constant (.bool true) nb bp) ap] hp] [] [] pos) env) Q E s := by
  refine wpAny_Try_except (wpAny_execs_cons (Step.expr hv hs1 ?_))
  obtain ⟨a, hm, ⟨o, fd, hg, hd⟩, hcall⟩ := hcall
  have hgx := hv.kindG fn hfn
  have hr := t.fm.vr
  refine Call_Name rfl (Calls.Name_function_global hv.kind hgx (Calls.loadGlobal_global (hv.glob ▸ Nsp.gr G.g (hr.bnt _)) hm ?_) (hv.dbg (by rw [hgx]; simp)))
  refine Calls.callWith_function (o := o) (fd := fd) (ha.args ho hv hr fun vs s1 k1 r1 => ⟨⟨k1.nt _ _ (.func hd) (hr.bnt _ _ (.func hd) hg), hd⟩, ?_⟩)
  have hr1 := hr.keeps k1
  obtain ⟨oL, esL, nL, hL, hLd⟩ := t.fm.locNs
  have hL1 : s1.heap.get? env.locals = some oL := k1.nt _ _ (.dict hLd) hL
  have hnf : ∀ vs, oL.data ≠ .fields vs := fun vs q => by rw [hLd] at q; cases q
  refine hcall A _ s1 vs _ _ env ho hr1.base hr1.dom r1 hfr (by rw [hv.kind]; decide) hfe ⟨oL, esL, nL, hL1, hLd⟩ fun s2 e hcm => ?_
  obtain ⟨⟨base, a0, hfl, hgr⟩, hsame, hsl⟩ := hcm
  obtain ⟨sl2, e2⟩ := hsl oL hL1
  refine wpAny_looks_onW hfr hfe hfl fun h3 hh3 u3 => ?_
  obtain ⟨sl3, e3⟩ := sk_slots u3 hnf e2
  refine wpAny_landsW hh3 fun h4 hf4 u4 => ?_
  obtain ⟨sl4, e4⟩ := sk_slots u4 hnf e3
  have skOf : ∀ (h5 : Heap), base.StaysIn h5 → (∃ sl, h5.get? env.locals = some { oL with slots := sl }) → SK G.T env.locals s { s2 with heap := h5 } := fun h5 st5 e5 => by
    refine ⟨?_, fun b o' hb e' => ?_, fun o' e' => ?_⟩
    · obtain ⟨hh, tt, q⟩ := hsame
      obtain ⟨hh1, tt1, q1⟩ := k1.same
      exact ⟨h5, tt, by rw [q, q1]⟩
    · refine ((k1.tk b o' e').trans (fun c o2 ic ec => hgr c o2 (fun q => ?_) ec) fun o2 ec => hgr b o2 hb ec).stays st5
      rw [q, hL1] at ec; cases ec; exact dict_notCo hLd ic
    · rw [hL] at e'; cases e'; exact e5
  have t4 := t.slots (skOf h4 hf4.1 ⟨sl4, e4⟩)
  have hr4 := t4.fm.vr
  have hgx2 := hv.kindG x hx
  refine wpAny_handleBy_builtin (X := X) (T := X) (b := true) hc.base hnt hc.self (Calls.Name_function_global hv.kind hgx2 (Calls.loadGlobal_builtin (hv.glob ▸ Nsp.gr G.g (hr4.bnt _)) hmx (hv.blt ▸ Nsp.gr G.b (hr4.bnt _)) hmb ⟨rfl, ?_, ?_⟩) (hv.dbg (by rw [hgx2]; simp)))
  · obtain ⟨ob, he, hcls⟩ := hf4.there
    exact ⟨ob, he, hcls⟩
  · simp only [if_true]
    refine lands_againW hf4 fun h5 hf5 u5 => ?_
    obtain ⟨sl5, e5⟩ := sk_slots u5 hnf e4
    have t5 := t.slots (skOf h5 hf5.1 ⟨sl5, e5⟩)
    refine wpAny_execs_cons ?_
    rw [exec_Assign_Name env y yp _ ap (hs2 env)]
    refine wpAny_bind (wpAny_standAt (wpAny_bind (wpAny_pure ?_)))
    refine wpAny_bind (wpAny_standAt (wpAny_bind (wpAny_bindName (t5.storeOwn hv hy hu (v := .bool true) (by simp [Rp]) fun s6 k6 t6 => wpAny_pure (wpAny_execs_nil (hQ s6 t6))))))
end
theorem wp_execs_append (M : Model) (Γ : Ctx) (env : Env) (b : List Stmt) (Q : Flow → Pos → Shared → Prop) (E : Value → Pos → Shared → Prop) : ∀ (a : List Stmt) (p : Pos) (s : Shared),
    Sem.wp M Γ (execs a env) (fun f p' s' => match f with | .next => Sem.wp M Γ (execs b env) Q E p' s' | f => Q f p' s') E p s → Sem.wp M Γ (execs (a ++ b) env) Q E p s
  | [], p, s, h => h
  | st :: a, p, s, h => by
    rw [List.cons_append, execs_cons, Sem.wp_bind']
    rw [execs_cons, Sem.wp_bind'] at h
    refine Sem.wp_mono M Γ _ (fun f p' s' h' => ?_) (fun _ _ _ h' => h') _ _ h
    cases f <;> first | exact wp_execs_append M Γ env b Q E a p' s' h' | exact h'
theorem wpAny_execs_append {M : Model} {A : Around} {env : Env} {a b : List Stmt} {Q : Flow → Shared → Prop} {E : Value → Shared → Prop} {s : Shared}
    (h : wpAny M A (execs a env) (fun f s' => match f with | .next => wpAny M A (execs b env) Q E s' | f => Q f s') E s) : wpAny M A (execs (a ++ b) env) Q E s := fun Γ p hΓ => by
  refine wp_execs_append M Γ env b _ _ a p s (Sem.wp_mono M Γ _ (fun f p' s' h' => ?_) (fun _ _ _ h' => h') _ _ (h Γ p hΓ))
  cases f <;> first | exact h' Γ p' hΓ | exact h'
end Mine
end
section
open PySem PySem.W PyProof.Rows
set_option Elab.async false
set_option linter.unusedVariables false
namespace Mine
theorem fin_done {o : Outcome} {s s' : Shared} {f : Flow} (h : finish o s = .halt (.done f) s') : s' = s := by
  unfold finish at h
  cases hc : leftWithCleanup s.gens with
  | true => rw [hc, if_pos rfl] at h; cases h
  | false => rw [hc, if_neg Bool.false_ne_true] at h; cases h; rfl
theorem fin_unc {e : Value} {s s' : Shared} {f : Flow} (h : finish (.uncaught e) s = .halt (.done f) s') : False := by
  unfold finish at h
  cases hc : leftWithCleanup s.gens with
  | true => rw [hc, if_pos rfl] at h; cases h
  | false => rw [hc, if_neg Bool.false_ne_true] at h; cases h
noncomputable def Step.isDone : PySem.Step → Bool
  | .halt (.done _) _ => true
  | _ => false
theorem done_ite {c : Prop} [Decidable c] {a b : PySem.Step} (ha : Step.isDone a = false) (hb : Step.isDone b = false) : Step.isDone (if c then a else b) = false := by
  by_cases h : c
  · rw [if_pos h]; exact ha
  · rw [if_neg h]; exact hb
theorem not_done {den : Code → Sem Fin} {p : Program} {w : World} {heap : Heap} {gens : Array GenState} {drawn : Drawn} {toks : Tok} {os : OsState} {cur : Sem Fin} {code : Code} {pos : Pos} {stack : List Frame}
    (hp : ∀ x, cur ≠ .pure x) (hr : ∀ e, cur ≠ .raise e) : Step.isDone (step den p w ⟨heap, gens, drawn, toks, os⟩ ⟨cur, code, pos, stack⟩) = false := by
  cases cur with
  | pure x => exact absurd rfl (hp x)
  | raise e => exact absurd rfl (hr e)
  | finish e => exact done_ite rfl rfl
  | load a x k =>
    unfold step
    dsimp only
    cases heap.get? a <;> rfl
  | update a x g k => exact done_ite rfl rfl
  | choose src n k => exact done_ite rfl rfl
  | genState g k =>
    unfold step
    dsimp only
    cases gens[g]? <;> rfl
  | resume g r l k =>
    unfold step
    dsimp only
    cases gens[g]? with
    | none => rfl
    | some st =>
      cases st with
      | fresh c =>
        cases r with
        | send v => cases v <;> rfl
        | throw e => rfl
      | _ => rfl
  | yield v g0 l kk =>
    unfold step
    dsimp only
    cases splitAtGen stack with
    | none => rfl
    | some q => obtain ⟨a, ⟨b, c, d, e⟩, r⟩ := q; rfl
  | _ => rfl
theorem step_done {den : Code → Sem Fin} {p : Program} {w : World} {s s' : Shared} {t : Thread} {f : Flow} (h : step den p w s t = .halt (.done f) s') : s' = s ∧ through t = true := by
  obtain ⟨heap, gens, drawn, toks, os⟩ := s
  obtain ⟨cur, code, pos, stack⟩ := t
  have key := fun hp hr => not_done (den := den) (p := p) (w := w) (heap := heap) (gens := gens) (drawn := drawn) (toks := toks) (os := os) (cur := cur) (code := code) (pos := pos) (stack := stack) hp hr
  rw [h] at key
  cases cur with
  | pure x =>
    cases x with
    | again c => cases h
    | done g =>
      cases stack with
      | nil => exact ⟨fin_done h, rfl⟩
      | cons fr rest => cases fr <;> cases h
  | raise e =>
    cases stack with
    | nil => exact (fin_unc h).elim
    | cons fr rest => cases fr <;> cases h
  | _ => exact absurd (key (fun x q => by cases q) (fun e q => by cases q)) (Bool.noConfusion : ¬ true = false)
theorem runN_through {den : Code → Sem Fin} {p : Program} {w : World} {f : Flow} {s' : Shared} : ∀ (n : Nat) (s : Shared) (t : Thread), runN den p w n s t = .halted (.done f) s' → ∃ m t', runN den p w m s t = .running s' t' ∧ through t' = true
  | 0, s, t, h => by cases h
  | n + 1, s, t, h => by
    simp only [runN] at h
    cases hs : step den p w s t with
    | go s1 t1 =>
      simp only [hs] at h
      obtain ⟨m, t', e, ht⟩ := runN_through n s1 t1 h
      exact ⟨m + 1, t', by simp only [runN, hs]; exact e, ht⟩
    | halt o s1 =>
      simp only [hs] at h
      injection h with h1 h2
      subst h1; subst h2
      obtain ⟨e, ht⟩ := step_done hs
      exact ⟨0, t, by rw [e]; rfl, ht⟩

theorem top_ends {prog : Program} {w : World} {t : Sem Fin} {s : Shared} {R : Shared → Prop} (hreg : s.asleep)
    (h : wpAny (model prog w) callerA t (fun fin s' => ∃ f, fin = .done f ∧ R s' ∧ s'.gens = #[]) (fun _ _ => False) s) :
    ∃ n t' s', schedN (denote table) prog w n (.single s ⟨t, .builtin "claim.caller" {}, default, []⟩) = .running (.single s' t') ∧ through t' = true ∧ s'.heap.life = s.heap.life ∧ R s' := by
  have h' := wp_of_wpAny_done (R := fun r s' => (((∃ f, r = .ok f) ∧ R s') ∧ s'.gens = #[]) ∧ leftWithCleanup s'.gens = false) caller_in
    (wpAny_mono h (fun _ _ ⟨f, e, a, b⟩ => ⟨f, e, ⟨⟨⟨f, rfl⟩, a⟩, b⟩, by rw [b]; simp [leftWithCleanup]⟩) fun _ _ a => a.elim) default
  obtain ⟨n, r, s₁, hn, ⟨⟨f, hf⟩, hR⟩, hg⟩ := (wp_iff_halts (M := model prog w) (R := fun r s' => ((∃ f, r = .ok f) ∧ R s') ∧ s'.gens = #[]) ..).mp h'
  subst hf
  obtain ⟨s₂, hr, hfo, hc⟩ := runNI_real _ _ _ hn (outcomeOf_ends _)
  obtain rfl : s₂ = s₁ := Shared.eq_of_forget_eq hfo hg
  obtain ⟨m, t', hm, ht⟩ := runN_through (f := f) n _ _ hr
  have hne : ∀ k s₃, runN (denote table) prog w k s ⟨t, .builtin "claim.caller" {}, default, []⟩ ≠ .halted (.unsupported "lifetime:generator-with-cleanup-left-suspended") s₃ := by
    intro k s₃ hk
    have a := runN_mono (denote table) prog w n k _ _ _ _ hr
    have b := runN_mono (denote table) prog w k n _ _ _ _ hk
    rw [Nat.add_comm, b] at a
    injection a with a1 _
    cases a1
  exact ⟨m, t', s₂, (schedN_eq_runN (denote table) prog w s _ hreg ⟨hc, hne⟩ m).trans (congrArg Run.lift hm), ht, runN_life _ _ _ hr, hR⟩
end Mine
end
section
open PySem PySem.W PyProof.Rows
set_option Elab.async false
set_option linter.unusedVariables false
namespace Mine
set_option autoImplicit false
section
variable {prog : Program} {w : World} {A : Around} {E : Value → Shared → Prop} {s : Shared}

/-- the ways of a literal pair -/
noncomputable def PairOk (prog : Program) (w : World) (p : Sem Value × Sem Value) (y : Int × Str) : Prop :=
  (∀ (A : Around) (E : Value → Shared → Prop) (s : Shared) (Q : Value → Shared → Prop), (∀ t tk, Q (.int y.1 t) { s with toks := tk }) → wpAny (model prog w) A p.1 Q E s) ∧
  (∀ (A : Around) (E : Value → Shared → Prop) (s : Shared) (Q : Value → Shared → Prop), (∀ t tk, Q (.str y.2 t) { s with toks := tk }) → wpAny (model prog w) A p.2 Q E s)
inductive PairsOk (prog : Program) (w : World) : List (Sem Value × Sem Value) → List (Int × Str) → Prop
  | nil : PairsOk prog w [] []
  | cons {p y ps T} : PairOk prog w p y → PairsOk prog w ps T → PairsOk prog w (p :: ps) (y :: T)
inductive RelT : List (Int × Value) → List (Int × Str) → Prop
  | nil : RelT [] []
  | cons {k : Int} {y : Str} {t : Tok} {kvs : List (Int × Value)} {T : List (Int × Str)} : RelT kvs T → RelT ((k, .str y t) :: kvs) ((k, y) :: T)
theorem RelT.append {a b : List (Int × Value)} {S T : List (Int × Str)} (h : RelT a S) (g : RelT b T) : RelT (a ++ b) (S ++ T) := by
  induction h with
  | nil => exact g
  | cons _ ih => exact .cons ih
theorem RelT.keys {a : List (Int × Value)} {S : List (Int × Str)} (h : RelT a S) : a.map (·.1) = S.map (·.1) := by
  induction h with
  | nil => rfl
  | cons _ ih => simp [ih]
theorem RelT.length {a : List (Int × Value)} {S : List (Int × Str)} (h : RelT a S) : a.length = S.length := by
  have := congrArg List.length h.keys; simpa using this
theorem PairsOk.length {ps : List (Sem Value × Sem Value)} {T : List (Int × Str)} (h : PairsOk prog w ps T) : ps.length = T.length := by
  induction h with
  | nil => rfl
  | cons _ _ ih => simp [ih]
theorem PairsOk.snoc {ps : List (Sem Value × Sem Value)} {T : List (Int × Str)} {p y} (h : PairsOk prog w ps T) (hp : PairOk prog w p y) : PairsOk prog w (ps ++ [p]) (T ++ [y]) := by
  induction h with
  | nil => exact .cons hp .nil
  | cons a _ ih => exact .cons a ih

/-- the pairs, looked at one behind the other -/
inductive ValsOk : List (Value × Value) → List (Int × Str) → Prop
  | nil : ValsOk [] []
  | cons {k : Int} {y : Str} {t u : Tok} {vs T} : ValsOk vs T → ValsOk ((.int k t, .str y u) :: vs) ((k, y) :: T)
theorem evalPairs_ok {ps : List (Sem Value × Sem Value)} {T : List (Int × Str)} (h : PairsOk prog w ps T) : ∀ {s : Shared} {Q : List (Value × Value) → Shared → Prop}, (∀ vs tk, ValsOk vs T → Q vs { s with toks := tk }) → wpAny (model prog w) A (evalPairs ps) Q E s := by
  induction h with
  | nil => intro s Q hQ; exact evalPairs_nil (hQ [] s.toks .nil)
  | @cons p y ps T hp _ ih =>
    intro s Q hQ
    obtain ⟨p1, p2⟩ := p
    refine evalPairs_cons (hp.1 _ _ _ _ fun t tk => hp.2 _ _ _ _ fun u tk2 => ih fun vs tk3 hv => ?_)
    exact hQ _ tk3 (.cons hv)
theorem ValsOk.carries {vs : List (Value × Value)} {T : List (Int × Str)} (h : ValsOk vs T) : ∃ kvs, Carries (intKind prog w) vs kvs ∧ RelT kvs T := by
  induction h with
  | nil => exact ⟨[], trivial, .nil⟩
  | @cons k y t u vs T _ ih =>
    obtain ⟨kvs, h1, h2⟩ := ih
    exact ⟨(k, .str y u) :: kvs, ⟨intKind_is _ _ _ _, rfl, h1⟩, .cons h2⟩
theorem stored_new {kvs : List (Int × Value)} {k : Int} {v : Value} (hn : (kvs.map (·.1)).Nodup) (h : k ∉ kvs.map (·.1)) : stored kvs k v = kvs ++ [(k, v)] :=
  merged_append_of_fresh kvs [(k, v)] (by
    rw [List.map_append, List.nodup_append]
    refine ⟨hn, by simp, fun a ha b hb => ?_⟩
    simp at hb
    subst hb
    exact fun e => h (e ▸ ha))

/-- a part of a display -/
theorem subDict_ok {ps : List (Sem Value × Sem Value)} {T : List (Int × Str)} (h : PairsOk prog w ps T) (hn : (T.map (·.1)).Nodup) (hl : T.length ≤ 1000) {Q : Addr → Shared → Prop}
    (hQ : ∀ h' tk kvs, RelT kvs T → h'.DictOf (intKind prog w) s.heap.objs.size kvs → (∀ b o, s.heap.get? b = some o → h'.get? b = some o) → Q s.heap.objs.size { s with heap := h', toks := tk }) :
    wpAny (model prog w) A (subDict ps) Q E s := by
  unfold subDict
  refine wpAny_bind (wpAny_alloc ?_)
  have hnew : (s.heap.push { cls := .type "dict", data := .dict #[] }).DictOf (intKind prog w) s.heap.objs.size [] := Heap.DictOf.new _
  have hkeep : ∀ h', Heap.SameBut s.heap.objs.size (s.heap.push { cls := .type "dict", data := .dict #[] }) h' → ∀ b o, s.heap.get? b = some o → h'.get? b = some o := fun h' hs b o e =>
    (hs.2 b (Nat.ne_of_lt (Heap.lt_size e))).trans (Heap.get?_push_of_some _ e)
  refine wpAny_bind (wpAny_holding ?_)
  split
  · refine wpAny_bind (evalPairs_ok h fun vs tk hv => ?_)
    obtain ⟨kvs, hc, hr⟩ := hv.carries (prog := prog) (w := w)
    refine wpAny_holding (wpAny_bind (wpAny_storeAll (knd := intKind prog w) vs kvs [] _ _ hc hnew ?_ fun h' hm hs => wpAny_pure (wpAny_pure (hQ h' _ kvs hr ?_ (hkeep h' hs)))))
    · have := hr.length; simp only [List.length_nil]; have : sizeLine = 16777216 := rfl; lia
    · rw [← merged_nil_of_nodup kvs (by rw [hr.keys]; exact hn)]; exact hm
  · refine wpAny_bind (wpAny_rule ?_)
    refine wpAny_bind (wpAny_forIn_list _ (fun (rest : List (Sem Value × Sem Value)) (_ : PUnit) s' => ∃ Td Tr kvs h' tk, T = Td ++ Tr ∧ PairsOk prog w rest Tr ∧ RelT kvs Td ∧ s' = { s with heap := h', toks := tk } ∧ h'.DictOf (intKind prog w) s.heap.objs.size kvs ∧ (∀ b o, s.heap.get? b = some o → h'.get? b = some o)) _ ?_ ?_ _ _ ⟨[], T, [], _, _, rfl, h, .nil, rfl, hnew, hkeep _ (Heap.SameBut.refl _ _)⟩)
    · rintro ⟨p1, p2⟩ rest b s' ⟨Td, Tr, kvs, h', tk, hT, hp, hr, rfl, hd, hk⟩
      cases hp with
      | @cons _ y _ Tr hp hps =>
        obtain ⟨k, x⟩ := y
        have hnk : k ∉ kvs.map (·.1) := by
          rw [hr.keys]
          intro hm
          rw [hT, List.map_append, List.nodup_append] at hn
          exact hn.2.2 k hm k (by simp) rfl
        have hnd : (kvs.map (·.1)).Nodup := by
          rw [hr.keys]
          rw [hT, List.map_append, List.nodup_append] at hn
          exact hn.1
        have hlen : kvs.length ≤ sizeLine := by
          have := hr.length
          have e : sizeLine = 16777216 := rfl
          rw [hT, List.length_append] at hl
          lia
        refine wpAny_bind (hp.1 _ _ _ _ fun t tk1 => wpAny_bind (wpAny_holding (hp.2 _ _ _ _ fun u tk2 => wpAny_bind (wpAny_holding ?_))))
        refine wpAny_dictSet_pairs (knd := intKind prog w) (k := k) (intKind_is _ _ _ _) hd (fun h2 hd2 hs2 => wpAny_pure ?_) hlen
        rw [stored_new hnd hnk] at hd2
        refine ⟨Td ++ [(k, x)], Tr, kvs ++ [(k, .str x u)], h2, _, by rw [hT]; simp, hps, hr.append (.cons .nil), rfl, hd2, fun b o e => ?_⟩
        rw [hs2.2 b (Nat.ne_of_lt (Heap.lt_size e))]
        exact hk b o e
    · rintro b s' ⟨Td, Tr, kvs, h', tk, hT, hp, hr, rfl, hd, hk⟩
      cases hp
      rw [List.append_nil] at hT
      subst hT
      exact wpAny_pure (wpAny_pure (hQ h' tk kvs hr hd hk))

theorem put_ok {d : Addr} {kvs : List (Int × Value)} {k : Int} {key v : Value} {Q : Unit → Shared → Prop} (hkey : (intKind prog w).is k key = true) (hm : s.heap.DictOf (intKind prog w) d kvs)
    (hQ : ∀ h', h'.DictOf (intKind prog w) d (stored kvs k v) → Heap.SameBut d s.heap h' → Q () { s with heap := h' }) (hsz : kvs.length ≤ sizeLine) :
    wpAny (model prog w) A (dictPut d ((intKind prog w).hash k) key v) Q E s := by
  obtain ⟨o, es, ep, ho, hc, hd, hk, hp, hn⟩ := hm
  have hes : es.size ≤ sizeLine := by
    have e1 := hp.length
    have e2 : es.toList.length = es.size := by simp
    lia
  unfold dictPut
  refine wpAny_bind (wpAny_dictFind_of hkey ho hd hk ?_)
  have hidx : (es.findIdx? fun e => (intKind prog w).is k e.key) = kvs.findIdx? fun kv => decide (kv.1 = k) := by
    rw [← hp.findIdx k]; obtain ⟨l⟩ := es; simp
  cases hi : es.findIdx? fun e => (intKind prog w).is k e.key with
  | some i =>
    refine wpAny_updateDict ho hd (hQ _ ⟨_, _, ep, Heap.get?_update_self _ ho (Obj.isFreed_of_dict (Obj.data_mapDict hd _)),
      hc.mapDict _, Obj.data_mapDict hd _, hk.modify _ _, ?_, ?_⟩ (Heap.SameBut.update ..))
    · rw [stored, if_pos (any_of_findIdx_some (hidx ▸ hi))]
      have hl : (es.toList.findIdx? fun e => (intKind prog w).is k e.key) = some i := by rw [← hi]; obtain ⟨l⟩ := es; simp
      have := hp.modify hn hl v
      obtain ⟨l⟩ := es
      simpa using this
    · rw [stored, if_pos (any_of_findIdx_some (hidx ▸ hi)), keys_map_store]; exact hn
  | none =>
    have hnot : k ∉ kvs.map (·.1) := not_mem_of_findIdx_none (hidx ▸ hi)
    have hany : ¬ (kvs.any fun kv => decide (kv.1 = k)) = true := by
      rw [List.any_eq_true]; rintro ⟨kv, hkv, he⟩
      exact hnot (List.mem_map.mpr ⟨kv, hkv, of_decide_eq_true he⟩)
    refine wpAny_updateDictKeys (hz := hes) ho hd (hQ _ ⟨_, _, ep + 1, Heap.get?_update_self _ ho (Obj.isFreed_of_dict (Obj.data_mapDictKeys hd _)),
      hc.mapDictKeys _, Obj.data_mapDictKeys hd _, hk.push hkey _, ?_, ?_⟩ (Heap.SameBut.update ..))
    · rw [stored, if_neg hany]
      have := hp.append hkey ((intKind prog w).hash k) v
      obtain ⟨l⟩ := es
      simpa using this
    · rw [stored, if_neg hany, List.map_append, List.nodup_append]
      refine ⟨hn, by simp, ?_⟩
      intro a ha b hb
      simp only [List.map_cons, List.map_nil, List.mem_singleton] at hb
      subst hb
      exact fun e => hnot (e ▸ ha)

theorem merge_ok {d o : Addr} {kvs more : List (Int × Value)} {Q : Unit → Shared → Prop} (hdo : d ≠ o) (hoS : (o == sysModules) = false) (hne : kvs ≠ [])
    (hd : s.heap.DictOf (intKind prog w) d kvs) (ho : s.heap.DictOf (intKind prog w) o more)
    (hQ : ∀ h', h'.DictOf (intKind prog w) d (merged kvs more) → Heap.SameBut d s.heap h' → Q () { s with heap := h' })
    (hsz : kvs.length + more.length ≤ sizeLine) :
    wpAny (model prog w) A (mergeMapping d (.ref o) false) Q E s := by
  obtain ⟨od, esd, epd, hod, hcd, hdd, hkd, hpd, hnd⟩ := id hd
  obtain ⟨oo, eso, epo, hoo, hco, hdo', hko, hpo, hno⟩ := id ho
  have hT : s.TypeIs (.ref o) "dict" := ⟨oo, hoo, hco.1⟩
  have hlen : more.length = eso.size := by rw [← hpo.length]; simp
  unfold mergeMapping
  refine wpAny_bind (wpAny_isInstance hT PySem.isSubtype_dict_dict ?_)
  simp only [if_true]
  refine wpAny_bind (wpAny_specialOf hT PySem.F.slot_dict_iter.lookup ?_)
  rw [show ((some (Value.builtin "dict.__iter__") : Option Value) == some (Value.builtin "dict.__iter__")) = true from beq_self_eq_true _]
  refine wpAny_bind (wpAny_pure ?_)
  dsimp only
  rw [if_neg (by rw [hoS]; exact Bool.false_ne_true)]
  refine wpAny_bind (wpAny_dictEntries hod hdd ?_)
  have hemp : ¬ (esd.isEmpty = true) := fun q => by
    have h0 : esd = #[] := Array.isEmpty_iff.mp q
    have := hpd.length; rw [h0] at this; exact hne (List.length_eq_zero_iff.mp (by simpa using this.symm))
  rw [if_neg hemp]
  refine wpAny_bind (wpAny_dictEntries hoo hdo' ?_)
  refine wpAny_bind (wpAny_dictEpoch hoo hdo' ?_)
  simp only [Bool.false_eq_true, if_false]
  refine wpAny_bind (wpAny_forIn_list _
      (fun rest (_ : PUnit) s' => ∃ h' i, s' = { s with heap := h' } ∧ rest = List.range' i (eso.size - i) ∧ i ≤ eso.size ∧ h'.DictOf (intKind prog w) d (merged kvs (more.take i)) ∧ h'.get? o = some oo ∧ Heap.SameBut d s.heap h')
      _ ?_ ?_ _ _ ⟨s.heap, 0, rfl, by rw [List.range_eq_range']; simp, Nat.zero_le _, by simpa [merged] using hd, hoo, Heap.SameBut.refl _ _⟩)
  · rintro x rest b s' ⟨h', i, rfl, hr, hi, hd', hoo', hs'⟩
    have hlt : i < eso.size := by
      rcases Nat.lt_or_ge i eso.size with h | h
      · exact h
      · rw [Nat.sub_eq_zero_of_le h] at hr; simp at hr
    obtain ⟨rfl, hrest⟩ : x = i ∧ rest = List.range' (i + 1) (eso.size - (i + 1)) := by
      have e : eso.size - i = (eso.size - (i + 1)) + 1 := by lia
      rw [e, List.range'_succ] at hr
      injection hr with h1 h2
      exact ⟨h1, h2⟩
    refine wpAny_bind (wpAny_dictEntries hoo' hdo' ?_)
    rw [Array.getElem?_eq_getElem hlt]
    obtain ⟨kv, hkv⟩ : ∃ kv, more[x]? = some kv := ⟨more[x]'(by rw [hlen]; exact hlt), List.getElem?_eq_getElem _⟩
    obtain ⟨k, v⟩ := kv
    obtain ⟨hkey, hval⟩ := hpo.get? (e := eso[x]) (by simp [hlt]) hkv
    obtain ⟨k', hkey', hhash⟩ := hko eso[x] (Array.getElem_mem hlt)
    obtain rfl : k' = k := (intKind prog w).inj _ _ _ hkey' hkey
    dsimp only
    rw [hhash, hval]
    have hmx : (merged kvs (more.take x)).length ≤ sizeLine := by
      have e1 := merged_length_le kvs (more.take x)
      have e2 : (more.take x).length ≤ more.length := by rw [List.length_take]; lia
      lia
    refine wpAny_bind (wpAny_holding (put_ok hkey hd' (fun h'' hd'' hs'' => ?_) hmx))
    have hoo'' : h''.get? o = some oo := (hs''.2 o (Ne.symm hdo)).trans hoo'
    refine wpAny_bind (wpAny_dictEpoch hoo'' hdo' ?_)
    rw [if_neg (by simp)]
    exact wpAny_pure ⟨h'', x + 1, rfl, hrest, hlt, by rw [merged_take_succ kvs more x (k', v) hkv]; exact hd'', hoo'', hs'.trans hs''⟩
  · rintro b s' ⟨h', i, rfl, hr, hi, hd', hoo', hs'⟩
    have hin : i = eso.size := by
      rcases Nat.lt_or_ge i eso.size with h | h
      · have e : eso.size - i = (eso.size - (i + 1)) + 1 := by lia
        rw [e, List.range'_succ] at hr; exact nomatch hr
      · exact Nat.le_antisymm hi h
    refine wpAny_pure (hQ h' ?_ hs')
    rw [hin, ← hlen, List.take_length] at hd'; exact hd'

/-- where a display stands: what it has stored, at which address -/
noncomputable def DSt (prog : Program) (w : World) (s : Shared) (main : Option Addr) (Td : List (Int × Str)) (s' : Shared) : Prop :=
  ∃ h' tk, s' = { s with heap := h', toks := tk } ∧ (∀ b o, s.heap.get? b = some o → h'.get? b = some o) ∧ s.heap.objs.size ≤ h'.objs.size ∧
    ((main = none ∧ Td = []) ∨ ∃ d kvs, main = some d ∧ Td ≠ [] ∧ s.heap.objs.size ≤ d ∧ RelT kvs Td ∧ h'.DictOf (intKind prog w) d kvs)

noncomputable def flushC (run : List (Sem Value × Sem Value)) (main : Option Addr) : Sem (Option Addr) := do
    if run.isEmpty then return main
    match main with
    | none => return some (← subDict run)
    | some d =>
      let sub ← holding [.ref d] (subDict run)
      (holding [.ref d, .ref sub] (mergeMapping d (.ref sub) false)).onRaise fun x => do let _ ← holding [.ref d, x] (runValue (.builtin "proto.let_go" {}))
      return some d

theorem flush_ok {run : List (Sem Value × Sem Value)} {main : Option Addr} {Td Tr : List (Int × Str)} {s' : Shared} (hS : sysModules < s.heap.objs.size) (hst : DSt prog w s main Td s') (hr : PairsOk prog w run Tr) (hne : Tr ≠ [])
    (hn : ((Td ++ Tr).map (·.1)).Nodup) (hl : (Td ++ Tr).length ≤ 100000) (hl2 : Tr.length ≤ 17) {Q : Option Addr → Shared → Prop}
    (hQ : ∀ d s'', DSt prog w s (some d) (Td ++ Tr) s'' → Q (some d) s'') : wpAny (model prog w) A (flushC run main) Q E s' := by
  obtain ⟨h', tk, rfl, hk, hsz, hm⟩ := hst
  have hrun : run.isEmpty = false := by
    cases hr with
    | nil => exact absurd rfl hne
    | cons _ _ => rfl
  unfold flushC
  rw [if_neg (by rw [hrun]; exact Bool.false_ne_true)]
  rw [List.map_append, List.nodup_append] at hn
  rw [List.length_append] at hl
  rcases hm with ⟨rfl, rfl⟩ | ⟨d, kvs, rfl, hTd, hd, hrel, hdo⟩
  · dsimp only
    refine wpAny_bind (subDict_ok hr hn.2.1 (by lia) fun h2 tk2 kvs hrel hdo hk2 => wpAny_pure (hQ _ _ ⟨h2, tk2, rfl, fun b o e => hk2 b o (hk b o e), ?_, .inr ⟨_, kvs, rfl, by simpa using hne, hsz, hrel, hdo⟩⟩))
    obtain ⟨o, _, _, ho, _⟩ := hdo
    exact Nat.le_of_lt (Nat.lt_of_le_of_lt hsz (Heap.lt_size ho))
  · dsimp only
    refine wpAny_bind (wpAny_holding (subDict_ok hr hn.2.1 (by lia) fun h2 tk2 kvs2 hrel2 hdo2 hk2 => ?_))
    have hdl : d < h'.objs.size := by obtain ⟨o, _, _, ho, _⟩ := hdo; exact Heap.lt_size ho
    have hdo' : h2.DictOf (intKind prog w) d kvs := by
      obtain ⟨o, es, ep, ho, r⟩ := hdo
      exact ⟨o, es, ep, hk2 _ _ ho, r⟩
    have hnd : ((kvs ++ kvs2).map (·.1)).Nodup := by
      rw [List.map_append, hrel.keys, hrel2.keys, List.nodup_append]; exact hn
    have hsz2 : s.heap.objs.size ≤ h2.objs.size := by
      obtain ⟨o, _, _, ho, _⟩ := hdo2
      exact Nat.le_of_lt (Nat.lt_of_le_of_lt hsz (Heap.lt_size ho))
    have l1 := hrel.length
    have l2 := hrel2.length
    refine wpAny_bind (wpAny_onRaise (wpAny_holding (merge_ok (kvs := kvs) (more := kvs2) (Nat.ne_of_lt hdl) ?_ ?_ hdo' hdo2 (fun h3 hd3 hs3 => wpAny_pure (hQ _ _ ⟨h3, tk2, rfl, fun b o e => ?_, ?_, .inr ⟨d, kvs ++ kvs2, rfl, ?_, hd, hrel.append hrel2, ?_⟩⟩)) ?_)))
    · exact beq_eq_false_iff_ne.mpr (Nat.ne_of_gt (Nat.lt_of_lt_of_le hS hsz))
    · intro q
      rw [q] at l1
      exact hTd (List.length_eq_zero_iff.mp l1.symm)
    · rw [hs3.2 b (Nat.ne_of_lt (Nat.lt_of_lt_of_le (Heap.lt_size e) hd))]
      exact hk2 b o (hk b o e)
    · show s.heap.objs.size ≤ h3.objs.size
      rw [hs3.1]; exact hsz2
    · intro q
      exact hTd (List.append_eq_nil_iff.mp q).1
    · rw [← merged_append_of_fresh kvs kvs2 hnd]; exact hd3
    · have : sizeLine = 16777216 := rfl
      lia

theorem display_ok {ps : List (Sem Value × Sem Value)} {T : List (Int × Str)} (h : PairsOk prog w ps T) (hn : (T.map (·.1)).Nodup) (hl : T.length ≤ 100000) (h0 : T ≠ []) (hS : sysModules < s.heap.objs.size) {Q : Value → Shared → Prop}
    (hQ : ∀ a h' tk kvs, RelT kvs T → s.heap.objs.size ≤ a → h'.DictOf (intKind prog w) a kvs → (∀ b o, s.heap.get? b = some o → h'.get? b = some o) → Q (.ref a) { s with heap := h', toks := tk }) :
    wpAny (model prog w) A (dictDisplay (ps.map fun p => (some p.1, p.2))) Q E s := by
  unfold dictDisplay
  dsimp only
  refine wpAny_bind (wpAny_forIn_list _ (fun (rest : List (Option (Sem Value) × Sem Value)) (b : Option Addr × List (Sem Value × Sem Value)) s' => ∃ prest Td Tr Tx, rest = prest.map (fun p => (some p.1, p.2)) ∧ PairsOk prog w prest Tx ∧ PairsOk prog w b.2 Tr ∧ T = Td ++ Tr ++ Tx ∧ b.2.length < 17 ∧ DSt prog w s b.1 Td s') _ ?_ ?_ _ _ ⟨ps, [], [], T, rfl, h, .nil, rfl, by decide, s.heap, s.toks, rfl, fun _ _ e => e, Nat.le_refl _, .inl ⟨rfl, rfl⟩⟩)
  · rintro ⟨x, v⟩ rest ⟨main, run⟩ s' ⟨prest, Td, Tr, Tx, hre, hpx, hpr, hT, hrl, hst⟩
    cases hpx with
    | nil => simp at hre
    | @cons p y prest Tx hp hpx =>
      simp only [List.map_cons, List.cons.injEq, Prod.mk.injEq] at hre
      obtain ⟨⟨rfl, rfl⟩, rfl⟩ := hre
      simp only at hpr hrl hst
      have hpr2 := hpr.snoc hp
      have hT2 : T = Td ++ (Tr ++ [y]) ++ Tx := by rw [hT]; simp
      dsimp only
      split
      · rename_i h17
        have hn2 : ((Td ++ (Tr ++ [y])).map (·.1)).Nodup := by
          rw [hT2, List.map_append, List.nodup_append] at hn
          exact hn.1
        have hl2 : (Td ++ (Tr ++ [y])).length ≤ 100000 := by
          rw [hT2, List.length_append] at hl
          lia
        have hrn := hpr.length
        refine wpAny_bind ?_
        exact flush_ok (s := s) hS hst hpr2 (by simp) hn2 hl2 (by rw [List.length_append, ← hrn]; simp; lia) fun d s'' hd => wpAny_pure ⟨prest, Td ++ (Tr ++ [y]), [], Tx, rfl, hpx, .nil, by rw [hT2]; simp, Nat.succ_pos 16, hd⟩
      · rename_i h17
        refine wpAny_pure ⟨prest, Td, Tr ++ [y], Tx, rfl, hpx, hpr2, hT2, ?_, hst⟩
        simp only [List.length_append, List.length_singleton, beq_iff_eq] at h17 ⊢
        lia
  · rintro ⟨main, run⟩ s' ⟨prest, Td, Tr, Tx, hre, hpx, hpr, hT, hrl, hst⟩
    have hp0 : prest = [] := by
      cases prest with
      | nil => rfl
      | cons _ _ => simp at hre
    subst hp0
    cases hpx
    rw [List.append_nil] at hT
    have fin : ∀ d s'', DSt prog w s (some d) T s'' → Q (.ref d) s'' := fun d s'' hd => by
      obtain ⟨h2, tk, rfl, hk, hsz, hm⟩ := hd
      rcases hm with ⟨q, _⟩ | ⟨d', kvs, q, _, hdd, hrel, hdo⟩
      · cases q
      · cases q
        exact hQ d h2 tk kvs hrel hdd hdo hk
    have hrn := hpr.length
    simp only at hpr hrl hst hrn
    cases hTr : Tr with
    | nil =>
      subst hTr
      cases hpr
      rw [List.append_nil] at hT
      subst hT
      obtain ⟨h2, tk, rfl, hk, hsz, hm⟩ := id hst
      rcases hm with ⟨_, q⟩ | ⟨d, kvs, rfl, _⟩
      · exact absurd q h0
      · refine wpAny_bind ?_
        refine wpAny_pure ?_
        exact wpAny_pure (fin d _ hst)
    | cons y Tr' =>
      refine wpAny_bind ?_
      exact flush_ok (s := s) hS hst hpr (by rw [hTr]; simp) (by rw [← hT]; exact hn) (by rw [← hT]; exact hl) (by lia) fun d s'' hd => wpAny_pure (fin d s'' (hT ▸ hd))

noncomputable def litP : Option Expr → Expr → Option (Int × Str)
  | some (.Constant (.int i) _ _), .Constant (.str x) _ _ => some (i, x)
  | _, _ => none
noncomputable def litT : List (Option Expr) → List Expr → Option (List (Int × Str))
  | [], [] => some []
  | k :: ks, v :: vs => match litP k v, litT ks vs with
    | some y, some T => some (y :: T)
    | _, _ => none
  | _, _ => none
theorem litP_ok {env : Env} {pos : Pos} {k : Option Expr} {v : Expr} {y : Int × Str} (h : litP k v = some y) : ∃ e, k = some e ∧ PairOk prog w (eval e env, do let x ← eval v env; standAt pos; pure x) y := by
  unfold litP at h
  split at h
  · rename_i i c p x c' p'
    cases h
    refine ⟨_, rfl, fun A E s Q hQ => ?_, fun A E s Q hQ => ?_⟩
    · exact wpAny_Constant_int (i := i) (k := c) (pos := p) (env := env) (hQ _ _)
    · exact wpAny_bind (wpAny_Constant_str (x := x) (k := c') (pos := p') (env := env) (wpAny_bind (wpAny_standAt (wpAny_pure (hQ _ _)))))
  · cases h
theorem pairs_lit {env : Env} {pos : Pos} : ∀ (keys : List (Option Expr)) (values : List Expr) (T : List (Int × Str)), litT keys values = some T → PairsOk prog w (pairTrees keys values env pos) T ∧ keys.all (·.isSome) = true ∧ keys.length = values.length
  | [], [], T, h => by cases h; exact ⟨.nil, rfl, rfl⟩
  | [], _ :: _, T, h => by simp [litT] at h
  | _ :: _, [], T, h => by simp [litT] at h
  | k :: ks, v :: vs, T, h => by
    unfold litT at h
    split at h
    · rename_i y T' hp hT
      cases h
      obtain ⟨e, rfl, hk⟩ := litP_ok (prog := prog) (w := w) (env := env) (pos := pos) hp
      obtain ⟨h1, h2, h3⟩ := pairs_lit ks vs T' hT
      exact ⟨.cons hk h1, by simp [h2], by simp [h3]⟩
    · cases h
noncomputable def upB : List (Int × Str) → Bool
  | [] => true
  | [_] => true
  | a :: b :: r => decide (a.1 < b.1) && upB (b :: r)
theorem up_lt : ∀ (a : Int × Str) (r : List (Int × Str)), upB (a :: r) = true → ∀ x, x ∈ r → a.1 < x.1
  | a, [], _, x, hx => by cases hx
  | a, b :: r, h, x, hx => by
    simp only [upB, Bool.and_eq_true, decide_eq_true_eq] at h
    rcases List.mem_cons.mp hx with rfl | hx
    · exact h.1
    · exact Int.lt_trans h.1 (up_lt b r h.2 x hx)
theorem up_nodup : ∀ {T : List (Int × Str)}, upB T = true → (T.map (·.1)).Nodup
  | [], _ => List.nodup_nil
  | a :: r, h => by
    rw [List.map_cons, List.nodup_cons]
    refine ⟨fun hm => ?_, up_nodup (by cases r <;> simp_all [upB])⟩
    obtain ⟨x, hx, e⟩ := List.mem_map.mp hm
    have := up_lt a r h x hx
    lia
theorem Dict_int {env : Env} {keys : List (Option Expr)} {values : List Expr} {pos : Pos} {T : List (Int × Str)} (hT : litT keys values = some T) (hn : upB T = true) (hl : T.length ≤ 100000) (h0 : T ≠ []) (hS : sysModules < s.heap.objs.size) {Q : Value → Shared → Prop}
    (hQ : ∀ a h' tk kvs, RelT kvs T → s.heap.objs.size ≤ a → h'.DictOf (intKind prog w) a kvs → (∀ b o, s.heap.get? b = some o → h'.get? b = some o) → Q (.ref a) { s with heap := h', toks := tk }) :
    wpAny (model prog w) A (eval (.Dict keys values pos) env) Q E s := by
  obtain ⟨h1, h2, h3⟩ := pairs_lit (prog := prog) (w := w) (env := env) (pos := pos) keys values T hT
  rw [arm_eval_Dict, zip_pairTrees keys values env pos h2 h3]
  exact wpAny_bind (wpAny_standAt (display_ok h1 (up_nodup hn) hl h0 hS hQ))
theorem rel_get : ∀ {kvs : List (Int × Value)} {T : List (Int × Str)}, RelT kvs T → ∀ i, match getT T i with | none => valueAt kvs i = none | some y => ∃ t, valueAt kvs i = some (.str y t)
  | _, _, .nil, i => rfl
  | _, _, .cons (k := k) (y := y) (t := t) (kvs := kvs) (T := T) h, i => by
    have ih := rel_get h i
    unfold getT valueAt at *
    by_cases e : k = i
    · subst e; simp
    · rw [List.find?_cons_of_neg (by simpa using e), List.find?_cons_of_neg (by simpa using e)]
      exact ih
end
end Mine
end
section
open PySem PySem.W PyProof.Rows
set_option Elab.async false
set_option linter.unusedVariables false
namespace Mine
set_option autoImplicit false
noncomputable def Stab (N : Nat) (P : Heap → Value → Prop) : Prop := ∀ h h' v, (∀ b o, N ≤ b → h.get? b = some o → h'.get? b = some o) → P h v → P h' v

/-- the main module's names, statement by statement -/
structure TopI (h₀ : Heap) (mg₀ : Str → Option Value) (c Pl : Addr) (h : Heap) (mg : Str → Option Value) (ps : Array Value) (vals : List (Str × (Heap → Value → Prop))) (names : List Str) : Prop where
  main : h.Main mg c Pl ps
  keep : ∀ b o, b ≠ Pl → b ≠ mainGlobals → h₀.get? b = some o → h.get? b = some o
  got : ∀ p, p ∈ vals → ∃ v, mg p.1 = some v ∧ p.2 h v
  stab : ∀ p, p ∈ vals → Stab (Pl + 1) p.2
  vnames : ∀ p, p ∈ vals → p.1 ∈ names
  others : ∀ x, x ∉ names → x ≠ "__name__" → mg x = mg₀ x

theorem TopI.start {h : Heap} {mg : Str → Option Value} {c Pl : Addr} (hm : h.Main mg c Pl #[]) : TopI h mg c Pl h mg #[] [] [] :=
  ⟨hm, fun _ _ _ _ e => e, (fun _ hp => by cases hp), (fun _ hp => by cases hp), (fun _ hp => by cases hp), fun _ _ _ => rfl⟩

section
variable {h₀ : Heap} {mg₀ mg : Str → Option Value} {c Pl F : Addr} {h h' : Heap} {ps ps' : Array Value} {vals : List (Str × (Heap → Value → Prop))} {names : List Str}

theorem TopI.put {x : Str} {v : Value} {P : Heap → Value → Prop} (X : TopI h₀ mg₀ c Pl h mg ps vals names) (hnew : x ∉ names) (hm : h'.Main (fun y => if y = x then some v else mg y) c Pl ps')
    (keep : ∀ b o, b ≠ Pl → b ≠ mainGlobals → h.get? b = some o → h'.get? b = some o) (hP : P h' v) (hst : Stab (Pl + 1) P) :
    TopI h₀ mg₀ c Pl h' (fun y => if y = x then some v else mg y) ps' ((x, P) :: vals) (x :: names) := by
  have kN : ∀ b o, Pl + 1 ≤ b → h.get? b = some o → h'.get? b = some o := fun b o hb => keep b o (Nat.ne_of_gt hb) (Nat.ne_of_gt (Nat.lt_trans X.main.low.2 hb))
  refine ⟨hm, fun b o h1 h2 e => keep b o h1 h2 (X.keep b o h1 h2 e), fun p hp => ?_, fun p hp => ?_, fun p hp => ?_, fun y hy hy2 => ?_⟩
  · rcases List.mem_cons.mp hp with rfl | hp
    · exact ⟨v, if_pos rfl, hP⟩
    · obtain ⟨u, h1, h2⟩ := X.got p hp
      have ne : p.1 ≠ x := fun q => hnew (q ▸ X.vnames p hp)
      exact ⟨u, by show (if p.1 = x then _ else mg p.1) = _; rw [if_neg ne]; exact h1, X.stab p hp h h' u kN h2⟩
  · rcases List.mem_cons.mp hp with rfl | hp
    · exact hst
    · exact X.stab p hp
  · rcases List.mem_cons.mp hp with rfl | hp
    · exact List.mem_cons_self
    · exact List.mem_cons_of_mem _ (X.vnames p hp)
  · simp only [List.mem_cons, not_or] at hy
    show (if y = x then _ else mg y) = _
    rw [if_neg hy.1]
    exact X.others y hy.2 hy2
theorem TopI.name {v : Value} (X : TopI h₀ mg₀ c Pl h mg ps vals names) (hnew : ("__name__" : Str) ∉ names) (hm : h'.Main (fun y => if y = "__name__" then some v else mg y) c Pl ps')
    (keep : ∀ b o, b ≠ Pl → b ≠ mainGlobals → h.get? b = some o → h'.get? b = some o) :
    TopI h₀ mg₀ c Pl h' (fun y => if y = "__name__" then some v else mg y) ps' vals names := by
  have Y := X.put (P := fun _ _ => True) hnew hm keep trivial fun _ _ _ _ _ => trivial
  refine ⟨Y.main, Y.keep, fun p hp => Y.got p (List.mem_cons_of_mem _ hp), X.stab, X.vnames, fun y hy hy2 => ?_⟩
  show (if y = _ then _ else mg y) = _
  rw [if_neg hy2]
  exact X.others y hy hy2
theorem TopI.grown {h₁ : Heap} (X : TopI h₀ mg₀ c Pl h mg ps vals names) (hk : ∀ b o, h.get? b = some o → h₁.get? b = some o)   : TopI h₀ mg₀ c Pl h₁ mg ps vals names := by
  obtain ⟨bm, o, hbm, hne0, hneG, hneP, hbo, hrest⟩ := X.main.bmod
  exact ⟨⟨X.main.g.keeps hk, X.main.code.keeps hk, X.main.low, ⟨bm, o, hbm, hne0, hneG, hneP, hk _ _ hbo, hrest⟩⟩, fun b o hP hG e => hk b o (X.keep b o hP hG e),
    fun p hp => let ⟨v, h1, h2⟩ := X.got p hp; ⟨v, h1, X.stab p hp h h₁ v (fun b o _ => hk b o) h2⟩, X.stab, X.vnames, X.others⟩
end

/-- a def of the top, laid -/
noncomputable def DefV (N lo hi : Nat) (name : Str) (params : Arguments) (body : List Stmt) (scope : Scope) (h : Heap) (v : Value) : Prop :=
  ∃ a c' P' o pm doc, v = .ref a ∧ N ≤ a ∧ N ≤ c' ∧ N ≤ P' ∧ lo ≤ P' ∧ P' < hi ∧ h.get? a = some o ∧ o.data = .func (Calls.docDef name params body scope pm (.ref c') doc) ∧ h.CodeRec (.ref c') name ∧ h.IsCode c' P' #[] ∧ h.TableAt c' P' #[]
theorem DefV.stab {N lo hi : Nat} {name : Str} {params : Arguments} {body : List Stmt} {scope : Scope} : Stab N (DefV N lo hi name params body scope) := by
  intro h h' v hk hh
  obtain ⟨a, c', P', o, pm, doc, h1, h2, h3, h4, h5, h6, h7, h8, h9, h10, h11⟩ := hh
  refine ⟨a, c', P', o, pm, doc, h1, h2, h3, h4, h5, h6, hk _ _ h2 h7, h8, h9.at fun o => hk _ o h3, ?_, ?_⟩
  · obtain ⟨oc, vs, file, tf, flags, tg, inF, text, tt, op, e1, r1, r2, r3, r4, r5, r6, e2, r⟩ := h10
    exact ⟨oc, vs, file, tf, flags, tg, inF, text, tt, op, hk _ _ h3 e1, r1, r2, r3, r4, r5, r6, hk _ _ h4 e2, r⟩
  · obtain ⟨⟨oc', vs', e3, r'⟩, e4⟩ := h11
    exact ⟨⟨oc', vs', hk _ _ h3 e3, r'⟩, hk _ _ h4 e4⟩

section
variable {M : Model} {A : Around} {E : Value → Shared → Prop} {s : Shared} {prog : Program} {c Pl F : Addr} {h₀ : Heap} {mg₀ mg : Str → Option Value} {ps : Array Value} {vals : List (Str × (Heap → Value → Prop))} {names : List Str} {Q : Flow → Shared → Prop}

theorem TopI.def {name : Str} {params : Arguments} {body : List Stmt} {scope : Scope} {pos : Pos} (X : TopI h₀ mg₀ c Pl s.heap mg ps vals names)
    (hexec : PlainDefTree name params body scope pos) (hfree : ∀ x ∈ scope.names, x.2 ≠ .free) (hdoc : docOf body = none)
    (hloc : prog.main.scope.names.lookup name = some .local)
    (hq : qualnameIn { scope := prog.main.scope, locals := mainGlobals, globals := mainGlobals, cells := [] } name name = name)
    (hnew : name ∉ names) (hnb : name ≠ "__builtins__") (hmod : prog.main.scope.kind = .module) (hnf : codeAmong pos ps.toList = none)
    (k : ∀ h' mg' c' tk, TopI h₀ mg₀ c Pl h' mg' (ps ++ #[rawInt pos.line, rawInt pos.col, .ref c']) ((name, DefV (Pl + 1) s.heap.objs.size h'.objs.size name params body scope) :: vals) (name :: names) → Q .next { s with heap := h', toks := tk }) :
    wpAny M A (exec (.FunctionDef name params body [] none [] scope none name pos) (mainEnv prog c F)) Q E s := by
  refine wpAny_plainDefN hexec hfree hdoc hloc hq X.main (fun a c' h' tk ha hm hf hcd htb keep => ?_) hnb hmod hnf
  obtain ⟨P', hP', hi, ht⟩ := htb
  have hN : Pl + 1 ≤ s.heap.objs.size := X.main.code.lt.2
  have haN : Pl + 1 ≤ a := Nat.le_trans hN ha
  refine k h' _ c' tk (X.put hnew hm keep ⟨a, c', P', _, _, .none, rfl, haN, Nat.le_trans hN hcd.1, Nat.le_trans hN hP', hP', hi.lt.2, hf, rfl, hcd.2, hi, ht⟩ DefV.stab)

theorem TopI.store {x : Str} {pos' pos : Pos} {value : Expr} {P : Heap → Value → Prop} (X : TopI h₀ mg₀ c Pl s.heap mg ps vals names)
    (hloc : prog.main.scope.names.lookup x = some .local) (hnb : x ≠ "__builtins__") (hmod : prog.main.scope.kind = .module) (hs : swapsWith value (some (.Name x pos')) pos.line (mainEnv prog c F) = pure false)
    (hval : ∀ Q' : Value → Shared → Prop, (∀ v h₁ tk, (∀ b o, s.heap.get? b = some o → h₁.get? b = some o) → P h₁ v → Q' v { s with heap := h₁, toks := tk }) → wpAny M A (eval value (mainEnv prog c F)) Q' E s)
    (k : ∀ h₁ h' v tk, TopI h₀ mg₀ c Pl h₁ mg ps vals names → P h₁ v → h'.Main (fun y => if y = x then some v else mg y) c Pl ps → (∀ b o, b ≠ Pl → b ≠ mainGlobals → h₁.get? b = some o → h'.get? b = some o) → Q .next { s with heap := h', toks := tk }) :
    wpAny M A (exec (.Assign [.Name x pos'] value pos) (mainEnv prog c F)) Q E s := by
  refine wpAny_Assign_Name (hval _ fun v h₁ tk hk hP => ?_) hs
  have X₁ : TopI h₀ mg₀ c Pl ({ s with heap := h₁, toks := tk } : Shared).heap mg ps vals names := X.grown hk
  refine wpAny_storeName_local (env := mainEnv prog c F) hloc X₁.main.g (fun h' hg' hs' => ?_)
    (by show (prog.main.scope.kind == .class || (prog.main.scope.kind == .module && mainGlobals != mainGlobals)) = false; rw [hmod]; rfl)
  obtain ⟨bm, o, hbm, hne0, hneG, hneP, hbo, hrest⟩ := X₁.main.bmod
  have hm : h'.Main (fun y => if y = x then some v else mg y) c Pl ps :=
    ⟨hg', X₁.main.code.sameBut hs' (Nat.ne_of_gt X₁.main.low.1) (Nat.ne_of_gt X₁.main.low.2), X₁.main.low,
      ⟨bm, o, by simp only [Ne.symm hnb, if_false]; exact hbm, hne0, hneG, hneP, (hs'.2 _ hneG).trans hbo, hrest⟩⟩
  exact k h₁ h' v _ X₁ hP hm fun b o _ hG e => (hs'.2 _ hG).trans e

theorem TopI.assign {x : Str} {pos' pos : Pos} {value : Expr} {P : Heap → Value → Prop} (X : TopI h₀ mg₀ c Pl s.heap mg ps vals names)
    (hloc : prog.main.scope.names.lookup x = some .local) (hnb : x ≠ "__builtins__") (hmod : prog.main.scope.kind = .module) (hs : swapsWith value (some (.Name x pos')) pos.line (mainEnv prog c F) = pure false) (hnew : x ∉ names) (hst : Stab (Pl + 1) P)
    (hval : ∀ Q' : Value → Shared → Prop, (∀ v h₁ tk, (∀ b o, s.heap.get? b = some o → h₁.get? b = some o) → P h₁ v → Q' v { s with heap := h₁, toks := tk }) → wpAny M A (eval value (mainEnv prog c F)) Q' E s)
    (k : ∀ h' mg' tk, TopI h₀ mg₀ c Pl h' mg' ps ((x, P) :: vals) (x :: names) → Q .next { s with heap := h', toks := tk }) :
    wpAny M A (exec (.Assign [.Name x pos'] value pos) (mainEnv prog c F)) Q E s :=
  X.store hloc hnb hmod hs hval fun h₁ h' v tk X₁ hP hm hk => k h' _ tk (X₁.put hnew hm hk (hst h₁ h' v (fun b o hb => hk b o (Nat.ne_of_gt hb) (Nat.ne_of_gt (Nat.lt_trans X.main.low.2 hb))) hP) hst)

theorem TopI.setName {pos' pos : Pos} {x : Str} {cc : Nat} {p : Pos} (X : TopI h₀ mg₀ c Pl s.heap mg ps vals names) (hloc : prog.main.scope.names.lookup ("__name__" : Str) = some .local) (hmod : prog.main.scope.kind = .module)
    (hs : swapsWith (.Constant (.str x) cc p) (some (.Name "__name__" pos')) pos.line (mainEnv prog c F) = pure false) (hnew : ("__name__" : Str) ∉ names)
    (k : ∀ h' mg' tk, TopI h₀ mg₀ c Pl h' mg' ps vals names → Q .next { s with heap := h', toks := tk }) :
    wpAny M A (exec (.Assign [.Name "__name__" pos'] (.Constant (.str x) cc p) pos) (mainEnv prog c F)) Q E s :=
  X.store (P := fun _ _ => True) hloc (by decide) hmod hs (fun Q' hQ' => wpAny_Constant_str (hQ' _ s.heap _ (fun _ _ e => e) trivial)) fun h₁ h' v tk X₁ _ hm hk => k h' _ tk (X₁.name hnew hm hk)
noncomputable def StrV (x : Str) (_ : Heap) (v : Value) : Prop := ∃ t, v = .str x t
noncomputable def IntV (i : Int) (_ : Heap) (v : Value) : Prop := ∃ t, v = .int i t
theorem TopI.assignStr {y : Str} {pos' pos : Pos} {x : Str} {cc : Nat} {p : Pos} (X : TopI h₀ mg₀ c Pl s.heap mg ps vals names) (hloc : prog.main.scope.names.lookup y = some .local) (hnb : y ≠ "__builtins__") (hmod : prog.main.scope.kind = .module)
    (hs : swapsWith (.Constant (.str x) cc p) (some (.Name y pos')) pos.line (mainEnv prog c F) = pure false) (hnew : y ∉ names)
    (k : ∀ h' mg' tk, TopI h₀ mg₀ c Pl h' mg' ps ((y, StrV x) :: vals) (y :: names) → Q .next { s with heap := h', toks := tk }) :
    wpAny M A (exec (.Assign [.Name y pos'] (.Constant (.str x) cc p) pos) (mainEnv prog c F)) Q E s :=
  X.assign hloc hnb hmod hs hnew (fun _ _ _ _ h => h) (fun Q' hQ' => wpAny_Constant_str (hQ' _ s.heap _ (fun _ _ e => e) ⟨_, rfl⟩)) k
theorem TopI.assignInt {y : Str} {pos' pos : Pos} {x : Int} {cc : Nat} {p : Pos} (X : TopI h₀ mg₀ c Pl s.heap mg ps vals names) (hloc : prog.main.scope.names.lookup y = some .local) (hnb : y ≠ "__builtins__") (hmod : prog.main.scope.kind = .module)
    (hs : swapsWith (.Constant (.int x) cc p) (some (.Name y pos')) pos.line (mainEnv prog c F) = pure false) (hnew : y ∉ names)
    (k : ∀ h' mg' tk, TopI h₀ mg₀ c Pl h' mg' ps ((y, IntV x) :: vals) (y :: names) → Q .next { s with heap := h', toks := tk }) :
    wpAny M A (exec (.Assign [.Name y pos'] (.Constant (.int x) cc p) pos) (mainEnv prog c F)) Q E s :=
  X.assign hloc hnb hmod hs hnew (fun _ _ _ _ h => h) (fun Q' hQ' => wpAny_Constant_int (hQ' _ s.heap _ (fun _ _ e => e) ⟨_, rfl⟩)) k
end
end Mine
end
section
open PySem PySem.W PyProof.Rows
set_option Elab.async false
set_option linter.unusedVariables false
set_option maxRecDepth 10000
namespace Mine
set_option autoImplicit false
/-! # where a top of plain lines starts, and what stands behind it -/
theorem boot_main (p : Params) : (boot_heap p).isNs mainGlobals = true := by kernel_rfl
theorem boot_blt (p : Params) : (boot_heap p).isNs builtinsNs = true := by kernel_rfl
theorem boot_st (p : Params) : (boot_heap p).isNs cStatics = true := by kernel_rfl
theorem boot_stk (p : Params) : (boot_heap p).nsKeys cStatics = [] := by kernel_rfl
theorem boot_view (p : Params) : (boot_heap p).bltView = bltViewBooted := by kernel_rfl
theorem boot_bm (p : Params) : (boot_heap p).nsMap mainGlobals "__builtins__" = some (.ref 4) := by kernel_rfl
theorem boot_four (p : Params) : (boot_heap p).get? 4 = some { cls := .type "module", dict := some builtinsNs } := by kernel_rfl
theorem boot_keys (p : Params) : (boot_heap p).nsKeys mainGlobals = startupNames := by kernel_rfl
theorem boot_sys' (p : Params) : ((boot_heap p).get? sysModules).isSome = true := by kernel_rfl
theorem boot_sys (p : Params) : ∃ o, (boot_heap p).get? sysModules = some o := Option.isSome_iff_exists.mp (boot_sys' p)
theorem boot_g (p : Params) : (boot_heap p).Ns mainGlobals ((boot_heap p).nsMap mainGlobals) := .of_isNs (boot_main p)
theorem boot_b (p : Params) : (boot_heap p).Ns builtinsNs ((boot_heap p).nsMap builtinsNs) := .of_isNs (boot_blt p)
theorem boot_s (p : Params) : (boot_heap p).Ns cStatics (fun _ => none) := by
  have h : (boot_heap p).Ns cStatics _ := .of_isNs (boot_st p)
  have e : (boot_heap p).nsMap cStatics = fun _ => none := by
    funext x
    exact Heap.nsMap_none (by rw [boot_stk]; exact List.not_mem_nil)
  rwa [e] at h
theorem boot_bmap (p : Params) (x : Str) (hx : x ≠ Str.ofString "__name__") : (boot_heap p).nsMap builtinsNs x = bootBuiltins x := Heap.of_bltView (boot_blt p) (boot_view p) x hx
theorem boot_others (p : Params) {x : Str} (hx : x ∉ startupNames) : (boot_heap p).nsMap mainGlobals x = none := Heap.nsMap_none (by rw [boot_keys]; exact hx)

section
variable {prog : Program} {w : World}
/-- the tree of the top -/
theorem top_stub {s : Shared} {Q : Fin → Shared → Prop} (e : s.heap = boot_heap w.params) (hann : hasAnns (behindTheImports prog) = false) (hdoc : docOf (behindTheImports prog) = none)
    (h : ∀ c Pl F h₁ tk, (∀ b o, s.heap.get? b = some o → h₁.get? b = some o) → s.heap.objs.size ≤ Pl → h₁.Main (s.heap.nsMap mainGlobals) c Pl #[] →
      wpAny (model prog w) (callerA.deeper (mainEnv prog c F)) (execs (behindTheImports prog) (mainEnv prog c F)) (fun _ s' => Q (.done (.ret .none)) s') (fun _ _ => False) { s with heap := h₁, toks := tk }) :
    wpAny (model prog w) callerA (do
      let code ← moduleCode prog.main
      let frame ← newBodyFrame code mainNs mainNs
      let _ ← run (.body (behindTheImports prog) { scope := prog.main.scope, locals := mainNs, globals := mainNs, cells := [], code, frame := some frame })
      ret .none) Q (fun _ _ => False) s := by
  refine wpAny_bind (wpAny_moduleCode fun c Pl h₁ tk hk hc hPl hcode => ?_)
  have hg₀ : s.heap.Ns mainGlobals (s.heap.nsMap mainGlobals) := by rw [e]; exact boot_g _
  have hg := hg₀.keeps hk
  have h4 : s.heap.get? 4 = some { cls := .type "module", dict := some builtinsNs } := by rw [e]; exact boot_four _
  have hm4 : s.heap.nsMap mainGlobals "__builtins__" = some (.ref 4) := by rw [e]; exact boot_bm _
  have h4l := Heap.lt_size h4
  unfold newBodyFrame
  refine wpAny_bind (wpAny_bind (wpAny_nsGet (a := mainNs) hg (wpAny_alloc ?_)))
  refine wpAny_bind (wpAny_run (codeAny_body hann hdoc (wpAny_mono (h c Pl _ _ tk (fun b o q => Heap.get?_push_of_some _ (hk b o q)) hPl
    ⟨hg.push _, hcode.push _, ⟨Nat.lt_of_lt_of_le hg₀.lt hc, Nat.lt_of_lt_of_le hg₀.lt hPl⟩, ⟨4, _, hm4, by decide, by decide, Nat.ne_of_lt (Nat.lt_of_lt_of_le h4l hPl), Heap.get?_push_of_some _ (hk _ _ h4), rfl, rfl, rfl⟩⟩)
    (fun f s' q => ?_) fun _ _ q => q.elim)))
  exact wpAny_pure q

/-- behind the opening, which is empty -/
theorem behind_boot {p : Program} (e : opening p = plainProg p.main.scope.names) (f : ∀ s, fenceModules? p s = some s) (w : World) :
    (∃ s, AfterRun (opening p) w s) ∧ ∀ s, AfterRun (opening p) w s → ∃ s₀, fenceModules? p s = some s₀ ∧ s₀.gens = #[] ∧ s₀.heap = boot_heap w.params ∧ s₀.asleep := by
  have h := boot_open (N := 600) e (by decide +kernel) f w
  rw [← table_eq_tree] at h
  obtain ⟨s₀, h1, h2⟩ := Option.map_eq_some_iff.mp h
  obtain ⟨s, h4, h5⟩ := Option.bind_eq_some_iff.mp h1
  have A := AfterImport.of_importEnds h4
  refine ⟨⟨s, A⟩, fun s' hs' => ?_⟩
  obtain rfl : s' = s := AfterImport.unique hs' A
  exact ⟨s₀, h5, congrArg (fun x => x.2.1) h2, congrArg Prod.fst h2, Shared.asleep_of_life (fence_lifeW h5) A.life⟩

/-- what the top leaves beside its own names -/
structure Tope (names : List Str) (p : Params) (h : Heap) (mg : Str → Option Value) : Prop where
  g : h.Ns mainGlobals mg
  keep : ∀ b o, b ≠ mainGlobals → (boot_heap p).get? b = some o → h.get? b = some o
  others : ∀ x, x ∉ names → x ≠ "__name__" → mg x = (boot_heap p).nsMap mainGlobals x

theorem keysAreStrs_of_ns {h : Heap} {a : Addr} {m : Str → Option Value} (x : h.Ns a m) : keysAreStrs h a := by
  obtain ⟨o, es, n, ho, hd, hk, _⟩ := x
  exact ⟨o, es, n, ho, hd, hk⟩
theorem isNs_of_ns {h : Heap} {a : Addr} {m : Str → Option Value} (x : h.Ns a m) : h.isNs a = true := by
  obtain ⟨o, es, n, ho, hd, hk, _⟩ := x
  unfold Heap.isNs
  rw [ho]
  dsimp only
  rw [hd]
  dsimp only
  refine Array.all_eq_true_iff_forall_mem.mpr fun e he => ?_
  obtain ⟨x, t, hx⟩ := hk e he
  rw [hx]
theorem globalOf_ns {h : Heap} {m : Str → Option Value} (x : h.Ns mainGlobals m) (n : Str) : globalOf h n = m n := by
  rw [Pin.globalOf_eq (isNs_of_ns x) n, ← x.eq_nsMap]
theorem Tope.blt {names : List Str} {p : Params} {h : Heap} {mg : Str → Option Value} (T : Tope names p h mg) : h.Ns builtinsNs ((boot_heap p).nsMap builtinsNs) :=
  (boot_b p).at fun o => T.keep _ o (by decide)
theorem Tope.st {names : List Str} {p : Params} {h : Heap} {mg : Str → Option Value} (T : Tope names p h mg) : h.Ns cStatics (fun _ => none) :=
  (boot_s p).at fun o => T.keep _ o (by decide)
theorem staticOf_ns {h : Heap} {m : Str → Option Value} (x : h.Ns cStatics m) (n : Str) : staticOf h n = m n := by
  rw [Pin.staticOf_eq (isNs_of_ns x) n, ← x.eq_nsMap]

theorem topRan_of {s₀ s₁ : Shared} {names : List Str} {mg : Str → Option Value} (hn : ∀ x, x ∈ names → x ∈ prog.boundNames) (hb : ("__builtins__" : Str) ∉ names) (hl : ∀ x, x ∈ laidNames → x ∉ names) (e : s₀.heap = boot_heap w.params) (hg : s₀.gens = #[]) (T : Tope names w.params s₁.heap mg)
    (hs : ∃ h tk, s₁ = { s₀ with heap := h, toks := tk })
    (hr : ∃ n t, schedN (denote table) prog w n (.single s₀ (topStub prog)) = .running (.single s₁ t) ∧ through t = true) (hlife : s₁.heap.life = s₀.heap.life) : TopRan prog w s₀ s₁ := by
  obtain ⟨h, tk, rfl⟩ := hs
  have g0 : s₀.heap.Ns mainGlobals ((boot_heap w.params).nsMap mainGlobals) := e ▸ boot_g _
  have st : ∀ key, staticOf h key = none := fun key => staticOf_ns T.st key
  have st0 : ∀ key, staticOf s₀.heap key = none := fun key => staticOf_ns (e ▸ boot_s _ : s₀.heap.Ns cStatics _) key
  have hblt : h.isNs builtinsNs = true := isNs_of_ns T.blt
  have lk : ∀ x, x ∈ laidNames → x ≠ "__name__" := by decide
  refine ⟨hr, hlife, Shared.rest_eq rfl, fun b o hb hn => ?_, fun key v hv => ?_, fun key => .inl ((st key).trans (st0 key).symm), keysAreStrs_of_ns T.g, fun x hx => ?_, ?_, ?_, fun x v hv => ?_, fun x hx => ?_⟩
  · exact T.keep b o (fun q => hn (.inl q)) (e ▸ hb)
  · have : staticOf h key = some v := hv
    rw [st key] at this; cases this
  · refine (Pin.builtinOf_eq hblt x).trans ?_
    rw [← T.blt.eq_nsMap]
    exact boot_bmap _ x hx
  · refine ⟨4, _, (globalOf_ns T.g _).trans ((T.others _ hb (by decide)).trans (boot_bm _)), T.keep _ _ (by decide) (boot_four _), rfl, rfl⟩
  · intro g hgm
    have : g ∈ s₀.gens := hgm
    rw [hg] at this
    simp at this
  · have hv : mg x = some v := (globalOf_ns T.g x).symm.trans hv
    by_cases hx : x ∈ names
    · exact .inr (hn x hx)
    by_cases hx2 : x = "__name__"
    · exact .inl (by rw [hx2]; decide)
    rw [T.others x hx hx2] at hv
    by_cases hx3 : x ∈ startupNames
    · exact .inl hx3
    rw [boot_others _ hx3] at hv; cases hv
  · exact (globalOf_ns T.g x).trans ((T.others x (hl x hx) (lk x hx)).trans (globalOf_ns g0 x).symm)
end
end Mine
end
section
open PySem PySem.W PyProof.Rows
set_option Elab.async false
set_option linter.unusedVariables false
set_option maxRecDepth 10000
namespace Mine
set_option autoImplicit false
/-! # the call of a law -/
section
variable {prog : Program} {w : World} {R : WRecords} {cl : Str → Option Addr} {P : Params} {ord : List DictEntry → List DictEntry}
theorem lawInts : ∀ (xs : List Int) (s : Shared), ∃ vs tk, layAllW R cl P ord (xs.map .int) s = some (vs, { s with toks := tk }) ∧ (∀ h M, RpL prog w h M (xs.map .int) vs) ∧ ∀ h, ReadsAllW R cl h vs (xs.map .int) []
  | [], s => ⟨[], s.toks, by simp only [List.map_nil, layAllW], fun _ _ => by simp only [List.map_nil, RpL], fun _ => .nil⟩
  | x :: xs, s => by
    obtain ⟨vs, tk, h1, h2, h3⟩ := lawInts xs { s with toks := s.toks + 1 }
    refine ⟨.int x s.toks :: vs, tk, ?_, fun h M => ?_, fun h => ?_⟩
    · simp only [List.map_cons, layAllW, layW, h1]
    · simp only [List.map_cons, RpL]
      exact ⟨_, _, rfl, by simp only [Rp]; exact ⟨_, rfl⟩, h2 h M⟩
    · exact .cons (as := []) (.int x s.toks) (h3 h)
theorem ints_of : ∀ {xs : List WData}, WShape.hasItems R xs .int = true → ∃ is : List Int, xs = is.map .int
  | [], _ => ⟨[], rfl⟩
  | x :: xs, h => by
    simp only [WShape.hasItems, Bool.and_eq_true] at h
    obtain ⟨is, rfl⟩ := ints_of h.2
    cases x with
    | int i => exact ⟨i :: is, rfl⟩
    | _ => exact absurd h.1 Bool.false_ne_true
end
theorem post_true (A B : List WData) : (WShape.has [] (.bool true) .bool && WTm.holds [] (.eq .res (.lit (.bool true))) { args := A, res := some (.bool true), after := B }) = true := by kernel_rfl
theorem law_args {l : OpenLaw} (hm : l.most = some 63) (hb : l.bound = none) {args : List WData} (h : l.row.toRowW.claim.pre args = true) : ∃ is : List Int, args = [.list (is.map .int)] ∧ is.length ≤ 63 := by
  obtain ⟨h1, h2⟩ := pre_splitW (r := l.row.toRowW) h
  obtain ⟨d, r, rfl, h3, h4⟩ := hasAllW_cons h1
  obtain rfl := hasAllW_nil h4
  cases d with
  | list xs =>
    have h5 : WShape.hasItems [] xs .int = true := by
      have : (WShape.hasItems [] xs .int || false) = true := h3
      rwa [Bool.or_false] at this
    obtain ⟨is, rfl⟩ := ints_of h5
    refine ⟨is, rfl, ?_⟩
    have h6 : (l.pre).holds [] { args := [.list (is.map .int)] } = true := h2
    rw [OpenLaw.pre, hm, hb] at h6
    by_cases hlt : (63 : Int) < ((is.map WData.int).length : Int)
    · exfalso
      have h7 : less? (.int (63 : Int)) (.int ((is.map WData.int).length : Int)) = some true := by
        show some (decide _) = _
        rw [decide_eq_true hlt]
      have h8 : WTm.value [] (.lt (.lit (.int (63 : Nat))) (.len (.arg 0))) { args := [.list (is.map .int)] } = some (.bool true) := by
        show Option.map WData.bool (less? (.int (63 : Int)) (.int ((is.map WData.int).length : Int))) = _
        rw [h7]; rfl
      have h9 : WTm.holds [] (.and (.not (.lt (.lit (.int (63 : Nat))) (.len (.arg 0)))) (.lit (.bool true))) { args := [.list (is.map .int)] } = false := by
        unfold WTm.holds WTm.value
        have e : WTm.value [] (.not (.lt (.lit (.int (63 : Nat))) (.len (.arg 0)))) { args := [.list (is.map .int)] } = some (.bool false) := by
          unfold WTm.value
          rw [h8]
          rfl
        rw [e]
      exact Bool.false_ne_true (h9.symm.trans h6)
    · rw [List.length_map] at hlt; omega
  | _ => exact absurd h3 Bool.false_ne_true

section
variable {w : World}
/-- a call of a law that gives True from what the top has left -/
theorem law_spec {l : OpenLaw} (hm : l.most = some 63) (hb : l.bound = none) (hw : l.writes = false) {s : Shared} (hz : s.asleep) (hgens : s.gens = #[]) (G : Gl l.prog w) (hB : G.hB = s.heap)
    (hT : ∀ b i c q, G.T b i c q → isCodeTable s.heap b)
    (call : ∃ a, G.mg l.name = some (.ref a) ∧ ∀ (A : Around) (M : Addr → Prop) (s : Shared) (v : Value) (sc : List Int) (Q : Value → Shared → Prop) (E : Value → Shared → Prop), Ok 28 A → A.frames = some [] →
      (∀ b o, G.hB.get? b = some o → Gr G.T s.heap b o) → (∀ a, M a → ∃ o, s.heap.get? a = some o) → Rp l.prog w s.heap M (.list (sc.map .int)) v → sc.length ≤ 63 →
      (∀ s', Kp G.T s s' → Q (.bool true) s') → wpAny (model l.prog w) A (PySem.call (.ref a) [v]) Q E s)
    {free : Addr → Prop} {gens : Prop} {kept : Heap → Prop} (hk : ∀ h, kept h) : l.row.toRowW.claim.CallFrom (callStub l.name) w free gens kept s := by
  obtain ⟨a, hma, hcall⟩ := call
  refine ClaimW.callFrom_of_specG (c := l.row.toRowW.claim) (tree := fun vs => do match ← nsGet mainNs l.name with
      | some f => do ret (← PySem.call f vs)
      | none => unsupported "claim.caller:no-such-global") hz hgens fun args hpre hlay ord hord => ?_
  obtain ⟨is, rfl, hlen⟩ := law_args hm hb hpre
  obtain ⟨vs, tk, h1, h2, h3⟩ := lawInts (prog := l.prog) (w := w) (R := []) (cl := classAt s.heap) (P := w.params) (ord := ord) is s
  let s₁ : Shared := { s with heap := s.heap.push { cls := .type "list", data := .seq vs.toArray }, toks := tk }
  have hlaid : layAllW [] (classAt s.heap) w.params ord [.list (is.map .int)] s = some ([.ref s.heap.objs.size], s₁) := by
    simp only [layAllW, layW, h1]
    rfl
  have keep : ∀ b o, s.heap.get? b = some o → s₁.heap.get? b = some o := fun b o e => Heap.get?_push_of_some _ e
  have hnew : s₁.heap.get? s.heap.objs.size = some { cls := .type "list", data := .seq vs.toArray } := Heap.get?_push_size _ rfl
  refine ⟨[.ref s.heap.objs.size], s₁, hlaid, ?_⟩
  have hr : Rp l.prog w s₁.heap (fun _ => False) (.list (is.map .int)) (.ref s.heap.objs.size) := by
    simp only [Rp]
    refine ⟨_, vs.toArray, rfl, id, ⟨_, hnew⟩, h2 _ _, ?_⟩
    rw [List.length_map]
    exact Nat.le_trans hlen (by decide)
  have hg : s₁.heap.Ns mainGlobals G.mg := (hB ▸ G.g : s.heap.Ns mainGlobals G.mg).keeps keep
  refine wpAny_bind (wpAny_nsGet (a := mainNs) hg ?_)
  rw [hma]
  refine wpAny_bind (hcall callerA (fun _ => False) s₁ _ is _ _ ⟨rfl, by decide, by decide⟩ rfl (fun b o e => .inl (keep b o (hB ▸ e))) (fun _ h => h.elim) hr hlen fun s' k => ?_)
  refine wpAny_pure ⟨_, rfl, .inl ⟨.bool true, rfl, fun cls => rfl, ⟨.bool true, [.list (is.map .int)], [], [s.heap.objs.size], .bool true, ?_, ?_, fun _ => ⟨List.nodup_nil, fun _ h => (nomatch h), fun _ h => (nomatch h)⟩, fun as₀ _ => ?_⟩, fun i hi => (nomatch hi), fun b o e _ _ => ?_, fun i hi => (nomatch hi)⟩, ?_, ?_, hk _⟩
  · have hl' := k.nt _ _ (.cls rfl) hnew
    exact .cons (as := [s.heap.objs.size]) (bs := []) (.list (as := []) hl' rfl rfl (h3 _)) .nil
  · show (WShape.has [] (.bool true) .bool && WTm.holds [] (.eq .res (.lit (.bool true))) { args := [.list (is.map .int)], res := some (.bool true), after := [.list (is.map .int)] }) = true
    exact post_true _ _
  · exact ident_freeW (r := l.row.toRowW) rfl rfl rfl _ _
  · rcases k.tk b o e with q | ⟨i, c, q, c2, ht, rfl, q2, _⟩
    · exact .inl q
    · refine .inr (.inl ⟨?_, rfl, #[], #[rawInt i, rawInt c, .ref c2], rfl, q2⟩)
      obtain ⟨d, o, xs, e1, e2⟩ := hT _ _ _ _ ht
      exact ⟨d, o, xs, keep _ _ e1, e2⟩
  · obtain ⟨h', tk', rfl⟩ := k.same; rfl
  · obtain ⟨h', tk', rfl⟩ := k.same
    intro g hg'
    have : g ∈ s.gens := hg'
    rw [hgens] at this
    simp at this
end
theorem law_promised {l : OpenLaw} (hm : l.most = some 63) (hb : l.bound = none) : l.row.toRowW.promised := by
  refine ⟨[.list []], ?_, ?_⟩
  · show (WShape.hasAll [] [.list []] [.list .int] && WTm.holds [] l.pre { args := [.list []] }) = true
    rw [OpenLaw.pre, hm, hb]
    rfl
  · show (WData.layableAll [.list []] && _) = true
    rfl
/-- the head of a law whose top opens with nothing -/
theorem law_row {l : OpenLaw} (said : l.row.wellSaid = true) (hm : l.most = some 63) (hb : l.bound = none) (hw : l.writes = false) (hbare : l.prog.bare) (hopen : opensWell l.prog = true) (hplain : opening l.prog = plainProg l.prog.main.scope.names) (hf : ∀ s, fenceModules? l.prog s = some s)
    (left : ∀ (w : World) (s : Shared), s.heap = boot_heap w.params → s.gens = #[] → s.asleep → ∃ s₁ mg, TopRan l.prog w s s₁ ∧ (∃ h tk, s₁ = { s with heap := h, toks := tk }) ∧ isTheDefsW l.prog s₁.heap l.name ∧
      ∃ G : Gl l.prog w, G.hB = s₁.heap ∧ G.mg = mg ∧ (∀ b i c q, G.T b i c q → isCodeTable s₁.heap b) ∧
        ∃ a, mg l.name = some (.ref a) ∧ ∀ (A : Around) (M : Addr → Prop) (s : Shared) (v : Value) (sc : List Int) (Q : Value → Shared → Prop) (E : Value → Shared → Prop), Ok 28 A → A.frames = some [] →
          (∀ b o, G.hB.get? b = some o → Gr G.T s.heap b o) → (∀ a, M a → ∃ o, s.heap.get? a = some o) → Rp l.prog w s.heap M (.list (sc.map .int)) v → sc.length ≤ 63 →
          (∀ s', Kp G.T s s' → Q (.bool true) s') → wpAny (model l.prog w) A (PySem.call (.ref a) [v]) Q E s) : l.row.Holds := by
  refine ⟨said, law_promised hm hb, ⟨hbare, hopen, rfl⟩, (law_promised hm hb).witness, fun w => ⟨(behind_boot hplain hf w).1, fun s hs => ?_⟩⟩
  obtain ⟨s₀, h1, h2, h3, h4⟩ := (behind_boot hplain hf w).2 s hs
  obtain ⟨s₁, mg, T, ⟨h', tk, e⟩, hd, G, hB, hmg, hT, a, hma, hc⟩ := left w s₀ h3 h2 h4
  have hz : s₁.asleep := Shared.asleep_of_life T.2.1 h4
  have hg : s₁.gens = #[] := by rw [e]; exact h2
  refine ⟨s₀, h1, h2, s₁, T, fun n hn => ?_, fun x hx => (nomatch hx), fun x hx => (nomatch hx), law_spec hm hb hw hz hg G hB hT ⟨a, hmg ▸ hma, hc⟩ fun h hwr => ?_⟩
  · obtain rfl : n = l.name := List.mem_singleton.mp hn
    exact hd
  · have : l.writes = true := hwr
    rw [hw] at this; cases this
end Mine
end
section
open PySem PyProof.Rows
open PySem.Builtin.Str (partsBetween occurrences strKind tooLong)
set_option linter.unusedVariables false
set_option linter.unusedSimpArgs false
set_option maxRecDepth 10000
set_option maxHeartbeats 1000000
namespace Mine
noncomputable def asDef : Option Stmt → Option (Arguments × List Stmt × Scope × Pos)
  | some (.FunctionDef _ a b _ _ _ s _ _ p) => some (a, b, s, p)
  | _ => none
noncomputable def asAsg : Option Stmt → Option (List Expr × Expr × Pos)
  | some (.Assign ts e p) => some (ts, e, p)
  | _ => none
noncomputable def fnBody (p : Program) (i : Nat) : List Stmt := ((asDef p.main.body[i]?).map (·.2.1)).getD []
noncomputable def fnScope (p : Program) (i : Nat) : Scope := ((asDef p.main.body[i]?).map (·.2.2.1)).getD default
noncomputable def fnPars (p : Program) (i : Nat) : Arguments := ((asDef p.main.body[i]?).map (·.1)).getD default

theorem cons_vs {n : Nat} {vs : List Value} (h : vs.length = n + 1) : ∃ a r, vs = a :: r ∧ r.length = n := by
  cases vs with
  | nil => cases h
  | cons a r => exact ⟨a, r, rfl, Nat.succ.inj h⟩
theorem one_vs {vs : List Value} (hl : vs.length = 1) : ∃ a, vs = [a] := by
  obtain ⟨a, r, rfl, h⟩ := cons_vs hl
  exact ⟨a, by rw [List.length_eq_zero_iff.mp h]⟩
theorem two_vs {vs : List Value} (hl : vs.length = 2) : ∃ a b, vs = [a, b] := by
  obtain ⟨a, r, rfl, h⟩ := cons_vs hl
  obtain ⟨b, rfl⟩ := one_vs h
  exact ⟨a, b, rfl⟩
theorem three_vs {vs : List Value} (hl : vs.length = 3) : ∃ a b c, vs = [a, b, c] := by
  obtain ⟨a, r, rfl, h⟩ := cons_vs hl
  obtain ⟨b, c, rfl⟩ := two_vs h
  exact ⟨a, b, c, rfl⟩
theorem four_vs {vs : List Value} (hl : vs.length = 4) : ∃ a b c d, vs = [a, b, c, d] := by
  obtain ⟨a, r, rfl, h⟩ := cons_vs hl
  obtain ⟨b, c, d, rfl⟩ := three_vs h
  exact ⟨a, b, c, d, rfl⟩
theorem six_vs {vs : List Value} (hl : vs.length = 6) : ∃ a b c d e f, vs = [a, b, c, d, e, f] := by
  obtain ⟨a, r, rfl, h⟩ := cons_vs hl
  obtain ⟨b, r2, rfl, h2⟩ := cons_vs h
  obtain ⟨c, d, e, f, rfl⟩ := four_vs h2
  exact ⟨a, b, c, d, e, f, rfl⟩
section
variable {prog : Program} {w : World} {G : Gl prog w} {k : Nat} {sc csc : Scope} {ρ ρ' : VEnv}
noncomputable def Bl (G : Gl prog w) (x : Str) (v : Value) : Prop := G.mg x = none ∧ G.mb x = some v
/-- what the top has left of names -/
structure Glo (G : Gl prog w) : Prop where
  len : Bl G "len" (.builtin "len")
  ord : Bl G "ord" (.builtin "ord")
  chr : Bl G "chr" (.builtin "chr")
  abs : Bl G "abs" (.builtin "abs")
  max : Bl G "max" (.builtin "max")
  sum : Bl G "sum" (.builtin "sum")
  divmod : Bl G "divmod" (.builtin "divmod")
  range : Bl G "range" (.type "range")
  list : Bl G "list" (.type "list")
  enumerate : Bl G "enumerate" (.type "enumerate")
  reversed : Bl G "reversed" (.type "reversed")
  marker : ∃ t, G.mg "ELLIPSIS_MARKER" = some (.str "..." t)
  limit : ∃ t, G.mg "_DIV_LIMIT" = some (.int 4000 t)

theorem EvTo.marker {p : Pos} (h : Glo G) (hx : sc.names.lookup ("ELLIPSIS_MARKER" : Str) = some .globalImplicit) : EvTo G k sc ρ (.Name "ELLIPSIS_MARKER" p) (.str "...") := by
  obtain ⟨t, ht⟩ := h.marker
  exact EvTo.global hx ht fun _ _ => by simp [Rp]
theorem EvTo.limit {p : Pos} (h : Glo G) (hx : sc.names.lookup ("_DIV_LIMIT" : Str) = some .globalImplicit) : EvTo G k sc ρ (.Name "_DIV_LIMIT" p) (.int 4000) := by
  obtain ⟨t, ht⟩ := h.limit
  exact EvTo.global hx ht fun _ _ => by simp [Rp]
theorem TrTo.ofS {e : Expr} {x : Str} (he : EvTo G k sc ρ e (.str x)) (hx : x.length < 2 ^ 62) (hp : ∀ env whole, isTrue e env whole = (do let v ← whole; standAt e.pos; holding [v] (truthy v))) : TrTo G k sc ρ e ((x.length : Int) != 0) := by
  intro A env M s Q E ho hv hr hQ
  exact isTrue_plain (he A env M s _ _ ho hv hr fun v s1 k1 r1 => by
    simp only [Rp] at r1
    obtain ⟨t, rfl⟩ := r1
    exact P.truthy_str (by lia) (hQ _ (k1.trans (Kp.tok (s1.toks + 1 + 1))))) (hp _ _)
end
local macro_rules | `(tactic| walk_at "my_x") => `(tactic| first
  | with_reducible exact List.mem_cons_self
  | ((with_reducible refine List.mem_cons_of_mem _ ?_); walk_at "my_x")
  | with_reducible exact Upd.here
  | ((with_reducible refine' Upd.skip ?k1 ?k2); (case k1 => decide +kernel); (case k2 => walk_at "my_x"))
  | ((with_reducible refine Upd.fresh ?_); walk_at "my_x")
  | with_reducible exact Filt.nil
  | ((with_reducible refine' Filt.keep ?k1 ?k2); (case k1 => decide +kernel); (case k2 => walk_at "my_x"))
  | ((with_reducible refine' Filt.drop ?k1); (case k1 => walk_at "my_x"))
  | with_reducible exact EvAll.nil
  | ((with_reducible refine' EvAll.cons ?k1 ?k2 ?k3); (case k1 | k2 | k3 => walk_at "my_x"))
  | with_reducible exact Wkn.nil
  | ((with_reducible refine Wkn.same ?_); walk_at "my_x")
  | ((with_reducible refine Wkn.forget ?_); walk_at "my_x")
  | ((with_reducible refine Wkn.drop ?_); walk_at "my_x")
  | with_reducible exact NotIn.nil
  | ((with_reducible refine NotIn.cons ?_ ?_); (· decide +kernel); (· walk_at "my_x"))
  | ((with_reducible refine' EvL.mu ?k1); (case k1 => walk_at "my_x"))
  | ((with_reducible refine' EvL.of ?k1); (case k1 => walk_at "my_x"))
  | ((with_reducible refine' EvD.mud ?k1); (case k1 => walk_at "my_x"))
  | ((with_reducible refine' EvD.of ?k1); (case k1 => walk_at "my_x"))
  | with_reducible exact PartTo.none
  | ((with_reducible refine' PartTo.some ?k1); (case k1 => walk_at "my_x"))
  | with_reducible exact EvTo.intC
  | with_reducible exact EvTo.strC
  | with_reducible exact EvTo.boolC
  | ((with_reducible refine' EvTo.var ?k1); (case k1 => walk_at "my_x"))
  | ((with_reducible refine' EvTo.marker ?k1 ?k2); (case k1 => assumption); (case k2 => decide +kernel))
  | ((with_reducible refine' EvTo.add ?k1 ?k2); (case k1 | k2 => walk_at "my_x"))
  | ((with_reducible refine' EvTo.cat ?k1 ?k2 ?k3); (case k1 | k2 => walk_at "my_x"); (case k3 => walk_at "my_side"))
  | ((with_reducible refine' EvTo.rsh ?k1 ?k2 ?k3); (case k1 | k2 => walk_at "my_x"); (case k3 => walk_at "my_side"))
  | ((with_reducible refine' EvTo.lsh ?k1 ?k2 ?k3 ?k4); (case k1 | k2 => walk_at "my_x"); (case k3 | k4 => walk_at "my_side"))
  | ((with_reducible refine' EvTo.bxor ?k1 ?k2); (case k1 | k2 => walk_at "my_x"))
  | ((with_reducible refine' EvTo.neg ?k1); (case k1 => walk_at "my_x"))
  | ((with_reducible refine' EvTo.inv ?k1); (case k1 => walk_at "my_x"))
  | ((with_reducible refine' EvTo.cmp ?k1 ?k2 ?k3 ?k4); (case k1 | k2 | k3 => walk_at "my_x"); (case k4 => with_unfolding_all rfl))
  | ((with_reducible refine' EvTo.tuple ?k1 ?k2); (case k1 => walk_at "my_x"); (case k2 => walk_at "my_side"))
  | ((with_reducible refine' EvTo.list ?k1 ?k2); (case k1 => walk_at "my_x"); (case k2 => walk_at "my_side"))
  | ((with_reducible refine' EvTo.lenS ?k1 ?k2 ?k3 ?k4 ?k5 ?k6); (case k1 => decide +kernel); (case k2 | k3 | k4 | k5 => walk_at "my_x"); (case k6 => walk_at "my_side"))
  | ((with_reducible refine' EvTo.lenL ?k1 ?k2 ?k3 ?k4 ?k5); (case k1 => decide +kernel); (case k2 | k3 | k4 | k5 => walk_at "my_x"))
  | ((with_reducible refine' EvTo.bitLen ?k1 ?k2 ?k3); (case k1 => walk_at "my_x"); (case k2 => exact fun _ => rfl); (case k3 => rfl))
  | ((with_reducible refine' EvTo.startswith ?k1 ?k2 ?k3 ?k4 ?k5); (case k1 => walk_at "my_x"); (case k2 => exact fun _ => rfl); (case k3 | k4 => walk_at "my_x"); (case k5 => rfl))
  | ((with_reducible refine' EvTo.endswith ?k1 ?k2 ?k3 ?k4 ?k5); (case k1 => walk_at "my_x"); (case k2 => exact fun _ => rfl); (case k3 | k4 => walk_at "my_x"); (case k5 => rfl))
  | ((with_reducible refine' EvTo.find ?k1 ?k2 ?k3 ?k4 ?k5 ?k6 ?k7 ?k8 ?k9); (case k1 => walk_at "my_x"); (case k2 => exact fun _ => rfl); (case k3 | k4 | k5 | k6 | k7 | k8 => walk_at "my_x"); (case k9 => rfl))
  | ((with_reducible refine' EvTo.itemS ?k1 ?k2 ?k3 ?k4 ?k5); (case k1 | k2 => walk_at "my_x"); (case k3 => decide); (case k4 => assumption); (case k5 => exact fun _ _ => rfl))
  | ((with_reducible refine' EvTo.sliceS ?k1 ?k2 ?k3 ?k4 ?k5); (case k1 | k2 | k3 => walk_at "my_x"); (case k4 => walk_at "my_side"); (case k5 => exact fun _ _ => rfl))
  | ((with_reducible refine' ItTo.rangeN ?k1 ?k2 ?k3 ?k4 ?k5 ?k6); (case k1 => decide +kernel); (case k2 | k3 => walk_at "my_x"); (case k4 => walk_at "my_nat"); (case k5 => walk_at "my_x"); (case k6 => walk_at "my_side"))
  | ((with_reducible refine' ItTo.enumL ?k1 ?k2 ?k3 ?k4 ?k5); (case k1 => decide +kernel); (case k2 | k3 | k4 | k5 => walk_at "my_x"))
  | ((with_reducible refine' ItTo.list ?k1); (case k1 => walk_at "my_x"))
  | ((with_reducible refine' ItTo.str ?k1); (case k1 => walk_at "my_x"))
  | ((with_reducible refine' ItTo.dict ?k1); (case k1 => walk_at "my_x"))
  | with_reducible exact EvPairs.nil
  | ((with_reducible refine' EvPairs.cons ?k1 ?k2 ?k3); (case k1 | k2 | k3 => walk_at "my_x"))
  | with_reducible exact CmpOk.eqI
  | with_reducible exact CmpOk.ltI
  | with_reducible exact CmpOk.gtI
  | with_reducible exact CmpOk.eqS
  | with_reducible exact CmpOk.ninS
  | ((with_reducible refine' TrTo.cmp ?k1 ?k2 ?k3 ?k4); (case k1 | k2 | k3 => walk_at "my_x"); (case k4 => with_unfolding_all rfl))
  | ((with_reducible refine' TrTo.ofS ?k1 ?k2 ?k3); (case k1 => walk_at "my_x"); (case k2 => walk_at "my_side"); (case k3 => exact fun _ _ => rfl))
  | ((with_reducible refine' EvIt.own ?k1); (case k1 => walk_at "my_x"))
  | with_reducible exact EvIts.nil
  | ((with_reducible refine' EvIts.cons ?k1 ?k2 ?k3); (case k1 | k2 | k3 => walk_at "my_x"))
  | with_reducible exact UpdAll.nil
  | ((with_reducible refine' UpdAll.cons ?k1 ?k2 ?k3); (case k1 | k2 | k3 => walk_at "my_x"))
  | ((with_reducible refine' BindTo.name ?k1 ?k2); (case k1 | k2 => walk_at "my_x"))
  | ((with_reducible refine' BindTo.tuple ?k1); (case k1 => walk_at "my_x"))
  | with_reducible exact BindEach.nil _
  | ((with_reducible refine' BindEach.cons _ _ _ _ _ _ _ ?k1 ?k2 ?k3); (case k1 => exact fun _ _ => rfl); (case k2 | k3 => walk_at "my_x"))
  | with_reducible exact Names.nil
  | ((with_reducible refine' Names.cons ?k1); (case k1 => walk_at "my_x"))
  | ((with_reducible refine' Step.append ?k1 ?k2 ?k3 ?k4 ?k5 ?k6); (case k1 | k2 | k3 => walk_at "my_x"); (case k4 => rfl); (case k5 => walk_at "my_x"); (case k6 => walk_at "my_side"))
  | ((with_reducible refine' Step.assign ?k1 ?k2 ?k3 ?k4); (case k1 | k2 | k3 => walk_at "my_x"); (case k4 => exact fun _ => rfl))
  | ((with_reducible refine' Step.tupSwN ?k1 ?k6 ?k2 ?k3 ?k4 ?k5); (case k1 => walk_at "my_x"); (case k6 => walk_at "my_x"); (case k3 => decide +kernel); (case k4 => rfl); (case k5 => exact Nat.le_of_ble_eq_true rfl); (case k2 => (dsimp only [List.reverse, List.reverseAux]; walk_at "my_x")))
  | exact Or.inl (by decide +kernel)
  | exact Or.inr (by decide +kernel)
  | exact fun _ _ => rfl
  | exact (Glo.len (by assumption)).1
  | exact (Glo.len (by assumption)).2
  | exact (Glo.ord (by assumption)).1
  | exact (Glo.ord (by assumption)).2
  | exact (Glo.range (by assumption)).1
  | exact (Glo.range (by assumption)).2
  | exact (Glo.enumerate (by assumption)).1
  | exact (Glo.enumerate (by assumption)).2)
local macro_rules | `(tactic| walk_at "my_side") => `(tactic| first
  | with_reducible assumption
  | (with_reducible show _ ≤ lid; exact Nat.le_of_ble_eq_true rfl)
  | decide
  | lia
  | (simp only [PySem.Str.length_append]; lia)
  | skip)
local macro_rules | `(tactic| walk_at "my_nat") => `(tactic| first
  | exact EvTo.natC
  | ((with_reducible refine' EvTo.var ?k1); (case k1 => walk_at "my_x"))
  | ((with_reducible refine' EvTo.addN ?k1 ?k2); (case k1 | k2 => walk_at "my_nat"))
  | ((with_reducible refine' EvTo.ord ?k1 ?k2 ?k3 ?k4 ?k5); (case k1 => decide +kernel); (case k2 | k3 | k4 | k5 => walk_at "my_x")))
local macro_rules | `(tactic| walk_at "my_evc") => `(tactic| ((refine' EvTo.cast ?k1 ?k2); (case k1 => walk_at "my_x"); (case k2 => rfl)))
local macro_rules | `(tactic| walk_at "my_args") => `(tactic| first
  | dsimp only [List.map, List.zip, List.zipWith])
local macro_rules | `(tactic| walk_at "s_asg") => `(tactic| ((with_reducible refine' ExTo.step ?s1 ?s2); (case s1 => walk_at "my_x")))
local macro_rules | `(tactic| walk_at "s_tup") => `(tactic| ((with_reducible refine' ExTo.step ?s1 ?s2); (case s1 => walk_at "my_x")))
local macro_rules | `(tactic| walk_at "s_app") => `(tactic| ((with_reducible refine' ExTo.step ?s1 ?s2); (case s1 => walk_at "my_x")))
local macro_rules | `(tactic| walk_at "b_open") => `(tactic| (walk_at "my_args"; (with_reducible refine' ExTo.body ?h1 ?h2); (case h1 => exact (rfl : _ = List.cons _ _))))
local macro_rules | `(tactic| walk_at "s_step") => `(tactic| (with_reducible refine' ExTo.step ?s1 ?s2))
noncomputable abbrev PP : Program := PySem.Challenge.pw_rs0224_02
noncomputable abbrev iEll : Nat := 2
noncomputable abbrev iD2 : Nat := 5
noncomputable abbrev iD3 : Nat := 6
noncomputable abbrev iI2d : Nat := 7
noncomputable abbrev iD2i : Nat := 8
noncomputable abbrev iDmp : Nat := 9
noncomputable abbrev iIdm : Nat := 10
noncomputable abbrev iB1 : Nat := 13
noncomputable abbrev iB3 : Nat := 15
/-! ## _ellipsis_match -/
noncomputable def ellGo (got : Str) (ep : Int) : List Str → Int → Bool
  | [], _ => true
  | w :: ws, sp => if findIn got w sp ep < 0 then false else ellGo got ep ws (findIn got w sp ep + w.length)
noncomputable def ellPos (got : Str) (ep : Int) : List Str → Int → Nat → Int
  | _, sp, 0 => sp
  | [], sp, _ => sp
  | w :: ws, sp, i + 1 => ellPos got ep ws (findIn got w sp ep + w.length) i
theorem ellPos_step (got : Str) (ep : Int) : ∀ (ws : List Str) (sp : Int) (i : Nat) (x : Str), ws[i]? = some x → ellPos got ep ws sp (i + 1) = findIn got x (ellPos got ep ws sp i) ep + x.length
  | w :: ws, sp, 0, x, h => by simp at h; subst h; simp [ellPos]
  | w :: ws, sp, i + 1, x, h => by
    have := ellPos_step got ep ws (findIn got w sp ep + w.length) i x (by simpa using h)
    simpa [ellPos] using this
/-- what is behind the two ends -/
noncomputable def ellMid (got : Str) (ws : List Str) (sp ep : Int) : Bool := if sp > ep then false else ellGo got ep ws sp
noncomputable def ellEnd (got : Str) (ws : List Str) (sp : Int) : Bool :=
  let z := ws.getLastD Str.empty
  if (z.length : Int) != 0 then (if Txt.endswith got z then ellMid got ws.dropLast sp (got.length - z.length) else false) else ellMid got ws sp got.length
noncomputable def ellTop (got : Str) (ws : List Str) : Bool :=
  let z := ws.headD Str.empty
  if (z.length : Int) != 0 then (if Txt.startswith got z then ellEnd got ws.tail z.length else false) else ellEnd got ws 0
noncomputable abbrev dots : Str := "..."
noncomputable def ell (want got : Str) : Bool :=
  if (!(!(occurrences want dots 0 want.length 1).isEmpty)) = true then want == got else ellTop got (Txt.split want dots)
structure EllOk (want got : Str) : Prop where
  lw : want.length ≤ lid
  lg : got.length ≤ lid
  parts : (partsBetween want (occurrences want dots 0 want.length (want.length + 1)) dots.length).length ≤ lid
  len : (Txt.split want dots).length ≤ lid
  two : (!(!(occurrences want dots 0 want.length 1).isEmpty)) = false → 2 ≤ (Txt.split want dots).length
  short : ∀ z, z ∈ Txt.split want dots → z.length ≤ lid

section
variable {prog : Program} {w : World} {G : Gl prog w} {k : Nat} {sc : Scope} {ρ : VEnv}
theorem lid62 {n : Nat} (h : n ≤ lid) : n < 2 ^ 62 := Nat.lt_of_le_of_lt h (by decide)
/-- the last part: the walk over the parts -/
theorem ell_loop (hG : Glo G) (got w0 : Str) (ws : List Str) (sp ep : Int) (want : Str) (hlg : got.length ≤ lid) (hsh : ∀ z, z ∈ ws → z.length ≤ lid) (Pc : Bool) (hP : Pc = ellGo got ep ws sp) {ss : List Stmt} (hss : ss = (fnBody PP iEll).drop 9) :
    ExTo G k (fnScope PP iEll) [("w", .own (.str w0)), ("startpos", .own (.int sp)), ("endpos", .own (.int ep)), ("ws", .mu (ws.map .str)), ("want", .own (.str want)), ("got", .own (.str got))] ss (fun o => o = .ret (.bool Pc)) := by
  subst hss
  have h0 : ∀ ws sp, ellPos got ep ws sp 0 = sp := fun ws sp => by cases ws <;> rfl
  apply ExTo.freeze (x := "ws") (ds := ws.map .str) (by walk_at "my_x") (ρ' := [("w", .own (.str w0)), ("startpos", .own (.int sp)), ("endpos", .own (.int ep)), ("ws", .own (.list (ws.map .str))), ("want", .own (.str want)), ("got", .own (.str got))]) (by walk_at "my_x")
  refine ExTo.for (f := PyData.str) (xs := ws) (Iv := fun i => Pc = ellGo got ep (ws.drop i) (ellPos got ep ws sp i))
    (R := fun i => [("w", .un), ("startpos", .own (.int (ellPos got ep ws sp i))), ("endpos", .own (.int ep)), ("ws", .own (.list (ws.map .str))), ("want", .own (.str want)), ("got", .own (.str got))])
    (ρb := fun i x => [("w", .own (.str x)), ("startpos", .own (.int (ellPos got ep ws sp i))), ("endpos", .own (.int ep)), ("ws", .own (.list (ws.map .str))), ("want", .own (.str want)), ("got", .own (.str got))])
    (ItTo.list ?_) (fun _ _ => rfl) ?_ ?_ ?_ ?_ ?_
  · walk_at "my_x"
  · rw [h0]; walk_at "my_x"
  · show Pc = ellGo got ep (ws.drop 0) (ellPos got ep ws sp 0)
    rw [h0, List.drop_zero]; exact hP
  · intro i x hx _
    exact BindTo.name (by walk_at "my_x") (by walk_at "my_x")
  · intro i x hx hI
    have hxl : x.length < 2 ^ 62 := lid62 (hsh x (List.mem_of_getElem? hx))
    have hd : ws.drop i = x :: ws.drop (i + 1) := by
      have hi := (List.getElem?_eq_some_iff.mp hx).1
      rw [List.drop_eq_getElem_cons hi]
      rw [List.getElem?_eq_getElem hi] at hx
      rw [Option.some.inj hx]
    rw [hd] at hI
    refine ExTo.step (Step.assign (d := .int (findIn got x (ellPos got ep ws sp i) ep)) (by walk_at "my_x") (by walk_at "my_x") (ρ' := [("w", .own (.str x)), ("startpos", .own (.int (findIn got x (ellPos got ep ws sp i) ep))), ("endpos", .own (.int ep)), ("ws", .own (.list (ws.map .str))), ("want", .own (.str want)), ("got", .own (.str got))]) (by walk_at "my_x") (fun _ => rfl)) ?_
    apply ExTo.ite (b := decide (findIn got x (ellPos got ep ws sp i) ep < 0)) (P1 := fun o => (o = .next [("w", .own (.str x)), ("startpos", .own (.int (findIn got x (ellPos got ep ws sp i) ep))), ("endpos", .own (.int ep)), ("ws", .own (.list (ws.map .str))), ("want", .own (.str want)), ("got", .own (.str got))] ∧ ¬ findIn got x (ellPos got ep ws sp i) ep < 0) ∨ o = .ret (.bool Pc))
    · walk_at "my_x"
    · intro hb
      refine ExTo.ret EvTo.boolC (.inr ?_)
      have : Pc = false := by rw [hI]; simp only [ellGo]; rw [if_pos (by simpa using hb)]
      rw [this]
    · intro hb
      exact ExTo.nil (.inl ⟨rfl, by simpa using hb⟩)
    · rintro ρ1 (⟨h1, h2⟩ | h1)
      · cases h1
        refine ExTo.step (Step.augAdd (b := x.length) (by walk_at "my_x") (by walk_at "my_x") (by walk_at "my_x") (ρ' := [("w", .own (.str x)), ("startpos", .own (.int (ellPos got ep ws sp (i + 1)))), ("endpos", .own (.int ep)), ("ws", .own (.list (ws.map .str))), ("want", .own (.str want)), ("got", .own (.str got))]) (by rw [ellPos_step got ep ws sp i x hx]; walk_at "my_x")) ?_
        refine ExTo.nil ⟨by walk_at "my_x", ?_⟩
        rw [hI]
        simp only [ellGo]
        rw [if_neg h2, ellPos_step got ep ws sp i x hx]
      · cases h1
    · rintro d (⟨h1, _⟩ | h1)
      · cases h1
      · exact h1
  · intro hI
    refine ExTo.ret EvTo.boolC ?_
    rw [List.drop_length] at hI
    simp only [ellGo] at hI
    rw [hI]

/-- startpos > endpos, and on -/
theorem ell_mid (hG : Glo G) (got w0 : Str) (ws : List Str) (sp ep : Int) (want : Str) (hlg : got.length ≤ lid) (hsh : ∀ z, z ∈ ws → z.length ≤ lid) (Pc : Bool) (hP : Pc = ellMid got ws sp ep) {ss : List Stmt} (hss : ss = (fnBody PP iEll).drop 8) :
    ExTo G k (fnScope PP iEll) [("w", .own (.str w0)), ("startpos", .own (.int sp)), ("endpos", .own (.int ep)), ("ws", .mu (ws.map .str)), ("want", .own (.str want)), ("got", .own (.str got))] ss (fun o => o = .ret (.bool Pc)) := by
  subst hss
  apply ExTo.ite (b := decide (sp > ep)) (P1 := fun o => (o = .next [("w", .own (.str w0)), ("startpos", .own (.int sp)), ("endpos", .own (.int ep)), ("ws", .mu (ws.map .str)), ("want", .own (.str want)), ("got", .own (.str got))] ∧ ¬ sp > ep) ∨ o = .ret (.bool Pc))
  · walk_at "my_x"
  · intro hb
    refine ExTo.ret EvTo.boolC (.inr ?_)
    have : Pc = false := by rw [hP]; unfold ellMid; rw [if_pos (by simpa using hb)]
    rw [this]
  · intro hb
    exact ExTo.nil (.inl ⟨rfl, by simpa using hb⟩)
  · rintro ρ1 (⟨h1, h2⟩ | h1)
    · cases h1
      exact ell_loop hG got w0 ws sp ep want hlg hsh Pc (by rw [hP]; unfold ellMid; rw [if_neg h2]) rfl
    · cases h1
  · rintro d (⟨h1, _⟩ | h1)
    · cases h1
    · exact h1

theorem getLastD_get {α : Type} {l : List α} (d : α) (h : l ≠ []) : l[l.length - 1]? = some (l.getLastD d) := by
  have hl : 0 < l.length := List.length_pos_iff.mpr h
  rw [List.getLastD_eq_getLast?, List.getLast?_eq_getElem?, List.getElem?_eq_getElem (by lia)]
  rfl
theorem seqIdx_last {n : Nat} (h : 0 < n) : seqIndex? (-1) n = some (n - 1) := by
  unfold seqIndex?
  have e : (if (-1 : Int) < 0 then (-1 : Int) + (n : Int) else -1) = ((n - 1 : Nat) : Int) := by rw [if_pos (by decide)]; lia
  simp only [e]
  rw [if_pos (by simp; lia)]
  simp
theorem eraseIdx_last {α : Type} {l : List α} : l.eraseIdx (l.length - 1) = l.dropLast := by
  rw [List.eraseIdx_length_sub_one]

/-- w = ws[-1], and on -/
theorem ell_end (hG : Glo G) (got w0 : Str) (ws : List Str) (sp : Int) (want : Str) (hlg : got.length ≤ lid) (hsh : ∀ z, z ∈ ws → z.length ≤ lid) (hne : ws ≠ []) (hll : ws.length ≤ lid) (Pc : Bool) (hP : Pc = ellEnd got ws sp) {ss : List Stmt} (hss : ss = (fnBody PP iEll).drop 6) :
    ExTo G k (fnScope PP iEll) [("w", .own (.str w0)), ("startpos", .own (.int sp)), ("endpos", .own (.int got.length)), ("ws", .mu (ws.map .str)), ("want", .own (.str want)), ("got", .own (.str got))] ss (fun o => o = .ret (.bool Pc)) := by
  subst hss
  have hpos : 0 < ws.length := List.length_pos_iff.mpr hne
  have hzl : ws[ws.length - 1]? = some (ws.getLastD Str.empty) := getLastD_get Str.empty hne
  unfold ellEnd at hP
  generalize hz : ws.getLastD Str.empty = z at hP hzl
  have hzs : z.length < 2 ^ 62 := lid62 (hsh z (List.mem_of_getElem? hzl))
  refine ExTo.step (Step.assign (d := .str z) (EvTo.itemN (n := -1) (ds := ws.map .str) (by walk_at "my_x") (EvTo.neg EvTo.intC) (by decide) (by simp; lia) ?_ (fun _ _ => rfl)) (by walk_at "my_x") (ρ' := [("w", .own (.str z)), ("startpos", .own (.int sp)), ("endpos", .own (.int got.length)), ("ws", .mu (ws.map .str)), ("want", .own (.str want)), ("got", .own (.str got))]) (by walk_at "my_x") (fun _ => rfl)) ?_
  · rw [List.length_map, List.getElem?_map, show ((-1 : Int) + (ws.length : Int)).toNat = ws.length - 1 by lia, hzl]; rfl
  apply ExTo.ite (b := (z.length : Int) != 0) (P1 := fun o => (∃ ws2 ep, o = .next [("w", .own (.str z)), ("startpos", .own (.int sp)), ("endpos", .own (.int ep)), ("ws", .mu (ws2.map .str)), ("want", .own (.str want)), ("got", .own (.str got))] ∧ Pc = ellMid got ws2 sp ep ∧ ∀ y, y ∈ ws2 → y ∈ ws) ∨ o = .ret (.bool Pc))
  · walk_at "my_x"
  · intro hb
    simp only [hb, if_true] at hP
    apply ExTo.ite (b := Txt.endswith got z) (P1 := fun o => (∃ ws2 ep, o = .next [("w", .own (.str z)), ("startpos", .own (.int sp)), ("endpos", .own (.int ep)), ("ws", .mu (ws2.map .str)), ("want", .own (.str want)), ("got", .own (.str got))] ∧ Pc = ellMid got ws2 sp ep ∧ ∀ y, y ∈ ws2 → y ∈ ws) ∨ o = .ret (.bool Pc))
    · apply TrTo.of (d := .bool (Txt.endswith got z))
      · walk_at "my_x"
      · trivial
      · exact fun _ _ => rfl
    · intro hb2
      rw [hb2, if_pos rfl] at hP
      refine ExTo.step (Step.augSub (b := z.length) (by walk_at "my_x") (by walk_at "my_x") (by walk_at "my_x") (ρ' := [("w", .own (.str z)), ("startpos", .own (.int sp)), ("endpos", .own (.int (got.length - z.length))), ("ws", .mu (ws.map .str)), ("want", .own (.str want)), ("got", .own (.str got))]) (by walk_at "my_x")) ?_
      refine ExTo.step (Step.del (ds := ws.map .str) (i := -1) (j := ws.length - 1) (by walk_at "my_x") (EvTo.neg EvTo.intC) (by decide) (by rw [List.length_map]; exact seqIdx_last hpos) (ρ' := [("w", .own (.str z)), ("startpos", .own (.int sp)), ("endpos", .own (.int (got.length - z.length))), ("ws", .mu (ws.dropLast.map .str)), ("want", .own (.str want)), ("got", .own (.str got))]) ?_) ?_
      · rw [← List.length_map (f := PyData.str), eraseIdx_last, ← List.map_dropLast]; walk_at "my_x"
      · exact ExTo.nil (.inl ⟨_, _, rfl, hP, fun y hy => List.dropLast_subset _ hy⟩)
    · intro hb2
      rw [hb2] at hP
      exact ExTo.ret EvTo.boolC (.inr (by rw [hP]; rfl))
    · intro ρ1 h1
      rcases h1 with h1 | h1
      · exact ExTo.nil (.inl h1)
      · cases h1
    · intro d h1
      rcases h1 with ⟨_, _, h1, _⟩ | h1
      · cases h1
      · exact .inr h1
  · intro hb
    simp only [hb] at hP
    exact ExTo.nil (.inl ⟨ws, _, rfl, hP, fun y h => h⟩)
  · rintro ρ1 (⟨ws2, ep, h1, h2, h3⟩ | h1)
    · cases h1
      exact ell_mid hG got z ws2 sp ep want hlg (fun y hy => hsh y (h3 y hy)) Pc h2 rfl
    · cases h1
  · rintro d (⟨_, _, h1, _⟩ | h1)
    · cases h1
    · exact h1

theorem ell_body (hG : Glo G) (want got : Str) (ok : EllOk want got) : ExTo G k (fnScope PP iEll) [("want", .own (.str want)), ("got", .own (.str got))] (fnBody PP iEll) (fun o => o = .ret (.bool (ell want got))) := by
  have hlg := lid62 ok.lg
  apply ExTo.ite (P1 := fun o => (o = .next [("want", .own (.str want)), ("got", .own (.str got))] ∧ (!(!(occurrences want dots 0 want.length 1).isEmpty)) = false) ∨ o = .ret (.bool (ell want got)))
  · walk_at "my_x"
  · intro h
    apply ExTo.ret
    · walk_at "my_x"
    · right
      have : ell want got = (want == got) := by unfold ell; exact if_pos h
      rw [this]
  · intro h
    exact ExTo.nil (.inl ⟨rfl, h⟩)
  rotate_left
  · rintro d (⟨h, _⟩ | h)
    · cases h
    · exact h
  intro ρ1 hρ1
  rcases hρ1 with ⟨h1, h⟩ | h1
  rotate_left
  · cases h1
  cases h1
  have he : ell want got = ellTop got (Txt.split want dots) := by unfold ell; rw [if_neg (by rw [h]; decide)]
  rw [he]
  have h2 := ok.two h
  have hsh := ok.short
  have hll := ok.len
  refine ExTo.step (Step.assignIt (EvIt.split (x := want) (y := dots) ?_ (fun _ => rfl) ?_ (fun _ _ => rfl) rfl (by decide) (Nat.le_trans ok.lw lid_le) (Nat.le_trans ok.parts lid_le) ok.len) (by walk_at "my_x") (ρ' := [("ws", .mu ((Txt.split want dots).map .str)), ("want", .own (.str want)), ("got", .own (.str got))]) (by walk_at "my_x") (fun _ => rfl)) ?_
  · walk_at "my_x"
  · walk_at "my_x"
  generalize Txt.split want dots = ws at h2 hsh hll
  have hne : ws ≠ [] := by rintro rfl; simp at h2
  refine ExTo.step (Step.assert (TrTo.cast (TrTo.cmp (EvTo.lenL (ds := ws.map .str) (by decide +kernel) (Glo.len hG).1 (Glo.len hG).2 (by walk_at "my_x") (fun _ _ => rfl)) EvTo.intC CmpOk.geI rfl) ?_)) ?_
  · simp; lia
  refine ExTo.step (Step.tupSw (ys := ["startpos", "endpos"]) (bs := [.own (.int 0), .own (.int got.length)]) (.cons (fun _ _ => rfl) (.own EvTo.intC) (.cons (fun _ _ => rfl) (.own (by walk_at "my_x")) .nil)) (ρ' := [("startpos", .own (.int 0)), ("endpos", .own (.int got.length)), ("ws", .mu (ws.map .str)), ("want", .own (.str want)), ("got", .own (.str got))])
    (.cons (r1 := [("endpos", .own (.int got.length)), ("ws", .mu (ws.map .str)), ("want", .own (.str want)), ("got", .own (.str got))]) (by walk_at "my_x") (by walk_at "my_x") (.cons (by walk_at "my_x") (by walk_at "my_x") .nil)) (by decide +kernel) (by rfl) (by simp [lid])) ?_
  obtain ⟨z, ws', rfl⟩ : ∃ z ws', ws = z :: ws' := by
    cases ws with
    | nil => exact absurd rfl hne
    | cons z ws' => exact ⟨z, ws', rfl⟩
  have hws' : ws' ≠ [] := by rintro rfl; simp at h2
  have hzs : z.length < 2 ^ 62 := lid62 (hsh z List.mem_cons_self)
  refine ExTo.step (Step.assign (d := .str z) (EvTo.item (n := 0) (ds := (z :: ws').map .str) (by walk_at "my_x") EvTo.intC (by decide) rfl (fun _ _ => rfl)) (by walk_at "my_x") (ρ' := [("w", .own (.str z)), ("startpos", .own (.int 0)), ("endpos", .own (.int got.length)), ("ws", .mu ((z :: ws').map .str)), ("want", .own (.str want)), ("got", .own (.str got))]) (by walk_at "my_x") (fun _ => rfl)) ?_
  generalize hPc : ellTop got (z :: ws') = Pc
  have hP : Pc = if ((z.length : Int) != 0) = true then (if Txt.startswith got z = true then ellEnd got ws' z.length else false) else ellEnd got (z :: ws') 0 := hPc.symm
  apply ExTo.ite (b := (z.length : Int) != 0) (P1 := fun o => (∃ ws2 sp, o = .next [("w", .own (.str z)), ("startpos", .own (.int sp)), ("endpos", .own (.int got.length)), ("ws", .mu (ws2.map .str)), ("want", .own (.str want)), ("got", .own (.str got))] ∧ Pc = ellEnd got ws2 sp ∧ (∀ y, y ∈ ws2 → y ∈ z :: ws') ∧ ws2 ≠ [] ∧ ws2.length ≤ lid) ∨ o = .ret (.bool Pc))
  · walk_at "my_x"
  · intro hb
    simp only [hb, if_true] at hP
    apply ExTo.ite (b := Txt.startswith got z) (P1 := fun o => (∃ ws2 sp, o = .next [("w", .own (.str z)), ("startpos", .own (.int sp)), ("endpos", .own (.int got.length)), ("ws", .mu (ws2.map .str)), ("want", .own (.str want)), ("got", .own (.str got))] ∧ Pc = ellEnd got ws2 sp ∧ (∀ y, y ∈ ws2 → y ∈ z :: ws') ∧ ws2 ≠ [] ∧ ws2.length ≤ lid) ∨ o = .ret (.bool Pc))
    · apply TrTo.of (d := .bool (Txt.startswith got z))
      · walk_at "my_x"
      · trivial
      · exact fun _ _ => rfl
    · intro hb2
      rw [hb2, if_pos rfl] at hP
      refine ExTo.step (Step.assign (d := .int z.length) (by walk_at "my_x") (by walk_at "my_x") (ρ' := [("w", .own (.str z)), ("startpos", .own (.int z.length)), ("endpos", .own (.int got.length)), ("ws", .mu ((z :: ws').map .str)), ("want", .own (.str want)), ("got", .own (.str got))]) (by walk_at "my_x") (fun _ => rfl)) ?_
      refine ExTo.step (Step.del (ds := (z :: ws').map .str) (i := 0) (j := 0) (by walk_at "my_x") EvTo.intC (by decide) (by simp [seqIndex?]) (ρ' := [("w", .own (.str z)), ("startpos", .own (.int z.length)), ("endpos", .own (.int got.length)), ("ws", .mu (ws'.map .str)), ("want", .own (.str want)), ("got", .own (.str got))]) (by simp only [List.map_cons, List.eraseIdx_cons_zero]; walk_at "my_x")) ?_
      exact ExTo.nil (.inl ⟨_, _, rfl, hP, fun y hy => List.mem_cons_of_mem _ hy, hws', by simp at hll; lia⟩)
    · intro hb2
      rw [hb2] at hP
      exact ExTo.ret EvTo.boolC (.inr (by rw [hP]; rfl))
    · intro ρ1 h1
      rcases h1 with h1 | h1
      · exact ExTo.nil (.inl h1)
      · cases h1
    · intro d h1
      rcases h1 with ⟨_, _, h1, _⟩ | h1
      · cases h1
      · exact .inr h1
  · intro hb
    simp only [hb] at hP
    exact ExTo.nil (.inl ⟨z :: ws', _, rfl, hP, fun y h => h, hne, hll⟩)
  · rintro ρ1 (⟨ws2, ep, h1, h2, h3, h4, h5⟩ | h1)
    · cases h1
      exact ell_end hG got z ws2 ep want ok.lg (fun y hy => hsh y (h3 y hy)) h4 h5 Pc h2 rfl
    · cases h1
  · rintro d (⟨_, _, h1, _⟩ | h1)
    · cases h1
    · exact h1

theorem ell_fn (hG : Glo G) (hD : DefAt G "_ellipsis_match" (fnPars PP iEll) (fnBody PP iEll) (fnScope PP iEll)) : FnOk G "_ellipsis_match" 1 (fun ds d => ∃ want got, ds = [.str want, .str got] ∧ EllOk want got ∧ d = .bool (ell want got)) := by
  refine FnOk.of (k := 0) (ps := ["want", "got"]) hD (by decide +kernel) (fun pm c doc vs hl => ?_) fun ds d h => ?_
  · obtain ⟨a, b, rfl⟩ := two_vs hl
    rfl
  · obtain ⟨want, got, rfl, ok, rfl⟩ := h
    exact ⟨rfl, (ell_body hG want got ok).mono fun o h => .inl h⟩
end
noncomputable def inBody (b : List Stmt) (i : Nat) : List Stmt := ((asDef b[i]?).map (·.2.1)).getD []
noncomputable def inScope (b : List Stmt) (i : Nat) : Scope := ((asDef b[i]?).map (·.2.2.1)).getD default
noncomputable def inPars (b : List Stmt) (i : Nat) : Arguments := ((asDef b[i]?).map (·.1)).getD default
section
variable {prog : Program} {w : World} {G : Gl prog w} {k : Nat}

/-- what the inner def of _int2digits needs to stand -/
structure InnI (G : Gl prog w) (a f c1 c2 c3 : Addr) (n : Nat) (cl : List (Str × Addr)) (M : Addr → Prop) (s : Shared) : Prop where
  base : ∀ b o, G.hB.get? b = some o → Gr G.T s.heap b o
  dom : ∀ b, M b → ∃ o, s.heap.get? b = some o
  fo : ∃ doc pm c' ctv, s.heap.get? f = some (PySem.W.fnMade "inner" "_int2digits.<locals>.inner" (inPars (fnBody PP iI2d) 1) (inBody (fnBody PP iI2d) 1) (inScope (fnBody PP iI2d) 1) cl doc pm c' ctv) ∧ CodeO s.heap c' "_int2digits.<locals>.inner"
  k1 : s.heap.IsCell c1 (some (.ref a))
  k2 : s.heap.IsCell c2 (some (.ref f))
  k3 : ∃ t, s.heap.IsCell c3 (some (.int n t))
  ma : M a
  mc : ∀ x c, cl.lookup x = some c → M c
  nb : G.hB.get? a = none
  l1 : cl.lookup ("a_digits" : Str) = some c1
  l2 : cl.lookup ("inner" : Str) = some c2
  l3 : cl.lookup ("n" : Str) = some c3
  hfree : ∀ x, (inScope (fnBody PP iI2d) 1).names.lookup x = some .free → ∃ c, cl.lookup x = some c
  cne : ∀ x, cl.lookup x ≠ some a
variable {a f c1 c2 c3 : Addr} {n : Nat} {cl : List (Str × Addr)} {M M' : Addr → Prop} {s s' : Shared}

theorem InnI.kp (I : InnI G a f c1 c2 c3 n cl M s) (k : Kp G.T s s') : InnI G a f c1 c2 c3 n cl M s' :=
  { I with
    base := fun b o e => (I.base b o e).trans k.code (k.tk b)
    dom := fun b hb => let ⟨o, e⟩ := I.dom b hb; k.al e
    fo := let ⟨doc, pm, c', ctv, h1, h2⟩ := I.fo; ⟨doc, pm, c', ctv, k.nt _ _ (.cls rfl) h1, h2.gr fun o i e => k.code _ o i e⟩
    k1 := Cel.gr I.k1 (k.nt _)
    k2 := Cel.gr I.k2 (k.nt _)
    k3 := let ⟨t, h⟩ := I.k3; ⟨t, Cel.gr h (k.nt _)⟩ }
theorem InnI.kb {items : Array Value} (I : InnI G a f c1 c2 c3 n cl M s) (hl : s.heap.PlainList a items) (k : KB G.T (· = a) s s') (ha : ∃ o, s'.heap.get? a = some o) : InnI G a f c1 c2 c3 n cl M s' := by
  obtain ⟨m, e0⟩ := id hl
  have cel : ∀ {c v}, s.heap.IsCell c v → ¬ (c = a) := fun {c v} h q => by
    obtain ⟨o, e, hd⟩ := h
    rw [q, e0] at e; cases e; cases hd
  refine { I with
    base := fun b o e => (I.base b o e).trans k.code fun o' e' => k.tk b o' (fun q => by rw [q, I.nb] at e; cases e) e'
    dom := fun b hb => ?_
    fo := ?_
    k1 := Cel.gr I.k1 fun o n e => k.nt _ o (cel I.k1) n e
    k2 := Cel.gr I.k2 fun o n e => k.nt _ o (cel I.k2) n e
    k3 := let ⟨t, h⟩ := I.k3; ⟨t, Cel.gr h fun o n e => k.nt _ o (cel h) n e⟩ }
  · by_cases q : b = a
    · rw [q]; exact ha
    · obtain ⟨o, e⟩ := I.dom b hb; exact (k.tk b o q e).al
  · obtain ⟨doc, pm, c', ctv, h1, h2⟩ := I.fo
    exact ⟨doc, pm, c', ctv, k.nt _ _ (fun q => by rw [q, e0] at h1; have h2 := congrArg Obj.data (Option.some.inj h1); cases h2) (.cls rfl) h1, h2.gr fun o i e => k.code _ o i e⟩
theorem InnI.fo' (I : InnI G a f c1 c2 c3 n cl M s) : ∃ o fd, s.heap.get? f = some o ∧ o.data = .func fd := let ⟨_, _, _, _, h, _⟩ := I.fo; ⟨_, _, h, rfl⟩
theorem InnI.more (I : InnI G a f c1 c2 c3 n cl M s) (h : ∀ b, M b → M' b) (hd : ∀ b, M' b → ∃ o, s.heap.get? b = some o) : InnI G a f c1 c2 c3 n cl M' s :=
  { I with dom := hd, ma := h _ I.ma, mc := fun x c q => h _ (I.mc x c q) }

theorem ints_M {h : Heap} {M M' : Addr → Prop} {ds : List PyData} {vs : List Value} (hd : ∀ d, d ∈ ds → ∃ i, d = .int i) (r : RpL prog w h M ds vs) (h' : Heap) : RpL prog w h' M' ds vs := by
  refine RpL.iff r.length fun i d v q1 q2 => ?_
  obtain ⟨z, rfl⟩ := hd d (List.mem_of_getElem? q1)
  have := r.of_get q1 q2
  simp only [Rp] at this ⊢
  exact this

theorem i2d_rec {n : Nat} : ∀ (d : Nat) {A : Around} {M : Addr → Prop} {s : Shared} {items : Array Value} {ds : List PyData} {x L R : Nat} {t1 t2 t3 : Tok} {Q : Value → Shared → Prop} {E : Value → Shared → Prop}, Ok (d + 1) A → InnI G a f c1 c2 c3 n cl M s →
    s.heap.PlainList a items → (∀ d, d ∈ ds → ∃ i, d = .int i) → RpL prog w s.heap M ds items.toList → ds.length ≤ lid → L < R → R ≤ ds.length → R - L ≤ 2 ^ d → x < 2 ^ (n * (R - L)) → n * (R - L) ≤ 2 ^ 20 →
    (∀ s' items', KB G.T (· = a) s s' → s'.heap.PlainList a items' → RpL prog w s'.heap M (ds.take L ++ (digs n x (R - L) ++ ds.drop R)) items'.toList → Q .none s') → wpAny (model prog w) A (call (.ref f) [.int (x : Int) t1, .int (L : Int) t2, .int (R : Int) t3]) Q E s := by
  intro d
  induction d using Nat.strongRecOn with
  | _ d ih =>
    intro A M s items ds x L R t1 t2 t3 Q E ho I hl hi hr hlen h1 h2 h3 h4 h5 hQ
    obtain ⟨doc, pm, c', ctv, hf, hco⟩ := I.fo
    obtain ⟨tn, hk3⟩ := I.k3
    have hlid : lid = 1048576 := rfl
    refine clos_run (k := d) (sc := inScope (fnBody PP iI2d) 1) (ps := ["x", "L", "R"]) (ds := [.int (x : Int), .int (L : Int), .int (R : Int)]) (ρf := [("n", .own (.int (n : Int)))]) (M := M) (Z := fun b => ∃ y, cl.lookup y = some b) ho I.base I.dom hf rfl rfl rfl rfl rfl hco rfl rfl (by decide +kernel) I.hfree (fun x c h => ⟨x, h⟩) (fun b ⟨y, h⟩ => I.mc y b h) rfl
      (RpL.cons (by simp [Rp]) (RpL.cons (by simp [Rp]) (RpL.cons (by simp [Rp]) RpL.nil))) (fun y b hy => ?_) (by simp) ?_
    · cases List.mem_singleton.mp hy
      exact ⟨by decide +kernel, _, c3, _, rfl, I.l3, hk3, by simp [Rp]⟩
    intro env s1 E' hv hcel hok k1 hfr fm
    have fm : Fm G (inScope (fnBody PP iI2d) 1) env (· = env.locals) (fun b => ∃ y, cl.lookup y = some b) (fun b => M b ∨ b = env.locals) [("n", .own (.int (n : Int))), ("x", .own (.int (x : Int))), ("L", .own (.int (L : Int))), ("R", .own (.int (R : Int)))] s1 := fm
    have I1 := (I.kp k1).more (M' := fun b => M b ∨ b = env.locals) (fun b h => .inl h) fm.vr.dom
    have oW : ∀ b, b = a → ¬ (b = env.locals) := fun b q q2 => by
      obtain ⟨o, e⟩ := I.dom a I.ma
      rw [← q, q2, hfr] at e; cases e
    have oZ : ∀ b, b = a → ¬ (∃ y, cl.lookup y = some b) := fun b q ⟨y, h⟩ => I.cne y (q ▸ h)
    refine wpAny_execs_cons (exec_ite (b := decide (L + 1 = R)) hok hv fm.vr (TrTo.cast (by walk_at "my_x") ?_) fun s2 k2 => ?_)
    · have : ((L : Int) + 1 == (R : Int)) = decide (L + 1 = R) := by
        by_cases h : L + 1 = R
        · simp [← h]
        · simp [h]; lia
      exact this
    have I2 := I1.kp k2
    have f2 := fm.keeps k2
    have hl2 := PL.gr (PL.gr hl (k1.nt _)) (k2.nt _)
    have nameOf : ∀ {y : Str} {c : Addr} {v : Value} {sx : Shared} {p : Pos} {Q : Value → Shared → Prop} {E : Value → Shared → Prop}, (inScope (fnBody PP iI2d) 1).names.lookup y = some .free → cl.lookup y = some c → sx.heap.IsCell c (some v) → Q v sx → wpAny (model prog w) (A.deeper env) (eval (.Name y p) env) Q E sx := fun h1 h2 h3 q =>
      Acc.name hv (.inr ⟨hv.kindC _ (.inr h1), _, hcel ▸ h2, h3⟩) q
    by_cases hLR : L + 1 = R
    · rw [decide_eq_true hLR, if_pos rfl]
      refine wpAny_execs_cons (wpAny_Assign_Subscript ((EvTo.var (d := .int (x : Int)) (by walk_at "my_x")) _ env _ s2 _ _ hok hv f2.vr fun v s3 k3 r3 => nameOf (by decide +kernel) I.l1 (I2.kp k3).k1 ((EvTo.var (d := .int (L : Int)) (by walk_at "my_x")) _ env _ s3 _ _ hok hv (f2.keeps k3).vr fun kv s4 k4 r4 => ?_)) rfl)
      simp only [Rp] at r3 r4
      obtain ⟨tx, rfl⟩ := r3
      obtain ⟨tl, rfl⟩ := r4
      have hl4 := PL.gr (PL.gr hl2 (k3.nt _)) (k4.nt _)
      have hsz : items.size = ds.length := by have := hr.length; simpa using this
      refine wpAny_setItem_pl hl4 (by lia) (by lia) (by lia) fun h' hp hsb => ?_
      refine wpAny_execs_cons (wpAny_Return_none ?_)
      have kk : Kp G.T s s4 := ((k1.trans k2).trans k3).trans k4
      have ka : KB G.T (· = a) s4 { s4 with heap := h' } := .mk' ⟨h', s4.toks, rfl⟩ (fun b o hb e => (hsb.2 b hb).trans e) fun b o hb e => by
        obtain ⟨n', e0⟩ := hl4
        rw [hb, e0] at e; cases e; exact notCoS rfl
      refine hQ _ _ ((KB.of kk).trans ka) hp ?_
      have hRL : R - L = 1 := by lia
      have hx : x < 2 ^ n := by rw [hRL, Nat.mul_one] at h4; exact h4
      rw [hRL, digs_one hx, ← hLR]
      have e1 : ds.take L ++ ([PyData.int (x : Int)] ++ ds.drop (L + 1)) = ds.set L (.int (x : Int)) := by
        rw [List.set_eq_take_append_cons_drop, if_pos (by lia)]; rfl
      rw [e1, Int.toNat_natCast, Array.toList_setIfInBounds]
      refine ints_M (fun d hd => ?_) (RpL.set hr L (d := .int (x : Int)) (v := .int x tx) (by simp [Rp])) _
      rcases List.mem_or_eq_of_mem_set hd with q | q
      · exact hi d q
      · exact ⟨_, q⟩
    · rw [decide_eq_false hLR, if_neg (by decide)]
      refine wpAny_execs_nil ?_
      obtain ⟨h, hh⟩ : ∃ h, (L + R) / 2 = L + h := ⟨(L + R) / 2 - L, by lia⟩
      obtain ⟨m, hm⟩ : ∃ m, R = L + h + m := ⟨R - (L + R) / 2, by lia⟩
      have hh0 : 0 < h := by lia
      have hm0 : 0 < m := by lia
      have hd1 : 0 < d := by
        rcases Nat.eq_zero_or_pos d with q | q
        · subst q; simp at h3; lia
        · exact q
      obtain ⟨e, rfl⟩ : ∃ e, d = e + 1 := ⟨d - 1, by lia⟩
      have hpow : 2 ^ (e + 1) = 2 * 2 ^ e := by rw [Nat.pow_succ]; lia
      have hRL : R - L = h + m := by lia
      rw [hRL] at h4 h5 hQ
      have h5h : n * h ≤ 2 ^ 20 := Nat.le_trans (Nat.mul_le_mul_left n (by lia)) h5
      have h5m : n * m ≤ 2 ^ 20 := Nat.le_trans (Nat.mul_le_mul_left n (by lia)) h5
      have e2 : 2 ^ (n * (h + m)) = 2 ^ (n * h) * 2 ^ (n * m) := by rw [← Nat.pow_add, Nat.mul_add]
      have hup : x / 2 ^ (n * h) < 2 ^ (n * m) := Nat.div_lt_of_lt_mul (e2 ▸ h4)
      have hlow : x % 2 ^ (n * h) < 2 ^ (n * h) := Nat.mod_lt _ (Nat.pow_pos (by decide))
      have hub := intBits_le hup
      refine wpAny_execs_cons (Fm.assign hok hv f2 (ρ' := [("mid", .own (.int ((L + h : Nat) : Int))), ("n", .own (.int (n : Int))), ("x", .own (.int (x : Int))), ("L", .own (.int (L : Int))), ("R", .own (.int (R : Int)))]) (EvTo.cast (by walk_at "my_x") ?_) (by walk_at "my_x") (by walk_at "my_x") (fun s3 k3 f3 => ?_) rfl)
      · show PyData.int (((L : Int) + (R : Int)).fdiv (2 ^ 1)) = _
        rw [show (L : Int) + (R : Int) = ((L + R : Nat) : Int) by lia, fdiv_nat, ← hh]
      have hmul : IntMulOk (((L + h : Nat) : Int) - (L : Int)) (n : Int) := IntMulOk.of_left (by
        rw [show ((L + h : Nat) : Int) - (L : Int) = (h : Int) by lia]
        exact Nat.le_trans (intBits_le (m := 21) (by lia)) (by decide))
      refine wpAny_execs_cons (Fm.assign hok hv f3 (ρ' := [("shift", .own (.int ((n * h : Nat) : Int))), ("mid", .own (.int ((L + h : Nat) : Int))), ("n", .own (.int (n : Int))), ("x", .own (.int (x : Int))), ("L", .own (.int (L : Int))), ("R", .own (.int (R : Int)))]) (EvTo.cast (EvTo.mul (EvTo.sub (by walk_at "my_x") (by walk_at "my_x")) (by walk_at "my_x") hmul) ?_) (by walk_at "my_x") (by walk_at "my_x") (fun s4 k4 f4 => ?_) rfl)
      · show PyData.int ((((L + h : Nat) : Int) - (L : Int)) * (n : Int)) = _
        rw [show ((L + h : Nat) : Int) - (L : Int) = (h : Int) by lia, Int.natCast_mul, Int.mul_comm]
      refine wpAny_execs_cons (Fm.assign hok hv f4 (ρ' := [("upper", .own (.int ((x / 2 ^ (n * h) : Nat) : Int))), ("shift", .own (.int ((n * h : Nat) : Int))), ("mid", .own (.int ((L + h : Nat) : Int))), ("n", .own (.int (n : Int))), ("x", .own (.int (x : Int))), ("L", .own (.int (L : Int))), ("R", .own (.int (R : Int)))]) (EvTo.cast (by walk_at "my_x") ?_) (by walk_at "my_x") (by walk_at "my_x") (fun s5 k5 f5 => ?_) rfl)
      · show PyData.int ((x : Int).fdiv (2 ^ (n * h))) = _
        rw [fdiv_nat]
      refine wpAny_execs_cons (Fm.assign hok hv f5 (ρ' := [("lower", .own (.int ((x % 2 ^ (n * h) : Nat) : Int))), ("upper", .own (.int ((x / 2 ^ (n * h) : Nat) : Int))), ("shift", .own (.int ((n * h : Nat) : Int))), ("mid", .own (.int ((L + h : Nat) : Int))), ("n", .own (.int (n : Int))), ("x", .own (.int (x : Int))), ("L", .own (.int (L : Int))), ("R", .own (.int (R : Int)))]) (EvTo.cast (by walk_at "my_x") ?_) (by walk_at "my_x") (by walk_at "my_x") (fun s6 k6 f6 => ?_) rfl)
      · show PyData.int (Builtin.bitXor (x : Int) (((x / 2 ^ (n * h) : Nat) : Int) * 2 ^ (n * h))) = _
        rw [show ((x / 2 ^ (n * h) : Nat) : Int) * 2 ^ (n * h) = ((x / 2 ^ (n * h) * 2 ^ (n * h) : Nat) : Int) by push_cast; rfl, bitXor_low]
      have kp6 : Kp G.T s s6 := ((KB.of (k1.trans k2)).trans (((k3.trans k4).trans k5).trans k6)).kp fun b q => q ▸ hfr
      have I6 := (I.kp kp6).more (M' := fun b => M b ∨ b = env.locals) (fun b h => .inl h) f6.vr.dom
      have hl6 := PL.gr hl (kp6.nt _)
      obtain ⟨o6, fd6, hf6, hd6⟩ := I6.fo'
      have L1 : L + h - L = h := by lia
      have L2 : R - (L + h) = m := by lia
      refine wpAny_execs_cons (wpAny_Expr_any (Call_Name rfl (nameOf (by decide +kernel) I.l2 I6.k2 (Calls.callWith_function (o := o6) (fd := fd6) (EvAll.args (ds := [.int ((x % 2 ^ (n * h) : Nat) : Int), .int (L : Int), .int ((L + h : Nat) : Int)]) (by walk_at "my_x") hok hv f6.vr fun vs s7 k7 r7 => ⟨⟨k7.nt _ _ (.func hd6) hf6, hd6⟩, ?_⟩)))) (interactive_fn hv) rfl)
      obtain ⟨u, v, z, rfl, q1, q2, q3⟩ := r7.three
      simp only [Rp] at q1 q2 q3
      obtain ⟨t4, rfl⟩ := q1
      obtain ⟨t5, rfl⟩ := q2
      obtain ⟨t6, rfl⟩ := q3
      have I7 := I6.kp k7
      have hl7 := PL.gr hl6 (k7.nt _)
      refine ih e (by lia) hok I7 hl7 hi (ints_M hi hr _) hlen (by lia) (by lia) (by lia) (by rw [L1]; exact hlow) (by rw [L1]; exact h5h) fun s8 it8 k8 hl8 hr8 => ?_
      rw [L1] at hr8
      have al8 : ∃ o, s8.heap.get? a = some o := ⟨_, hl8.choose_spec⟩
      have f8 := (f6.keeps k7).kb k8 (fun b q => q ▸ .inl I.ma) oW oZ (fun b q => q ▸ I.nb) (fun b q => q ▸ al8)
      have I8 := I7.kb hl7 k8 al8
      obtain ⟨o8, fd8, hf8, hd8⟩ := I8.fo'
      have hi8 : ∀ y, y ∈ ds.take L ++ (digs n (x % 2 ^ (n * h)) h ++ ds.drop (L + h)) → ∃ i, y = PyData.int i := fun y hy => by
        rcases List.mem_append.mp hy with q | q
        · exact hi y (List.mem_of_mem_take q)
        · rcases List.mem_append.mp q with q | q
          · obtain ⟨z, _, rfl⟩ := List.mem_map.mp q; exact ⟨_, rfl⟩
          · exact hi y (List.mem_of_mem_drop q)
      have len8 : (ds.take L ++ (digs n (x % 2 ^ (n * h)) h ++ ds.drop (L + h))).length = ds.length := by
        simp only [List.length_append, List.length_take, List.length_drop, digs_length]; lia
      refine wpAny_execs_cons (wpAny_Expr_any (Call_Name rfl (nameOf (by decide +kernel) I.l2 I8.k2 (Calls.callWith_function (o := o8) (fd := fd8) (EvAll.args (ds := [.int ((x / 2 ^ (n * h) : Nat) : Int), .int ((L + h : Nat) : Int), .int (R : Int)]) (by walk_at "my_x") hok hv f8.vr fun vs s9 k9 r9 => ⟨⟨k9.nt _ _ (.func hd8) hf8, hd8⟩, ?_⟩)))) (interactive_fn hv) rfl)
      obtain ⟨u, v, z, rfl, q1, q2, q3⟩ := r9.three
      simp only [Rp] at q1 q2 q3
      obtain ⟨t7, rfl⟩ := q1
      obtain ⟨t8, rfl⟩ := q2
      obtain ⟨t9, rfl⟩ := q3
      have I9 := I8.kp k9
      have hl9 := PL.gr hl8 (k9.nt _)
      refine ih e (by lia) hok I9 hl9 hi8 (ints_M hi8 hr8 _) (by rw [len8]; exact hlen) (by lia) (by rw [len8]; lia) (by lia) (by rw [L2]; exact hup) (by rw [L2]; exact h5m) fun s10 it10 k10 hl10 hr10 => ?_
      refine wpAny_execs_nil ?_
      refine hQ s10 it10 (((KB.of (kp6.trans k7)).trans k8).trans ((KB.of k9).trans k10)) hl10 ?_
      rw [L2] at hr10
      have e3 : (ds.take L ++ (digs n (x % 2 ^ (n * h)) h ++ ds.drop (L + h))).take (L + h) = ds.take L ++ digs n (x % 2 ^ (n * h)) h := by
        rw [← List.append_assoc, List.take_left' (by simp only [List.length_append, List.length_take, digs_length]; lia)]
      have e4 : (ds.take L ++ (digs n (x % 2 ^ (n * h)) h ++ ds.drop (L + h))).drop R = ds.drop R := by
        rw [← List.append_assoc, hm, List.drop_append, List.drop_of_length_le (by simp only [List.length_append, List.length_take, digs_length]; lia), List.nil_append, List.drop_drop]
        congr 1; simp only [List.length_append, List.length_take, digs_length]; lia
      rw [e3, e4] at hr10
      rw [digs_append]
      simp only [List.append_assoc] at hr10 ⊢
      refine ints_M (fun y hy => ?_) hr10 _
      rcases List.mem_append.mp hy with q | q
      · exact hi y (List.mem_of_mem_take q)
      · rcases List.mem_append.mp q with q | q
        · obtain ⟨z, _, rfl⟩ := List.mem_map.mp q; exact ⟨_, rfl⟩
        · rcases List.mem_append.mp q with q | q
          · obtain ⟨z, _, rfl⟩ := List.mem_map.mp q; exact ⟨_, rfl⟩
          · exact hi y (List.mem_of_mem_drop q)
end
section
variable {prog : Program} {w : World} {G : Gl prog w} {k : Nat}
noncomputable def inPos (b : List Stmt) (i : Nat) : Pos := ((asDef b[i]?).map (·.2.2.2)).getD default
theorem clOf_lookup (env : Env) (names : List (Str × NameKind)) (x : Str) (h : (x, NameKind.free) ∈ names) : (clOf env names []).lookup x = some ((env.cells.lookup x).getD 0) :=
  lookup_of_mem (clOf_has env names x h) fun c' hc' => (clOf_mem env names x c' hc').2
theorem Acc.cell {sc : Scope} {env : Env} {h : Heap} {x : Str} {v : Value} (a : Acc env h x v) (hv : EnvOk sc env) (hx : sc.names.lookup x = some .cell) : ∃ c, env.cells.lookup x = some c ∧ h.IsCell c (some v) := by
  rcases a with ⟨h1, _⟩ | ⟨_, c, h2, h3⟩
  · rcases hv.kindC x (.inl hx) with q | q <;> rw [q] at h1 <;> cases h1
  · exact ⟨c, h2, h3⟩

/-- how many digits -/
noncomputable def i2n (n a : Nat) : Nat := (Builtin.Int.intBits (a : Int) + n - 1) / n

theorem i2d_body (hG : Glo G) {n x : Nat} (hn : 0 < n) (hb : Builtin.Int.intBits (x : Int) + n ≤ 2 ^ 19) {env : Env} {c' P : Addr} (T : TabDef G c' P (inPos (fnBody PP iI2d) 1) "_int2digits.<locals>.inner") (hcode : env.code = .ref c') (hq : env.qual = ("_int2digits" : Str) ++ (".<locals>." : Str)) :
    ExAt G 22 (fnScope PP iI2d) [("a", .own (.int (x : Int))), ("n", .own (.int (n : Int)))] env (fnBody PP iI2d) (fun o => o = .ret (.list (digs n x (i2n n x)))) := by
  intro A M0 L Wc Z s0 s Q E ho hv t hQ hR
  have hlid : lid = 1048576 := rfl
  have hk0 : i2n n x ≤ Builtin.Int.intBits (x : Int) + n := Nat.le_trans (Nat.div_le_self _ _) (by lia)
  have hk : i2n n x ≤ lid := by lia
  refine wpAny_execs_cons (Step.assignIt (b := .mu (List.replicate (i2n n x) (.int 0))) (ρ' := [("a_digits", .mu (List.replicate (i2n n x) (.int 0))), ("a", .own (.int (x : Int))), ("n", .own (.int (n : Int)))])
    (EvIt.rep (d := .int 0) (n := ((i2n n x : Nat) : Int)) (by walk_at "my_x") (EvTo.cast (EvTo.fdiv (EvTo.sub (EvTo.add (by walk_at "my_x") (by walk_at "my_x")) (by walk_at "my_x")) (by walk_at "my_x") (by lia) ?_) ?_) (by simpa using hk) (by lia)) (by walk_at "my_x") (by walk_at "my_x") (fun _ => rfl) A env M0 L Wc Z s0 s _ _ ho hv t fun Z1 s1 t1 ch1 => ?_)
  · rw [Int.natAbs_natCast]
    exact Nat.lt_of_lt_of_le ((Nat.log2_lt (by lia)).mpr (show n < 2 ^ 20 by lia)) (by decide)
  · show PyData.int (((Builtin.Int.intBits (x : Int) : Nat) : Int) + (n : Int) - 1 |>.fdiv (n : Int)) = _
    rw [show ((Builtin.Int.intBits (x : Int) : Nat) : Int) + (n : Int) - 1 = ((Builtin.Int.intBits (x : Int) + n - 1 : Nat) : Int) by lia, Int.fdiv_eq_ediv_of_nonneg _ (by lia)]
    rfl
  have hqn : qualnameIn env "inner" "inner" = "_int2digits.<locals>.inner" := by
    unfold qualnameIn
    have : (env.kindOf ("inner" : Str) == some .globalExplicit) = false := by
      rcases hv.kindC "inner" (.inl (by decide +kernel)) with q | q <;> rw [q] <;> rfl
    rw [this, hq]; rfl
  have hcells : ∀ y, y ∈ (inScope (fnBody PP iI2d) 1).names → y.2 = .free → ∃ c, env.cells.lookup y.1 = some c := by
    have : ∀ y, y ∈ (inScope (fnBody PP iI2d) 1).names → y.2 = .free → (fnScope PP iI2d).names.lookup y.1 = some .cell := by decide +kernel
    exact fun y h1 h2 => hv.cells _ (.inl (this y h1 h2))
  refine wpAny_execs_cons (PySem.W.nestDef_K rfl rfl rfl ?_)
  rw [hqn]
  refine def_nested T t1.fm.vr.base hv.glob hcode (closureFor_eq hcells) fun f c2 ctv doc s2 k2 hfn hf hco => ?_
  have t2 := t1.keeps k2
  refine t2.storeB (b := .un) (ρ' := [("inner", .un), ("a_digits", .mu (List.replicate (i2n n x) (.int 0))), ("a", .own (.int (x : Int))), ("n", .own (.int (n : Int)))]) hv (by walk_at "my_x") (by walk_at "my_x") (fun _ _ _ => trivial) (fun h => by cases h) fun s3 k3 t3 hacc _ => ?_
  have hmu : (("a_digits" : Str), B.mu (List.replicate (i2n n x) (.int 0))) ∈ [(("inner" : Str), B.un), ("a_digits", .mu (List.replicate (i2n n x) (.int 0))), ("a", .own (.int (x : Int))), ("n", .own (.int (n : Int)))] := by walk_at "my_x"
  obtain ⟨a, items, acc, hM, hl, hr, hlen⟩ := t3.fm.vr.ent _ _ hmu
  obtain ⟨a', acc', hz⟩ := t3.fm.ym _ _ hmu trivial
  have ea := acc.det acc'
  cases ea
  obtain ⟨c1, l1, kc1⟩ := acc.cell hv (by decide +kernel)
  obtain ⟨c2', l2, kc2⟩ := hacc.cell hv (by decide +kernel)
  obtain ⟨vn, accn, rn⟩ := t3.fm.vr.ent (("n" : Str)) (.own (.int (n : Int))) (by walk_at "my_x")
  simp only [Rp] at rn
  obtain ⟨tn, rfl⟩ := rn
  obtain ⟨c3, l3, kc3⟩ := accn.cell hv (by decide +kernel)
  have hlook : ∀ y c, (clOf env (inScope (fnBody PP iI2d) 1).names []).lookup y = some c → env.cells.lookup y = some c := fun y c h => by
    obtain ⟨h1, h2⟩ := clOf_mem env _ y c (mem_of_lookup h)
    obtain ⟨c', h3⟩ := hcells _ h1 rfl
    rw [h3] at h2 ⊢
    rw [h2]; rfl
  have I : InnI G a f c1 c2' c3 n (clOf env (inScope (fnBody PP iI2d) 1).names []) (MM M0 Wc Z1 L) s3 :=
    { base := t3.fm.vr.base
      dom := t3.fm.vr.dom
      fo := ⟨doc, _, c2, ctv, k3.nt _ _ (fun q => by obtain ⟨o, e⟩ := t1.dom (.inl q); rw [hfn] at e; cases e) (.cls rfl) hf, hco.gr fun o i e => k3.code _ o i e⟩
      k1 := kc1
      k2 := kc2
      k3 := ⟨tn, kc3⟩
      ma := hM
      mc := fun y c h => t3.fm.vr.cel y c (hlook y c h)
      nb := by
        cases e : G.hB.get? a with
        | none => rfl
        | some o => obtain ⟨_, z⟩ := (t3.b0 a o e).al; rw [t3.fr a (.inr (.inl hz))] at z; cases z
      l1 := by rw [clOf_lookup _ _ _ (by decide +kernel), l1]; rfl
      l2 := by rw [clOf_lookup _ _ _ (by decide +kernel), l2]; rfl
      l3 := by rw [clOf_lookup _ _ _ (by decide +kernel), l3]; rfl
      hfree := fun y h => ⟨_, clOf_lookup env _ y (mem_of_lookup h)⟩
      cne := fun y h => t3.zw a hz (t3.cw y a (hlook y a h)) }
  refine wpAny_execs_cons (exec_ite (b := TruD (.int (x : Int))) ho hv t3.fm.vr (TrTo.of (d := .int (x : Int)) (by walk_at "my_x") trivial (fun _ _ => rfl)) fun s4 k4 => ?_)
  by_cases hx : x = 0
  · subst hx
    refine wpAny_execs_nil ?_
    have e0 : i2n n 0 = 0 := Nat.div_eq_of_lt (by have : Builtin.Int.intBits ((0 : Nat) : Int) = 0 := rfl; lia)
    rw [e0] at hmu t3 hQ hR
    exact ExTo.retMu (k := 22) (P := fun o => o = .ret (.list (digs n 0 0))) hmu rfl A env M0 L Wc Z1 s0 s4 Q E ho hv (t3.keeps k4) (fun _ _ _ hp => by cases hp) hR
  · have hT : TruD (.int (x : Int)) = true := by
      show ((x : Int) != 0) = true
      simp [hx]
    rw [hT, if_pos rfl]
    obtain ⟨o4, fd4, hf4, hd4⟩ := (I.kp k4).fo'
    have hxb : x < 2 ^ Builtin.Int.intBits (x : Int) := by
      unfold Builtin.Int.intBits
      have : ((x : Int) == 0) = false := by simp [hx]
      rw [this, if_neg (by decide), Int.natAbs_natCast]
      exact Nat.lt_log2_self
    have hle : Builtin.Int.intBits (x : Int) ≤ n * i2n n x := by
      unfold i2n
      have h1 := Nat.div_add_mod (Builtin.Int.intBits (x : Int) + n - 1) n
      have h2 := Nat.mod_lt (Builtin.Int.intBits (x : Int) + n - 1) hn
      lia
    have hge : n * i2n n x ≤ Builtin.Int.intBits (x : Int) + n - 1 := Nat.mul_div_le _ _
    have hpos : 0 < i2n n x := by
      rcases Nat.eq_zero_or_pos (i2n n x) with q | q
      · rw [q] at hle
        have : Builtin.Int.intBits (x : Int) = 0 := by simpa using hle
        rw [this] at hxb; simp at hxb; exact absurd hxb hx
      · exact q
    refine wpAny_execs_cons (wpAny_Expr_any (Call_Name rfl ((hacc.keeps k4.nt).name hv (Calls.callWith_function (o := o4) (fd := fd4) (EvAll.args (ds := [.int (x : Int), .int 0, .int ((List.replicate (i2n n x) (PyData.int 0)).length : Nat)]) (by walk_at "my_x") ho hv (t3.fm.vr.keeps k4) fun vs s5 k5 r5 => ⟨⟨k5.nt _ _ (.func hd4) hf4, hd4⟩, ?_⟩)))) (interactive_fn hv) rfl)
    obtain ⟨u, v, z, rfl, q1, q2, q3⟩ := r5.three
    simp only [Rp] at q1 q2 q3
    obtain ⟨t4, rfl⟩ := q1
    obtain ⟨t5, rfl⟩ := q2
    obtain ⟨t6, rfl⟩ := q3
    have hrl : (List.replicate (i2n n x) (PyData.int 0)).length = i2n n x := List.length_replicate
    have hint : ∀ y, y ∈ List.replicate (i2n n x) (PyData.int 0) → ∃ i, y = PyData.int i := fun y hy => ⟨0, List.eq_of_mem_replicate hy⟩
    have k45 := k4.trans k5
    refine i2d_rec 20 (L := 0) (R := (List.replicate (i2n n x) (PyData.int 0)).length) (ho.mono (by decide)) (I.kp k45) (PL.gr hl (k45.nt _)) hint (ints_M hint hr _) hlen (by rw [hrl]; exact hpos) (Nat.le_refl _) (by rw [hrl]; lia) (by rw [hrl, Nat.sub_zero]; exact Nat.lt_of_lt_of_le hxb (Nat.pow_le_pow_right (by decide) hle)) (by rw [hrl, Nat.sub_zero]; lia) fun s6 it6 k6 hl6 hr6 => ?_
    refine wpAny_execs_nil ?_
    rw [List.take_zero, List.nil_append, List.drop_length, List.append_nil, hrl, Nat.sub_zero] at hr6
    obtain ⟨t7, _⟩ := (t3.keeps k45).mut (x := "a_digits") (b := .mu (digs n x (i2n n x))) (ρ' := [("inner", .un), ("a_digits", .mu (digs n x (i2n n x))), ("a", .own (.int (x : Int))), ("n", .own (.int (n : Int)))]) ⟨_, hmu, trivial⟩ (acc.keeps k45.nt) k6 (by walk_at "my_x") trivial ⟨_, hl6.choose_spec⟩ (fun h => ⟨a, it6, h, hM, hl6, hr6, by rw [digs_length]; exact hk⟩)
    exact ExTo.retMu (k := 22) (P := fun o => o = .ret (.list (digs n x (i2n n x)))) (by walk_at "my_x") rfl A env M0 L Wc Z1 s0 s6 Q E ho hv t7 (fun _ _ _ hp => by cases hp) hR
end
section
variable {prog : Program} {w : World} {G : Gl prog w} {k : Nat}
theorem i2d_fn (hG : Glo G) (hD : DefAt G "_int2digits" (fnPars PP iI2d) (fnBody PP iI2d) (fnScope PP iI2d)) (hT : ∀ c', CodeOf G "_int2digits" (fnPars PP iI2d) (fnBody PP iI2d) (fnScope PP iI2d) c' → ∃ P, TabDef G c' P (inPos (fnBody PP iI2d) 1) "_int2digits.<locals>.inner") :
    FnOk G "_int2digits" 23 (fun ds d => ∃ x n : Nat, ds = [.int (x : Int), .int (n : Int)] ∧ 0 < n ∧ Builtin.Int.intBits (x : Int) + n ≤ 2 ^ 19 ∧ d = .list (digs n x (i2n n x))) := by
  refine FnOk.of1 (k := 22) (ps := ["a", "n"]) hD (by decide +kernel) (fun pm c doc vs hl => ?_) fun ds d h => ?_
  · obtain ⟨a, b, rfl⟩ := two_vs hl
    rfl
  · obtain ⟨x, n, rfl, hn, hb, rfl⟩ := h
    refine ⟨rfl, fun env c' hc hcode hq => ?_⟩
    obtain ⟨P, T⟩ := hT c' hc
    intro A M0 L Wc Z s0 s Q E ho hv t hQ hR
    exact i2d_body hG hn hb T hcode hq A M0 L Wc Z s0 s Q E ho hv t (fun ρ' Z' s' hp => by cases hp) (fun d v s' hp hk hr => hR d v s' (.inl hp) hk hr)
end
section
variable {prog : Program} {w : World} {G : Gl prog w} {k : Nat}
theorem undig_lt (n : Nat) : ∀ l : List Nat, (∀ z, z ∈ l → z < 2 ^ n) → undig n l < 2 ^ (n * l.length)
  | [], _ => by simp [undig]
  | z :: r, h => by
    have h1 := h z List.mem_cons_self
    have h2 := undig_lt n r fun y hy => h y (List.mem_cons_of_mem _ hy)
    simp only [undig, List.length_cons]
    have e1 : 2 ^ (n * (r.length + 1)) = 2 ^ n * 2 ^ (n * r.length) := by rw [← Nat.pow_add]; congr 1; rw [Nat.mul_add]; lia
    rw [e1]
    have h3 : 2 ^ n * (undig n r + 1) ≤ 2 ^ n * 2 ^ (n * r.length) := Nat.mul_le_mul_left _ h2
    rw [Nat.mul_add] at h3
    lia

theorem exec_ret {A : Around} {env : Env} {s : Shared} {Q : Flow → Shared → Prop} {E : Value → Shared → Prop} {e : Expr} {pos : Pos} (h : wpAny (model prog w) A (eval e env) (fun v s' => Q (.ret v) s') E s) : wpAny (model prog w) A (exec (.Return (some e) pos) env) Q E s := by
  rw [exec_Return_some]
  exact wpAny_bind (wpAny_standAt (wpAny_bind (wpAny_mono h (fun v s' h' => wpAny_pure h') fun _ _ z => z)))

/-- what the inner def of _digits2int needs to stand -/
structure InnD (G : Gl prog w) (f c1 c2 c3 : Addr) (n : Nat) (zs : List Nat) (cl : List (Str × Addr)) (M : Addr → Prop) (s : Shared) : Prop where
  base : ∀ b o, G.hB.get? b = some o → Gr G.T s.heap b o
  dom : ∀ b, M b → ∃ o, s.heap.get? b = some o
  fo : ∃ doc pm c' ctv, s.heap.get? f = some (PySem.W.fnMade "inner" "_digits2int.<locals>.inner" (inPars (fnBody PP iD2i) 0) (inBody (fnBody PP iD2i) 0) (inScope (fnBody PP iD2i) 0) cl doc pm c' ctv) ∧ CodeO s.heap c' "_digits2int.<locals>.inner"
  k1 : ∃ v, s.heap.IsCell c1 (some v) ∧ Rp prog w s.heap M (.list (zs.map fun z : Nat => .int (z : Int))) v
  k2 : s.heap.IsCell c2 (some (.ref f))
  k3 : ∃ t, s.heap.IsCell c3 (some (.int n t))
  mc : ∀ x c, cl.lookup x = some c → M c
  l1 : cl.lookup ("digits" : Str) = some c1
  l2 : cl.lookup ("inner" : Str) = some c2
  l3 : cl.lookup ("n" : Str) = some c3
  hfree : ∀ x, (inScope (fnBody PP iD2i) 0).names.lookup x = some .free → ∃ c, cl.lookup x = some c
variable {f c1 c2 c3 : Addr} {n : Nat} {zs : List Nat} {cl : List (Str × Addr)} {M M' : Addr → Prop} {s s' : Shared}
theorem InnD.kp (I : InnD G f c1 c2 c3 n zs cl M s) (k : Kp G.T s s') : InnD G f c1 c2 c3 n zs cl M s' :=
  { I with
    base := fun b o e => (I.base b o e).trans k.code (k.tk b)
    dom := fun b hb => let ⟨o, e⟩ := I.dom b hb; k.al e
    fo := let ⟨doc, pm, c', ctv, h1, h2⟩ := I.fo; ⟨doc, pm, c', ctv, k.nt _ _ (.cls rfl) h1, h2.gr fun o i e => k.code _ o i e⟩
    k1 := let ⟨v, h, r⟩ := I.k1; ⟨v, Cel.gr h (k.nt _), Rp.agr k.agr _ _ r⟩
    k2 := Cel.gr I.k2 (k.nt _)
    k3 := let ⟨t, h⟩ := I.k3; ⟨t, Cel.gr h (k.nt _)⟩ }
theorem InnD.fo' (I : InnD G f c1 c2 c3 n zs cl M s) : ∃ o fd, s.heap.get? f = some o ∧ o.data = .func fd := let ⟨_, _, _, _, h, _⟩ := I.fo; ⟨_, _, h, rfl⟩

theorem d2i_rec (hz : ∀ z, z ∈ zs → z < 2 ^ n) (hzl : zs.length ≤ lid) : ∀ (d : Nat) {A : Around} {M : Addr → Prop} {s : Shared} {L R : Nat} {t2 t3 : Tok} {Q : Value → Shared → Prop} {E : Value → Shared → Prop}, Ok (d + 1) A → InnD G f c1 c2 c3 n zs cl M s →
    L < R → R ≤ zs.length → R - L ≤ 2 ^ d → n * (R - L) ≤ 2 ^ 20 →
    (∀ s' t, Kp G.T s s' → Q (.int ((undig n ((zs.drop L).take (R - L)) : Nat) : Int) t) s') → wpAny (model prog w) A (call (.ref f) [.int (L : Int) t2, .int (R : Int) t3]) Q E s := by
  intro d
  induction d using Nat.strongRecOn with
  | _ d ih =>
    intro A M s L R t2 t3 Q E ho I h1 h2 h3 h5 hQ
    obtain ⟨doc, pm, c', ctv, hf, hco⟩ := I.fo
    obtain ⟨tn, hk3⟩ := I.k3
    obtain ⟨vd, hk1, hrd⟩ := I.k1
    have hlid : lid = 1048576 := rfl
    refine clos_run (k := d) (sc := inScope (fnBody PP iD2i) 0) (ps := ["L", "R"]) (ds := [.int (L : Int), .int (R : Int)]) (ρf := [("n", .own (.int (n : Int))), ("digits", .own (.list (zs.map fun z : Nat => .int (z : Int))))]) (M := M) (Z := fun b => ∃ y, cl.lookup y = some b) ho I.base I.dom hf rfl rfl rfl rfl rfl hco rfl rfl (by decide +kernel) I.hfree (fun x c h => ⟨x, h⟩) (fun b ⟨y, h⟩ => I.mc y b h) rfl
      (RpL.cons (by simp [Rp]) (RpL.cons (by simp [Rp]) RpL.nil)) (fun y b hy => ?_) (by simp; decide) ?_
    · rcases List.mem_cons.mp hy with q | q
      · cases q; exact ⟨by decide +kernel, _, c3, _, rfl, I.l3, hk3, by simp [Rp]⟩
      · cases List.mem_singleton.mp q; exact ⟨by decide +kernel, _, c1, _, rfl, I.l1, hk1, hrd⟩
    intro env s1 E' hv hcel hok k1 hfr fm
    have fm : Fm G (inScope (fnBody PP iD2i) 0) env (· = env.locals) (fun b => ∃ y, cl.lookup y = some b) (fun b => M b ∨ b = env.locals) [("n", .own (.int (n : Int))), ("digits", .own (.list (zs.map fun z : Nat => .int (z : Int)))), ("L", .own (.int (L : Int))), ("R", .own (.int (R : Int)))] s1 := fm
    refine wpAny_execs_cons (exec_ite (b := decide (L + 1 = R)) hok hv fm.vr (TrTo.cast (by walk_at "my_x") ?_) fun s2 k2 => ?_)
    · have : ((L : Int) + 1 == (R : Int)) = decide (L + 1 = R) := by
        by_cases h : L + 1 = R
        · simp [← h]
        · simp [h]; lia
      exact this
    have f2 := fm.keeps k2
    by_cases hLR : L + 1 = R
    · rw [decide_eq_true hLR, if_pos rfl]
      have hlt : L < zs.length := by lia
      refine wpAny_execs_cons (exec_ret ((EvTo.item (d := .int ((zs[L] : Nat) : Int)) (n := (L : Int)) (EvL.of (EvTo.var (d := .list (zs.map fun z : Nat => .int (z : Int))) (by walk_at "my_x"))) (by walk_at "my_x") (by lia) (by simp [hlt]) (fun _ _ => rfl)) _ env _ s2 _ _ hok hv f2.vr fun v s3 k3 r3 => ?_))
      simp only [Rp] at r3
      obtain ⟨tv, rfl⟩ := r3
      have hRL : R - L = 1 := by lia
      have e1 : undig n ((zs.drop L).take (R - L)) = zs[L] := by
        rw [hRL, List.drop_eq_getElem_cons hlt, List.take_succ_cons, List.take_zero]; simp [undig]
      have := hQ s3 tv ((k1.trans k2).trans k3)
      rw [e1] at this
      exact this
    · rw [decide_eq_false hLR, if_neg (by decide)]
      refine wpAny_execs_nil ?_
      have nameOf : ∀ {y : Str} {c : Addr} {v : Value} {sx : Shared} {p : Pos} {Q : Value → Shared → Prop} {E : Value → Shared → Prop}, (inScope (fnBody PP iD2i) 0).names.lookup y = some .free → cl.lookup y = some c → sx.heap.IsCell c (some v) → Q v sx → wpAny (model prog w) (A.deeper env) (eval (.Name y p) env) Q E sx := fun h1 h2 h3 q =>
        Acc.name hv (.inr ⟨hv.kindC _ (.inr h1), _, hcel ▸ h2, h3⟩) q
      obtain ⟨h, hh⟩ : ∃ h, (L + R) / 2 = L + h := ⟨(L + R) / 2 - L, by lia⟩
      obtain ⟨m, hm⟩ : ∃ m, R = L + h + m := ⟨R - (L + R) / 2, by lia⟩
      have hh0 : 0 < h := by lia
      have hm0 : 0 < m := by lia
      have hd1 : 0 < d := by
        rcases Nat.eq_zero_or_pos d with q | q
        · subst q; simp at h3; lia
        · exact q
      obtain ⟨e, rfl⟩ : ∃ e, d = e + 1 := ⟨d - 1, by lia⟩
      have hpow : 2 ^ (e + 1) = 2 * 2 ^ e := by rw [Nat.pow_succ]; lia
      have hRL : R - L = h + m := by lia
      rw [hRL] at h5 hQ
      have h5h : n * h ≤ 2 ^ 20 := Nat.le_trans (Nat.mul_le_mul_left n (by lia)) h5
      have h5m : n * m ≤ 2 ^ 20 := Nat.le_trans (Nat.mul_le_mul_left n (by lia)) h5
      have hmul : IntMulOk (((L + h : Nat) : Int) - (L : Int)) (n : Int) := IntMulOk.of_left (by
        rw [show ((L + h : Nat) : Int) - (L : Int) = (h : Int) by lia]
        exact Nat.le_trans (intBits_le (m := 21) (by lia)) (by decide))
      refine wpAny_execs_cons (Fm.assign hok hv f2 (ρ' := [("mid", .own (.int ((L + h : Nat) : Int))), ("n", .own (.int (n : Int))), ("digits", .own (.list (zs.map fun z : Nat => .int (z : Int)))), ("L", .own (.int (L : Int))), ("R", .own (.int (R : Int)))]) (EvTo.cast (by walk_at "my_x") ?_) (by walk_at "my_x") (by walk_at "my_x") (fun s3 k3 f3 => ?_) rfl)
      · show PyData.int (((L : Int) + (R : Int)).fdiv (2 ^ 1)) = _
        rw [show (L : Int) + (R : Int) = ((L + R : Nat) : Int) by lia, fdiv_nat, ← hh]
      refine wpAny_execs_cons (Fm.assign hok hv f3 (ρ' := [("shift", .own (.int ((n * h : Nat) : Int))), ("mid", .own (.int ((L + h : Nat) : Int))), ("n", .own (.int (n : Int))), ("digits", .own (.list (zs.map fun z : Nat => .int (z : Int)))), ("L", .own (.int (L : Int))), ("R", .own (.int (R : Int)))]) (EvTo.cast (EvTo.mul (EvTo.sub (by walk_at "my_x") (by walk_at "my_x")) (by walk_at "my_x") hmul) ?_) (by walk_at "my_x") (by walk_at "my_x") (fun s4 k4 f4 => ?_) rfl)
      · show PyData.int ((((L + h : Nat) : Int) - (L : Int)) * (n : Int)) = _
        rw [show ((L + h : Nat) : Int) - (L : Int) = (h : Int) by lia, Int.natCast_mul, Int.mul_comm]
      have kp4 : Kp G.T s s4 := ((KB.of (k1.trans k2)).trans (k3.trans k4)).kp fun b q => q ▸ hfr
      have I4 := I.kp kp4
      have L1 : L + h - L = h := by lia
      have L2 : R - (L + h) = m := by lia
      obtain ⟨o4, fd4, hf4, hd4⟩ := I4.fo'
      refine wpAny_execs_cons (exec_ret (wpAny_BinOp (wpAny_BinOp (Call_Name rfl (nameOf (by decide +kernel) I.l2 I4.k2 (Calls.callWith_function (o := o4) (fd := fd4) (EvAll.args (ds := [.int ((L + h : Nat) : Int), .int (R : Int)]) (by walk_at "my_x") hok hv f4.vr fun vs s5 k5 r5 => ⟨⟨k5.nt _ _ (.func hd4) hf4, hd4⟩, ?_⟩)))))))
      obtain ⟨u, v, rfl, q1, q2⟩ := r5.two
      simp only [Rp] at q1 q2
      obtain ⟨t4, rfl⟩ := q1
      obtain ⟨t5, rfl⟩ := q2
      refine ih e (by lia) hok (I4.kp k5) (by lia) h2 (by lia) (by rw [L2]; exact h5m) fun s6 t6 k6 => ?_
      rw [L2]
      have f6 := (f4.keeps k5).keeps k6
      refine (EvTo.var (d := .int ((n * h : Nat) : Int)) (by walk_at "my_x")) _ env _ s6 _ _ hok hv f6.vr fun v s7 k7 r7 => ?_
      simp only [Rp] at r7
      obtain ⟨t7, rfl⟩ := r7
      have hup : undig n ((zs.drop (L + h)).take m) < 2 ^ (n * m) := by
        have q := undig_lt n ((zs.drop (L + h)).take m) fun z hz' => hz z (List.mem_of_mem_drop (List.mem_of_mem_take hz'))
        rw [List.length_take, List.length_drop, Nat.min_eq_left (by lia)] at q
        exact q
      have hub := intBits_le hup
      refine lshift_int (by lia) (by lia) ?_
      have k8 : Kp G.T s7 { s7 with toks := s7.toks + 1 } := Kp.tok _
      have f8 := (f6.keeps k7).keeps k8
      have kp8 : Kp G.T s { s7 with toks := s7.toks + 1 } := (((kp4.trans k5).trans k6).trans k7).trans k8
      have I8 := I.kp kp8
      obtain ⟨o8, fd8, hf8, hd8⟩ := I8.fo'
      refine Call_Name rfl (nameOf (by decide +kernel) I.l2 I8.k2 (Calls.callWith_function (o := o8) (fd := fd8) (EvAll.args (ds := [.int (L : Int), .int ((L + h : Nat) : Int)]) (by walk_at "my_x") hok hv f8.vr fun vs s9 k9 r9 => ⟨⟨k9.nt _ _ (.func hd8) hf8, hd8⟩, ?_⟩)))
      obtain ⟨u, v, rfl, q1, q2⟩ := r9.two
      simp only [Rp] at q1 q2
      obtain ⟨t8, rfl⟩ := q1
      obtain ⟨t9, rfl⟩ := q2
      refine ih e (by lia) hok (I8.kp k9) (by lia) (by lia) (by lia) (by rw [L1]; exact h5h) fun s10 t10 k10 => ?_
      rw [L1]
      refine add_int ?_
      have e1 : (zs.drop L).take (h + m) = (zs.drop L).take h ++ (zs.drop (L + h)).take m := by
        rw [List.take_add, List.drop_drop]
      have e2 : ((zs.drop L).take h).length = h := by rw [List.length_take, List.length_drop]; lia
      have e3 : ((undig n ((zs.drop (L + h)).take m) : Nat) : Int) * 2 ^ (((n * h : Nat) : Int)).toNat + ((undig n ((zs.drop L).take h) : Nat) : Int) = ((undig n ((zs.drop L).take (h + m)) : Nat) : Int) := by
        rw [e1, undig_append, e2, Int.toNat_natCast, Nat.mul_comm (2 ^ (n * h))]
        push_cast
        lia
      have := hQ { s10 with toks := s10.toks + 1 } s10.toks (((kp8.trans k9).trans k10).trans (Kp.tok _))
      rw [← e3] at this
      exact this
end
section
variable {prog : Program} {w : World} {G : Gl prog w} {k : Nat}
theorem d2i_body (hG : Glo G) {n : Nat} {zs : List Nat} (hz : ∀ z, z ∈ zs → z < 2 ^ n) (hzl : zs.length ≤ lid) (hb : n * zs.length ≤ 2 ^ 20) {env : Env} {c' P : Addr} (T : TabDef G c' P (inPos (fnBody PP iD2i) 0) "_digits2int.<locals>.inner") (hcode : env.code = .ref c') (hq : env.qual = ("_digits2int" : Str) ++ (".<locals>." : Str)) :
    ExAt G 22 (fnScope PP iD2i) [("digits", .own (.list (zs.map fun z : Nat => .int (z : Int)))), ("n", .own (.int (n : Int)))] env (fnBody PP iD2i) (fun o => o = .ret (.int ((undig n zs : Nat) : Int))) := by
  intro A M0 L Wc Z s0 s Q E ho hv t hQ hR
  have hlid : lid = 1048576 := rfl
  have hqn : qualnameIn env "inner" "inner" = "_digits2int.<locals>.inner" := by
    unfold qualnameIn
    have : (env.kindOf ("inner" : Str) == some .globalExplicit) = false := by
      rcases hv.kindC "inner" (.inl (by decide +kernel)) with q | q <;> rw [q] <;> rfl
    rw [this, hq]; rfl
  have hcells : ∀ y, y ∈ (inScope (fnBody PP iD2i) 0).names → y.2 = .free → ∃ c, env.cells.lookup y.1 = some c := by
    have : ∀ y, y ∈ (inScope (fnBody PP iD2i) 0).names → y.2 = .free → (fnScope PP iD2i).names.lookup y.1 = some .cell := by decide +kernel
    exact fun y h1 h2 => hv.cells _ (.inl (this y h1 h2))
  refine wpAny_execs_cons (PySem.W.nestDef_K rfl rfl rfl ?_)
  rw [hqn]
  refine def_nested T t.fm.vr.base hv.glob hcode (closureFor_eq hcells) fun f c2 ctv doc s2 k2 hfn hf hco => ?_
  have t2 := t.keeps k2
  refine t2.storeB (b := .un) (ρ' := [("inner", .un), ("digits", .own (.list (zs.map fun z : Nat => .int (z : Int)))), ("n", .own (.int (n : Int)))]) hv (by walk_at "my_x") (by walk_at "my_x") (fun _ _ _ => trivial) (fun h => by cases h) fun s3 k3 t3 hacc _ => ?_
  obtain ⟨vd, accd, rd⟩ := t3.fm.vr.ent (("digits" : Str)) (.own (.list (zs.map fun z : Nat => .int (z : Int)))) (by walk_at "my_x")
  obtain ⟨c1, l1, kc1⟩ := accd.cell hv (by decide +kernel)
  obtain ⟨c2', l2, kc2⟩ := hacc.cell hv (by decide +kernel)
  obtain ⟨vn, accn, rn⟩ := t3.fm.vr.ent (("n" : Str)) (.own (.int (n : Int))) (by walk_at "my_x")
  simp only [Rp] at rn
  obtain ⟨tn, rfl⟩ := rn
  obtain ⟨c3, l3, kc3⟩ := accn.cell hv (by decide +kernel)
  have hlook : ∀ y c, (clOf env (inScope (fnBody PP iD2i) 0).names []).lookup y = some c → env.cells.lookup y = some c := fun y c h => by
    obtain ⟨h1, h2⟩ := clOf_mem env _ y c (mem_of_lookup h)
    obtain ⟨c', h3⟩ := hcells _ h1 rfl
    rw [h3] at h2 ⊢
    rw [h2]; rfl
  have I : InnD G f c1 c2' c3 n zs (clOf env (inScope (fnBody PP iD2i) 0).names []) (MM M0 Wc Z L) s3 :=
    { base := t3.fm.vr.base
      dom := t3.fm.vr.dom
      fo := ⟨doc, _, c2, ctv, k3.nt _ _ (fun q => by obtain ⟨o, e⟩ := t.dom (.inl q); rw [hfn] at e; cases e) (.cls rfl) hf, hco.gr fun o i e => k3.code _ o i e⟩
      k1 := ⟨vd, kc1, rd⟩
      k2 := kc2
      k3 := ⟨tn, kc3⟩
      mc := fun y c h => t3.fm.vr.cel y c (hlook y c h)
      l1 := by rw [clOf_lookup _ _ _ (by decide +kernel), l1]; rfl
      l2 := by rw [clOf_lookup _ _ _ (by decide +kernel), l2]; rfl
      l3 := by rw [clOf_lookup _ _ _ (by decide +kernel), l3]; rfl
      hfree := fun y h => ⟨_, clOf_lookup env _ y (mem_of_lookup h)⟩ }
  have fin : ∀ (v : Value) (s' : Shared), Kp G.T s3 s' → (∃ tk, v = .int ((undig n zs : Nat) : Int) tk) → Q (.ret v) s' := fun v s' kk hv' =>
    hR (.int ((undig n zs : Nat) : Int)) v s' rfl (t3.kp.trans kk) (by simp only [Rp]; exact hv')
  refine wpAny_execs_cons (exec_ret (IfExp_ ((TrTo.of (d := .list (zs.map fun z : Nat => .int (z : Int))) (EvTo.var (by walk_at "my_x")) trivial (fun _ _ => rfl)) A env _ s3 _ _ ho hv t3.fm.vr fun s4 k4 => ?_)))
  by_cases hzs : zs = []
  · subst hzs
    have hT0 : TruD (.list (([] : List Nat).map fun z : Nat => .int (z : Int))) = false := rfl
    rw [hT0, if_neg (by decide)]
    refine EvTo.intC A env _ s4 _ _ ho hv (t3.fm.vr.keeps k4) fun v s5 k5 r5 => ?_
    simp only [Rp] at r5
    exact fin v s5 (k4.trans k5) r5
  · have hT : TruD (.list (zs.map fun z : Nat => .int (z : Int))) = true := by
      cases zs with
      | nil => exact absurd rfl hzs
      | cons z r => rfl
    have hpos : 0 < zs.length := List.length_pos_iff.mpr hzs
    rw [hT, if_pos rfl]
    obtain ⟨o4, fd4, hf4, hd4⟩ := (I.kp k4).fo'
    refine Call_Name rfl ((hacc.keeps k4.nt).name hv (Calls.callWith_function (o := o4) (fd := fd4) (EvAll.args (ds := [.int 0, .int ((zs.map fun z : Nat => PyData.int (z : Int)).length : Nat)]) (by walk_at "my_x") ho hv (t3.fm.vr.keeps k4) fun vs s5 k5 r5 => ⟨⟨k5.nt _ _ (.func hd4) hf4, hd4⟩, ?_⟩)))
    obtain ⟨u, v, rfl, q1, q2⟩ := r5.two
    simp only [Rp] at q1 q2
    obtain ⟨t4, rfl⟩ := q1
    obtain ⟨t5, rfl⟩ := q2
    have hml : (zs.map fun z : Nat => PyData.int (z : Int)).length = zs.length := List.length_map _
    refine d2i_rec hz hzl 20 (L := 0) (R := (zs.map fun z : Nat => PyData.int (z : Int)).length) (ho.mono (by decide)) (I.kp (k4.trans k5)) (by rw [hml]; exact hpos) (by rw [hml]; exact Nat.le_refl _) (by rw [hml]; lia) (by rw [hml, Nat.sub_zero]; exact hb) fun s6 t6 k6 => ?_
    rw [hml, Nat.sub_zero, List.drop_zero, List.take_length]
    exact fin _ s6 ((k4.trans k5).trans k6) ⟨_, rfl⟩

theorem d2i_fn (hG : Glo G) (hD : DefAt G "_digits2int" (fnPars PP iD2i) (fnBody PP iD2i) (fnScope PP iD2i)) (hT : ∀ c', CodeOf G "_digits2int" (fnPars PP iD2i) (fnBody PP iD2i) (fnScope PP iD2i) c' → ∃ P, TabDef G c' P (inPos (fnBody PP iD2i) 0) "_digits2int.<locals>.inner") :
    FnOk G "_digits2int" 23 (fun ds d => ∃ (n : Nat) (zs : List Nat), ds = [.list (zs.map fun z : Nat => .int (z : Int)), .int (n : Int)] ∧ (∀ z, z ∈ zs → z < 2 ^ n) ∧ zs.length ≤ lid ∧ n * zs.length ≤ 2 ^ 20 ∧ d = .int ((undig n zs : Nat) : Int)) := by
  refine FnOk.of1 (k := 22) (ps := ["digits", "n"]) hD (by decide +kernel) (fun pm c doc vs hl => ?_) fun ds d h => ?_
  · obtain ⟨a, b, rfl⟩ := two_vs hl
    rfl
  · obtain ⟨n, zs, rfl, hz, hzl, hb, rfl⟩ := h
    refine ⟨rfl, fun env c' hc hcode hq => ?_⟩
    obtain ⟨P, T⟩ := hT c' hc
    intro A M0 L Wc Z s0 s Q E ho hv t hQ hR
    exact d2i_body hG hz hzl hb T hcode hq A M0 L Wc Z s0 s Q E ho hv t (fun ρ' Z' s' hp => by cases hp) (fun d v s' hp hk hr => hR d v s' (.inl hp) hk hr)
end
section
variable {prog : Program} {w : World} {G : Gl prog w} {k : Nat}
theorem d2n_fn (hG : Glo G) (hD : DefAt G "_div2n1n" (fnPars PP iD2) (fnBody PP iD2) (fnScope PP iD2)) :
    FnOk G "_div2n1n" 1 (fun ds d => ∃ a b n : Int, ds = [.int a, .int b, .int n] ∧ b ≠ 0 ∧ b.natAbs.log2 < 9000 ∧ (Builtin.Int.intBits a : Int) - n ≤ 4000 ∧ d = .tuple [.int (a.fdiv b), .int (a.fmod b)]) := by
  refine FnOk.of (k := 0) (ps := ["a", "b", "n"]) hD (by decide +kernel) (fun pm c doc vs hl => ?_) fun ds d h => ?_
  · obtain ⟨a, b, c, rfl⟩ := three_vs hl
    rfl
  · obtain ⟨a, b, n, rfl, h0, hb, hn, rfl⟩ := h
    refine ⟨rfl, ?_⟩
    show ExTo G 0 (fnScope PP iD2) [("a", B.own (.int a)), ("b", B.own (.int b)), ("n", B.own (.int n))] _ _
    refine ExTo.ite (b := true) (P1 := fun o => o = .ret (.tuple [.int (a.fdiv b), .int (a.fmod b)])) (TrTo.cast (TrTo.cmp (EvTo.sub (EvTo.bitLen (EvTo.var (d := .int a) (by walk_at "my_x")) (fun _ => rfl) rfl) (EvTo.var (d := .int n) (by walk_at "my_x"))) (EvTo.limit hG (by decide +kernel)) CmpOk.leI (by with_unfolding_all rfl)) (decide_eq_true hn)) (fun _ => ?_) (fun h => by cases h) (fun ρ' h => by cases h) (fun d h => by cases h; exact .inl rfl)
    refine ExTo.ret (d := .tuple [.int (a.fdiv b), .int (a.fmod b)]) ?_ rfl
    apply EvTo.divmod
    · decide +kernel
    · exact (Glo.divmod hG).1
    · exact (Glo.divmod hG).2
    · walk_at "my_x"
    · walk_at "my_x"
    · walk_at "my_x"
    · walk_at "my_x"
    · exact h0
    · exact hb
end
section
variable {prog : Program} {w : World} {G : Gl prog w} {k : Nat}
/-- the first guess -/
noncomputable def d3q (a12 b1 n : Nat) : Nat := if a12 / 2 ^ n = b1 then 2 ^ n - 1 else a12 / b1
theorem d3q_rest (a12 b1 n : Nat) (h1 : 0 < b1) : d3q a12 b1 n * b1 ≤ a12 := by
  unfold d3q
  split
  · rename_i h
    have := Nat.div_mul_le_self a12 (2 ^ n)
    rw [h] at this
    rw [Nat.sub_mul, Nat.one_mul, Nat.mul_comm]
    lia
  · exact Nat.div_mul_le_self _ _
theorem d3q_ge {a12 a3 b1 b2 n : Nat} (h1 : 0 < b1) (h3 : a3 < 2 ^ n) (hA : a12 * 2 ^ n + a3 < (b1 * 2 ^ n + b2) * 2 ^ n) : (a12 * 2 ^ n + a3) / (b1 * 2 ^ n + b2) ≤ d3q a12 b1 n := by
  have hp : 0 < 2 ^ n := Nat.pow_pos (by decide)
  have hb : 0 < b1 * 2 ^ n + b2 := Nat.add_pos_left (Nat.mul_pos h1 hp) _
  unfold d3q
  split
  · have := (Nat.div_lt_iff_lt_mul hb).mpr (by rw [Nat.mul_comm]; exact hA)
    lia
  · have e1 : (a12 * 2 ^ n + a3) / (b1 * 2 ^ n + b2) ≤ (a12 * 2 ^ n + a3) / (b1 * 2 ^ n) := Nat.div_le_div_left (Nat.le_add_right _ _) (Nat.mul_pos h1 hp)
    refine Nat.le_trans e1 ?_
    rw [Nat.mul_comm b1, ← Nat.div_div_eq_div_mul]
    have : (a12 * 2 ^ n + a3) / 2 ^ n = a12 := by
      rw [Nat.mul_comm, Nat.mul_add_div hp, Nat.div_eq_of_lt h3]; rfl
    rw [this]
    exact Nat.le_refl _
theorem or_low {a n x : Nat} (h : a < 2 ^ n) : x * 2 ^ n ||| a = x * 2 ^ n + a := by
  rw [← Nat.shiftLeft_eq]; exact (Nat.shiftLeft_add_eq_or_of_lt h x).symm
end
section
variable {prog : Program} {w : World} {G : Gl prog w} {k : Nat} {sc : Scope} {ρ ρ' : VEnv}
theorem ExTo.perm {ss : List Stmt} {P : Out → Prop} (h : ∀ p, p ∈ ρ' → p ∈ ρ) (hn : (ρ'.map (·.1)).Nodup) (hx : ExTo G k sc ρ' ss P) : ExTo G k sc ρ ss P := by
  intro A env M0 L Wc Z s0 s Q E ho hv t hQ hR
  exact hx A env M0 L Wc Z s0 s Q E ho hv (t.lessE (fun y b hy => .inr (h _ hy)) hn) hQ hR

theorem lt_bits (x : Nat) : x < 2 ^ Builtin.Int.intBits (x : Int) := by
  unfold Builtin.Int.intBits
  by_cases hx : x = 0
  · simp [hx]
  · have : ((x : Int) == 0) = false := by simp [hx]
    rw [this, if_neg (by decide), Int.natAbs_natCast]
    exact Nat.lt_log2_self

theorem d3n_rest (hG : Glo G) {a12 a3 b1 b2 n : Nat} (h1 : 0 < b1) (h2 : b2 < 2 ^ n) (h3 : a3 < 2 ^ n) (hA : a12 * 2 ^ n + a3 < (b1 * 2 ^ n + b2) * 2 ^ n) (ha : Builtin.Int.intBits (a12 : Int) ≤ n + 4000) (hn : n ≤ 2 ^ 13) {ss : List Stmt} (hss : ss = (fnBody PP iD3).drop 1) :
    ExTo G k (fnScope PP iD3) [("q", .own (.int (d3q a12 b1 n : Nat))), ("r", .own (.int ((a12 - d3q a12 b1 n * b1 : Nat) : Int))), ("a12", .own (.int (a12 : Int))), ("a3", .own (.int (a3 : Int))), ("b", .own (.int ((b1 * 2 ^ n + b2 : Nat) : Int))), ("b1", .own (.int (b1 : Int))), ("b2", .own (.int (b2 : Int))), ("n", .own (.int (n : Int)))] ss
      (fun o => o = .ret (.tuple [.int (((a12 * 2 ^ n + a3) / (b1 * 2 ^ n + b2) : Nat) : Int), .int (((a12 * 2 ^ n + a3) % (b1 * 2 ^ n + b2) : Nat) : Int)])) := by
  subst hss
  have hq := d3q_ge h1 h3 hA
  have hqr := d3q_rest a12 b1 n h1
  generalize hQ : d3q a12 b1 n = q0 at *
  generalize hB : b1 * 2 ^ n + b2 = b at *
  generalize hA' : a12 * 2 ^ n + a3 = a at *
  have hp : 0 < 2 ^ n := Nat.pow_pos (by decide)
  have hb0 : 0 < b := by have := Nat.mul_pos h1 hp; lia
  have ha12 : a12 < 2 ^ (n + 4000) := Nat.lt_of_lt_of_le (lt_bits a12) (Nat.pow_le_pow_right (by decide) ha)
  have hq12 : q0 ≤ a12 := Nat.le_trans (Nat.le_mul_of_pos_right _ h1) hqr
  have hmul : IntMulOk (q0 : Int) (b2 : Int) := IntMulOk.of_bits (Nat.le_trans (intBits_le (Nat.lt_of_le_of_lt hq12 ha12)) (by lia)) (Nat.le_trans (intBits_le h2) (by lia))
  have hr1 : Builtin.Int.intBits ((a12 - q0 * b1 : Nat) : Int) ≤ n + 4000 := intBits_le (Nat.lt_of_le_of_lt (Nat.sub_le _ _) ha12)
  refine ExTo.step (Step.assign (d := .int ((a : Int) - q0 * b)) (ρ' := [("q", .own (.int (q0 : Int))), ("r", .own (.int ((a : Int) - q0 * b))), ("a12", .own (.int (a12 : Int))), ("a3", .own (.int (a3 : Int))), ("b", .own (.int (b : Int))), ("b1", .own (.int (b1 : Int))), ("b2", .own (.int (b2 : Int))), ("n", .own (.int (n : Int)))])
    (EvTo.cast (EvTo.sub (EvTo.bor (EvTo.lsh (by walk_at "my_x") (by walk_at "my_x") (by lia) (by lia)) (by walk_at "my_x")) (EvTo.mul (by walk_at "my_x") (by walk_at "my_x") hmul)) ?_) (by walk_at "my_x") (by walk_at "my_x") (fun _ => rfl)) ?_
  · rw [Int.toNat_natCast, show ((a12 - q0 * b1 : Nat) : Int) * 2 ^ n = (((a12 - q0 * b1) * 2 ^ n : Nat) : Int) by push_cast; rfl, bitOr_nat, or_low h3]
    congr 1
    obtain ⟨r, hr⟩ : ∃ r, a12 = r + q0 * b1 := ⟨a12 - q0 * b1, by lia⟩
    have e0 : a12 - q0 * b1 = r := by lia
    have e1 : a12 * 2 ^ n = r * 2 ^ n + q0 * (b1 * 2 ^ n) := by rw [hr, Nat.add_mul, Nat.mul_assoc]
    have e2 : q0 * b = q0 * (b1 * 2 ^ n) + q0 * b2 := by rw [← hB, Nat.mul_add]
    have e3 : r * 2 ^ n + a3 + q0 * b = a + q0 * b2 := by lia
    have e4 := congrArg (Nat.cast : Nat → Int) e3
    rw [e0]
    push_cast at e4 ⊢
    lia
  have hdm := Nat.div_add_mod a b
  have hmod := Nat.mod_lt a hb0
  generalize hqt : a / b = qt at *
  generalize hrt : a % b = rt at *
  obtain ⟨N, hN⟩ : ∃ N, q0 = qt + N := ⟨q0 - qt, by lia⟩
  have ev : ∀ i : Nat, i ≤ N → (a : Int) - q0 * b + i * b = (rt : Int) - ((N - i : Nat) : Int) * b := fun i hi => by
    have : q0 = qt + i + (N - i) := by lia
    have e1 : q0 * b = b * qt + i * b + (N - i) * b := by
      rw [this, Nat.add_mul, Nat.add_mul, Nat.mul_comm qt b]
    have e2 := congrArg (Nat.cast : Nat → Int) e1
    have e3 := congrArg (Nat.cast : Nat → Int) hdm
    push_cast at e2 e3 ⊢
    lia
  refine ExTo.while (n := N) (R := fun i => [("q", .own (.int ((q0 : Int) - i))), ("r", .own (.int ((a : Int) - q0 * b + i * b))), ("a12", .own (.int (a12 : Int))), ("a3", .own (.int (a3 : Int))), ("b", .own (.int (b : Int))), ("b1", .own (.int (b1 : Int))), ("b2", .own (.int (b2 : Int))), ("n", .own (.int (n : Int)))]) ?_ (fun i hi => ?_) ?_ (fun i hi => ?_) ?_
  · simp only [Int.ofNat_zero, Int.sub_zero, Int.zero_mul, Int.add_zero]
    walk_at "my_x"
  · refine TrTo.cast (by walk_at "my_x") (decide_eq_true ?_)
    rw [ev i (by lia)]
    have : 0 < N - i := by lia
    have h5 : 1 * b ≤ (N - i) * b := Nat.mul_le_mul_right b this
    have h6 : ((1 * b : Nat) : Int) ≤ (((N - i) * b : Nat) : Int) := by exact_mod_cast h5
    push_cast at h6 ⊢
    lia
  · refine TrTo.cast (by walk_at "my_x") (decide_eq_false ?_)
    rw [ev N (Nat.le_refl _), Nat.sub_self]
    simp
  · show ExTo G k _ [("q", .own (.int ((q0 : Int) - i))), ("r", .own (.int ((a : Int) - q0 * b + i * b))), ("a12", .own (.int (a12 : Int))), ("a3", .own (.int (a3 : Int))), ("b", .own (.int (b : Int))), ("b1", .own (.int (b1 : Int))), ("b2", .own (.int (b2 : Int))), ("n", .own (.int (n : Int)))] _ _
    refine ExTo.step (Step.augSub (b := 1) (by walk_at "my_x") EvTo.intC (by walk_at "my_x") (ρ' := [("q", .own (.int ((q0 : Int) - ((i + 1 : Nat) : Int)))), ("r", .own (.int ((a : Int) - q0 * b + i * b))), ("a12", .own (.int (a12 : Int))), ("a3", .own (.int (a3 : Int))), ("b", .own (.int (b : Int))), ("b1", .own (.int (b1 : Int))), ("b2", .own (.int (b2 : Int))), ("n", .own (.int (n : Int)))]) (by rw [show (q0 : Int) - ((i + 1 : Nat) : Int) = (q0 : Int) - i - 1 by lia]; walk_at "my_x")) ?_
    refine ExTo.step (Step.augAdd (b := (b : Int)) (by walk_at "my_x") (by walk_at "my_x") (by walk_at "my_x") (ρ' := [("q", .own (.int ((q0 : Int) - ((i + 1 : Nat) : Int)))), ("r", .own (.int ((a : Int) - q0 * b + ((i + 1 : Nat) : Int) * b))), ("a12", .own (.int (a12 : Int))), ("a3", .own (.int (a3 : Int))), ("b", .own (.int (b : Int))), ("b1", .own (.int (b1 : Int))), ("b2", .own (.int (b2 : Int))), ("n", .own (.int (n : Int)))])
      (by rw [show (a : Int) - q0 * b + ((i + 1 : Nat) : Int) * b = (a : Int) - q0 * b + i * b + b by push_cast; rw [Int.add_mul]; lia]; walk_at "my_x")) ?_
    exact ExTo.nil (by walk_at "my_x")
  · refine ExTo.ret (d := .tuple [.int (qt : Int), .int (rt : Int)]) (EvTo.cast (by walk_at "my_x") ?_) rfl
    rw [ev N (Nat.le_refl _), Nat.sub_self]
    simp only [Int.ofNat_zero, Int.zero_mul, Int.sub_zero]
    congr 3
    lia
end
section
variable {prog : Program} {w : World} {G : Gl prog w} {k : Nat}
theorem d3n_fn (hG : Glo G) (hD : DefAt G "_div3n2n" (fnPars PP iD3) (fnBody PP iD3) (fnScope PP iD3)) (h2 : DefAt G "_div2n1n" (fnPars PP iD2) (fnBody PP iD2) (fnScope PP iD2)) :
    FnOk G "_div3n2n" 2 (fun ds d => ∃ a12 a3 b1 b2 n : Nat, ds = [.int (a12 : Int), .int (a3 : Int), .int ((b1 * 2 ^ n + b2 : Nat) : Int), .int (b1 : Int), .int (b2 : Int), .int (n : Int)] ∧ 0 < b1 ∧ b2 < 2 ^ n ∧ a3 < 2 ^ n ∧ a12 * 2 ^ n + a3 < (b1 * 2 ^ n + b2) * 2 ^ n ∧ Builtin.Int.intBits (a12 : Int) ≤ n + 4000 ∧ n ≤ 4000 ∧ Builtin.Int.intBits (b1 : Int) ≤ 8000 ∧
      d = .tuple [.int (((a12 * 2 ^ n + a3) / (b1 * 2 ^ n + b2) : Nat) : Int), .int (((a12 * 2 ^ n + a3) % (b1 * 2 ^ n + b2) : Nat) : Int)]) := by
  refine FnOk.of (k := 1) (ps := ["a12", "a3", "b", "b1", "b2", "n"]) hD (by decide +kernel) (fun pm c doc vs hl => ?_) fun ds d h => ?_
  · obtain ⟨a, b, c, d, e, f, rfl⟩ := six_vs hl
    rfl
  · obtain ⟨a12, a3, b1, b2, n, rfl, hb1, hb2, ha3, hA, ha, hn, hbb, rfl⟩ := h
    refine ⟨rfl, ?_⟩
    walk_at "my_args"
    have F2 := d2n_fn hG h2
    have hx : fnBody PP iD3 = (fnBody PP iD3).take 1 ++ (fnBody PP iD3).drop 1 := rfl
    have hr := d3q_rest a12 b1 n hb1
    have hp : 0 < 2 ^ n := Nat.pow_pos (by decide)
    refine ExTo.ite (b := ((a12 / 2 ^ n : Nat) : Int) == (b1 : Int)) (P1 := fun o => ∃ ρ', o = .next ρ' ∧ (∀ p, p ∈ [(("q" : Str), B.own (.int (d3q a12 b1 n : Nat))), ("r", .own (.int ((a12 - d3q a12 b1 n * b1 : Nat) : Int))), ("a12", .own (.int (a12 : Int))), ("a3", .own (.int (a3 : Int))), ("b", .own (.int ((b1 * 2 ^ n + b2 : Nat) : Int))), ("b1", .own (.int (b1 : Int))), ("b2", .own (.int (b2 : Int))), ("n", .own (.int (n : Int)))] → p ∈ ρ')) ?_ (fun hb => ?_) (fun hb => ?_) ?_ (fun d h => by obtain ⟨_, h, _⟩ := h; cases h)
    · refine TrTo.cast (TrTo.cmp (EvTo.rsh (EvTo.var (d := .int (a12 : Int)) (by walk_at "my_x")) (EvTo.var (d := .int (n : Int)) (by walk_at "my_x")) (by lia)) (EvTo.var (d := .int (b1 : Int)) (by walk_at "my_x")) CmpOk.eqI (by with_unfolding_all rfl)) ?_
      rw [Int.toNat_natCast, fdiv_nat]
    · have e : a12 / 2 ^ n = b1 := by have := beq_iff_eq.mp hb; exact_mod_cast this
      have eq : d3q a12 b1 n = 2 ^ n - 1 := by unfold d3q; rw [if_pos e]
      have hle : b1 * 2 ^ n ≤ a12 := by rw [← e]; exact Nat.div_mul_le_self _ _
      have hrr : a12 - (2 ^ n - 1) * b1 = a12 - b1 * 2 ^ n + b1 := by
        rw [eq] at hr
        rw [Nat.sub_mul, Nat.one_mul, Nat.mul_comm (2 ^ n)] at hr ⊢
        have : b1 ≤ b1 * 2 ^ n := Nat.le_mul_of_pos_right _ hp
        lia
      apply ExTo.step
      · apply Step.tupSw (ys := ["q", "r"]) (bs := [.own (.int (d3q a12 b1 n : Nat)), .own (.int ((a12 - d3q a12 b1 n * b1 : Nat) : Int))])
        · rw [eq, hrr]
          refine .cons (fun _ _ => rfl) (.own (EvTo.cast (EvTo.sub (EvTo.lsh EvTo.intC (EvTo.var (d := .int (n : Int)) (by walk_at "my_x")) (by lia) ?_) EvTo.intC) ?_)) (.cons (fun _ _ => rfl) (.own (EvTo.cast (EvTo.add (EvTo.sub (EvTo.var (d := .int (a12 : Int)) (by walk_at "my_x")) (EvTo.lsh (EvTo.var (d := .int (b1 : Int)) (by walk_at "my_x")) (EvTo.var (d := .int (n : Int)) (by walk_at "my_x")) (by lia) ?_)) (EvTo.var (d := .int (b1 : Int)) (by walk_at "my_x"))) ?_)) .nil)
          · have : Builtin.Int.intBits 1 = 1 := rfl
            lia
          · congr 1
            rw [Int.toNat_natCast]
            have : ((2 ^ n - 1 : Nat) : Int) = (2 : Int) ^ n - 1 := by rw [Int.ofNat_sub hp]; push_cast; rfl
            rw [this]; lia
          · lia
          · congr 1
            rw [Int.toNat_natCast]
            have : ((a12 - b1 * 2 ^ n + b1 : Nat) : Int) = (a12 : Int) - b1 * 2 ^ n + b1 := by rw [Int.natCast_add, Int.ofNat_sub hle]; push_cast; rfl
            rw [this]
        · dsimp only [List.reverse, List.reverseAux]; walk_at "my_x"
        · decide +kernel
        · rfl
        · exact Nat.le_of_ble_eq_true rfl
      · exact ExTo.nil ⟨_, rfl, fun p hp => by simp only [List.mem_cons, List.not_mem_nil, or_false] at hp ⊢; rcases hp with h | h | h | h | h | h | h | h <;> simp only [h, or_true, true_or]⟩
    · have e : a12 / 2 ^ n ≠ b1 := fun e => by rw [e] at hb; simp at hb
      have eq : d3q a12 b1 n = a12 / b1 := by unfold d3q; rw [if_neg e]
      apply ExTo.step
      · apply Step.assignT (xs := [.int (d3q a12 b1 n : Nat), .int ((a12 - d3q a12 b1 n * b1 : Nat) : Int)])
        · refine EvTo.user F2 (by decide +kernel) (by lia) (by walk_at "my_x") ⟨(a12 : Int), (b1 : Int), (n : Int), rfl, by lia, ?_, by lia, ?_⟩
          · rw [Int.natAbs_natCast]
            have h1 := lt_bits b1
            have h3 : b1 < 2 ^ 9000 := Nat.lt_of_lt_of_le h1 (Nat.pow_le_pow_right (by decide) (by lia))
            exact (Nat.log2_lt (by lia)).mpr h3
          · rw [eq]
            have h5 : (a12 : Int).fdiv (b1 : Int) = ((a12 / b1 : Nat) : Int) := by rw [Int.fdiv_eq_ediv_of_nonneg _ (by lia)]; rfl
            have h6 : (a12 : Int).fmod (b1 : Int) = ((a12 - a12 / b1 * b1 : Nat) : Int) := by
              rw [Int.fmod_eq_emod_of_nonneg _ (by lia), ← Int.natCast_emod]
              congr 1
              have := Nat.div_add_mod a12 b1
              rw [Nat.mul_comm] at this
              lia
            rw [h5, h6]
        · walk_at "my_x"
        · exact fun _ => rfl
        · exact fun _ => rfl
      · exact ExTo.nil ⟨_, rfl, fun p hp => by simp only [List.mem_cons, List.not_mem_nil, or_false] at hp ⊢; rcases hp with h | h | h | h | h | h | h | h <;> simp only [h, or_true, true_or]⟩
    · rintro ρ' ⟨_, h, hm⟩
      cases h
      refine ExTo.perm hm (by dsimp only [List.map]; decide +kernel) ((d3n_rest hG hb1 hb2 ha3 hA ha (by lia) rfl).mono fun o h => .inl h)
end
/-! ## _divmod_pos -/
/-- the digits of the quotient, and the rest -/
noncomputable def dq (n b : Nat) : List Nat → List Nat × Nat
  | [] => ([], 0)
  | z :: l => (((dq n b l).2 * 2 ^ n + z) / b :: (dq n b l).1, ((dq n b l).2 * 2 ^ n + z) % b)
theorem dq_len (n b : Nat) : ∀ l, (dq n b l).1.length = l.length
  | [] => rfl
  | z :: l => by simp [dq, dq_len n b l]
theorem dq_rest {n b : Nat} (hb : 0 < b) : ∀ l, (dq n b l).2 < b
  | [] => hb
  | z :: l => Nat.mod_lt _ hb
theorem dq_lt {n b : Nat} (hb : 0 < b) : ∀ l, (∀ z, z ∈ l → z < 2 ^ n) → ∀ q, q ∈ (dq n b l).1 → q < 2 ^ n
  | [], _, q, h => by simp [dq] at h
  | z :: l, hz, q, h => by
    simp only [dq, List.mem_cons] at h
    rcases h with rfl | h
    · have h1 := dq_rest (n := n) hb l
      have h2 := hz z List.mem_cons_self
      rw [Nat.div_lt_iff_lt_mul hb]
      have : ((dq n b l).2 + 1) * 2 ^ n ≤ b * 2 ^ n := Nat.mul_le_mul_right _ h1
      rw [Nat.add_mul, Nat.one_mul] at this
      rw [Nat.mul_comm (2 ^ n)]
      lia
    · exact dq_lt hb l (fun y hy => hz y (List.mem_cons_of_mem _ hy)) q h
theorem dq_spec {n b : Nat} (hb : 0 < b) : ∀ l, b * undig n (dq n b l).1 + (dq n b l).2 = undig n l
  | [] => by simp [dq, undig]
  | z :: l => by
    have ih := dq_spec (n := n) hb l
    simp only [dq, undig]
    generalize (dq n b l).2 = r at *
    generalize undig n (dq n b l).1 = q at *
    have := Nat.div_add_mod (r * 2 ^ n + z) b
    rw [← ih, Nat.mul_add, Nat.mul_add]
    rw [Nat.mul_comm (2 ^ n) r, Nat.mul_left_comm b (2 ^ n) q]
    lia
theorem dq_div {n b : Nat} (hb : 0 < b) (l : List Nat) : undig n (dq n b l).1 = undig n l / b ∧ (dq n b l).2 = undig n l % b := by
  have h1 := dq_spec (n := n) hb l
  have h2 := dq_rest (n := n) hb l
  constructor
  · symm
    rw [Nat.div_eq_iff hb]
    rw [Nat.mul_comm] at h1
    lia
  · rw [← h1, Nat.mul_add_mod, Nat.mod_eq_of_lt h2]
theorem digN_lt (n : Nat) : ∀ (m x : Nat), ∀ z, z ∈ digN n x m → z < 2 ^ n
  | 0, _, z, h => by simp [digN] at h
  | m + 1, x, z, h => by
    simp only [digN, List.mem_cons] at h
    rcases h with rfl | h
    · exact Nat.mod_lt _ (Nat.pow_pos (by decide))
    · exact digN_lt n m _ z h
theorem i2n_enough {n x : Nat} (hn : 0 < n) : x < 2 ^ (n * i2n n x) := by
  have hle : Builtin.Int.intBits (x : Int) ≤ n * i2n n x := by
    unfold i2n
    have h1 := Nat.div_add_mod (Builtin.Int.intBits (x : Int) + n - 1) n
    have h2 := Nat.mod_lt (Builtin.Int.intBits (x : Int) + n - 1) hn
    lia
  exact Nat.lt_of_lt_of_le (lt_bits x) (Nat.pow_le_pow_right (by decide) hle)
theorem fdivN (a b : Nat) : (a : Int).fdiv (b : Int) = ((a / b : Nat) : Int) := by rw [Int.fdiv_eq_ediv_of_nonneg _ (by lia)]; rfl
theorem fmodN (a b : Nat) : (a : Int).fmod (b : Int) = ((a % b : Nat) : Int) := by rw [Int.fmod_eq_emod_of_nonneg _ (by lia)]; rfl
theorem log2_lt_bits {b k : Nat} (h : Builtin.Int.intBits (b : Int) ≤ k) (hb : 0 < b) : b.log2 < k := by
  have h3 : b < 2 ^ k := Nat.lt_of_lt_of_le (lt_bits b) (Nat.pow_le_pow_right (by decide) h)
  exact (Nat.log2_lt (by lia)).mpr h3

section
variable {prog : Program} {w : World} {G : Gl prog w} {k : Nat}
noncomputable abbrev d2Rel : List PyData → PyData → Prop := fun ds d => ∃ a b n : Int, ds = [.int a, .int b, .int n] ∧ b ≠ 0 ∧ b.natAbs.log2 < 9000 ∧ (Builtin.Int.intBits a : Int) - n ≤ 4000 ∧ d = .tuple [.int (a.fdiv b), .int (a.fmod b)]
noncomputable abbrev i2Rel : List PyData → PyData → Prop := fun ds d => ∃ x n : Nat, ds = [.int (x : Int), .int (n : Int)] ∧ 0 < n ∧ Builtin.Int.intBits (x : Int) + n ≤ 2 ^ 19 ∧ d = .list (digs n x (i2n n x))
noncomputable abbrev diRel : List PyData → PyData → Prop := fun ds d => ∃ (n : Nat) (zs : List Nat), ds = [.list (zs.map fun z : Nat => .int (z : Int)), .int (n : Int)] ∧ (∀ z, z ∈ zs → z < 2 ^ n) ∧ zs.length ≤ lid ∧ n * zs.length ≤ 2 ^ 20 ∧ d = .int ((undig n zs : Nat) : Int)
noncomputable abbrev dmRel : List PyData → PyData → Prop := fun ds d => ∃ a b : Nat, ds = [.int (a : Int), .int (b : Int)] ∧ 0 < b ∧ Builtin.Int.intBits (a : Int) ≤ 2000 ∧ Builtin.Int.intBits (b : Int) ≤ 2000 ∧ d = .tuple [.int ((a / b : Nat) : Int), .int ((a % b : Nat) : Int)]

theorem dmp_fn (hG : Glo G) (hD : DefAt G "_divmod_pos" (fnPars PP iDmp) (fnBody PP iDmp) (fnScope PP iDmp)) (F2 : FnOk G "_div2n1n" 1 d2Rel) (Fi : FnOk G "_int2digits" 23 i2Rel) (Fd : FnOk G "_digits2int" 23 diRel) :
    FnOk G "_divmod_pos" 24 dmRel := by
  refine FnOk.of (k := 23) (ps := ["a", "b"]) hD (by decide +kernel) (fun pm c doc vs hl => ?_) fun ds d h => ?_
  · obtain ⟨a, b, rfl⟩ := two_vs hl
    rfl
  · obtain ⟨a, b, rfl, hb, hab, hbb, rfl⟩ := h
    refine ⟨rfl, ?_⟩
    walk_at "my_args"
    generalize hn : Builtin.Int.intBits (b : Int) = n at *
    have hn0 : 0 < n := by
      have := lt_bits b
      rw [hn] at this
      rcases Nat.eq_zero_or_pos n with q | q
      · rw [q] at this; simp at this; lia
      · exact q
    have hbl : b < 2 ^ n := by rw [← hn]; exact lt_bits b
    apply ExTo.step
    · walk_at "my_x"
    rw [hn]
    apply ExTo.step
    · apply Step.assign (d := .list (digs n a (i2n n a)))
      · exact EvTo.user Fi (by decide +kernel) (by lia) (by walk_at "my_x") ⟨a, n, rfl, hn0, by lia, rfl⟩
      · walk_at "my_x"
      · walk_at "my_x"
      · exact fun _ => rfl
    have hlz := digN_lt n (i2n n a) a
    have hund := undig_digN n (i2n n a) a (i2n_enough hn0)
    have hll := digN_length n (i2n n a) a
    have hml : i2n n a ≤ 4000 := Nat.le_trans (Nat.div_le_self _ _) (by lia)
    have hnm : n * i2n n a ≤ 4000 := Nat.le_trans (Nat.mul_div_le _ _) (by lia)
    unfold digs
    generalize digN n a (i2n n a) = l at *
    apply ExTo.step
    · walk_at "my_x"
    apply ExTo.step
    · apply Step.assignIt
      · apply EvIt.list
        · walk_at "my_x"
        · walk_at "my_side"
      · walk_at "my_x"
      · walk_at "my_x"
      · exact fun _ => rfl
    refine ExTo.for (f := fun z : Nat => PyData.int (z : Int)) (xs := l.reverse) (Iv := fun _ => True)
      (R := fun i => [("a", .own (.int (a : Int))), ("b", .own (.int (b : Int))), ("n", .own (.int (n : Int))), ("a_digits", .own (.list (l.map fun z : Nat => PyData.int (z : Int)))), ("r", .own (.int ((dq n b (l.drop (l.length - i))).2 : Nat))), ("q_digits", .mu ((dq n b (l.drop (l.length - i))).1.reverse.map fun z : Nat => PyData.int (z : Int)))])
      (ρb := fun i x => [("a", .own (.int (a : Int))), ("b", .own (.int (b : Int))), ("n", .own (.int (n : Int))), ("a_digits", .own (.list (l.map fun z : Nat => PyData.int (z : Int)))), ("r", .own (.int ((dq n b (l.drop (l.length - i))).2 : Nat))), ("q_digits", .mu ((dq n b (l.drop (l.length - i))).1.reverse.map fun z : Nat => PyData.int (z : Int))), ("a_digit", .own (.int (x : Int)))])
      ?_ (fun _ _ => rfl) ?_ trivial ?_ ?_ ?_
    · rw [List.map_reverse]
      apply ItTo.rev
      · decide +kernel
      · exact (Glo.reversed hG).1
      · exact (Glo.reversed hG).2
      · walk_at "my_x"
      · walk_at "my_x"
    · rw [Nat.sub_zero, List.drop_length]
      simp only [dq, List.reverse_nil, List.map_nil, Int.ofNat_zero]
      walk_at "my_x"
    · intro i x hx _
      exact BindTo.name (by walk_at "my_x") (by walk_at "my_x")
    · intro i x hx _
      have hi : i < l.length := by have := (List.getElem?_eq_some_iff.mp hx).1; simpa using this
      have hxl : x ∈ l := by have := List.mem_of_getElem? hx; simpa using this
      have hdrop : l.drop (l.length - (i + 1)) = x :: l.drop (l.length - i) := by
        rw [List.getElem?_reverse hi] at hx
        have e : l.length - (i + 1) = l.length - 1 - i := by lia
        have hj : l.length - 1 - i < l.length := by lia
        rw [List.getElem?_eq_getElem hj] at hx
        rw [e, List.drop_eq_getElem_cons hj, Option.some.inj hx]
        congr 2
        lia
      rw [hdrop]
      simp only [dq, List.reverse_cons, List.map_append, List.map_cons, List.map_nil]
      have hr := dq_rest (n := n) hb (l.drop (l.length - i))
      have hlen := dq_len n b (l.drop (l.length - i))
      have hz := hlz x hxl
      generalize (dq n b (l.drop (l.length - i))).2 = r at *
      generalize (dq n b (l.drop (l.length - i))).1 = qs at *
      have hv : r * 2 ^ n + x < 2 ^ (n + n) := by
        have h1 : (r + 1) * 2 ^ n ≤ b * 2 ^ n := Nat.mul_le_mul_right _ hr
        have h2 : b * 2 ^ n ≤ 2 ^ n * 2 ^ n := Nat.mul_le_mul_right _ (Nat.le_of_lt hbl)
        rw [Nat.add_mul, Nat.one_mul] at h1
        rw [Nat.pow_add]
        lia
      have hrb : Builtin.Int.intBits (r : Int) ≤ n := intBits_le (Nat.lt_trans hr hbl)
      apply ExTo.step
      · apply Step.assignT (xs := [.int ((r * 2 ^ n + x) / b : Nat), .int ((r * 2 ^ n + x) % b : Nat)])
        · refine EvTo.user F2 (by decide +kernel) (by lia) (ds := [.int ((r * 2 ^ n + x : Nat) : Int), .int (b : Int), .int (n : Int)]) (.cons (fun _ _ => rfl) (EvTo.cast (EvTo.add (EvTo.lsh (by walk_at "my_x") (by walk_at "my_x") (by lia) (by lia)) (by walk_at "my_x")) ?_) (by walk_at "my_x")) ⟨((r * 2 ^ n + x : Nat) : Int), (b : Int), (n : Int), rfl, by lia, ?_, ?_, ?_⟩
          · rw [Int.toNat_natCast]; push_cast; rfl
          · rw [Int.natAbs_natCast]; exact Nat.lt_of_lt_of_le (log2_lt_bits (Nat.le_of_eq hn) hb) (by lia)
          · have := intBits_le hv
            lia
          · rw [fdivN, fmodN]
        · walk_at "my_x"
        · exact fun _ => rfl
        · exact fun _ => rfl
      apply ExTo.step
      · apply Step.append
        · walk_at "my_x"
        · walk_at "my_x"
        · walk_at "my_x"
        · rfl
        · walk_at "my_x"
        · have : lid = 1048576 := rfl
          have h9 : (List.drop (l.length - i) l).length ≤ l.length := by rw [List.length_drop]; lia
          simp only [List.length_map, List.length_reverse]
          lia
      exact ExTo.nil ⟨by walk_at "my_x", trivial⟩
    · intro _
      rw [List.length_reverse, Nat.sub_self, List.drop_zero]
      have hdv := dq_div (n := n) hb l
      rw [hund] at hdv
      have hlen := dq_len n b l
      have hqz := dq_lt (n := n) hb l hlz
      rw [← hdv.1, ← hdv.2]
      apply ExTo.step
      · apply Step.reverse
        · walk_at "my_x"
        · rfl
        · walk_at "my_x"
      rw [← List.map_reverse, List.reverse_reverse]
      apply ExTo.freeze (x := "q_digits")
      · walk_at "my_x"
      · walk_at "my_x"
      apply ExTo.step
      · apply Step.assign (d := .int ((undig n (dq n b l).1 : Nat) : Int))
        · exact EvTo.user Fd (by decide +kernel) (by lia) (by walk_at "my_x") ⟨n, (dq n b l).1, rfl, hqz, by have : lid = 1048576 := rfl; lia, by rw [hlen, hll]; lia, rfl⟩
        · walk_at "my_x"
        · walk_at "my_x"
        · exact fun _ => rfl
      refine ExTo.ret (d := .tuple [.int ((undig n (dq n b l).1 : Nat) : Int), .int (((dq n b l).2 : Nat) : Int)]) (by walk_at "my_x") (.inl rfl)
end
/-! ## int_divmod -/
noncomputable def big : Nat := 2 ^ 1990
theorem big_bits {x : Int} (h : x.natAbs < big) : Builtin.Int.intBits x ≤ 2000 := by
  unfold big at h
  unfold Builtin.Int.intBits
  split
  · lia
  · rename_i h0
    have h0 : x.natAbs ≠ 0 := by simpa using h0
    have := (Nat.log2_lt h0).mpr h
    lia
theorem bitNot_eq (a : Int) : Builtin.bitNot a = -a - 1 := rfl
theorem fdiv_not {a b : Int} (hb : 0 < b) : Builtin.bitNot ((Builtin.bitNot a).fdiv b) = a.fdiv b ∧ b + Builtin.bitNot ((Builtin.bitNot a).fmod b) = a.fmod b := by
  rw [bitNot_eq, bitNot_eq, bitNot_eq]
  have h1 := Int.mul_fdiv_add_fmod (-a - 1) b
  have h2 := Int.mul_fdiv_add_fmod a b
  have h3 := Int.fmod_nonneg_of_pos (-a - 1) hb
  have h4 := Int.fmod_lt_of_pos (-a - 1) hb
  have h5 := Int.fmod_nonneg_of_pos a hb
  have h6 := Int.fmod_lt_of_pos a hb
  generalize (-a - 1).fdiv b = q at *
  generalize (-a - 1).fmod b = r at *
  generalize a.fdiv b = q' at *
  generalize a.fmod b = r' at *
  have h7 : b * (q' + q + 1) = b - 1 - r - r' := by
    rw [Int.mul_add, Int.mul_add]; lia
  have h8 : q' + q + 1 = 0 := by
    rcases Int.lt_trichotomy (q' + q + 1) 0 with h | h | h
    · exfalso
      have : b * (q' + q + 1) ≤ b * (-1) := Int.mul_le_mul_of_nonneg_left (by lia) (by lia)
      lia
    · exact h
    · exfalso
      have : b * 1 ≤ b * (q' + q + 1) := Int.mul_le_mul_of_nonneg_left (by lia) (by lia)
      lia
  rw [h8] at h7
  lia
theorem fdiv_negs {a b : Int} : (-a).fdiv (-b) = a.fdiv b ∧ -((-a).fmod (-b)) = a.fmod b := by
  constructor
  · exact Int.neg_fdiv_neg a b
  · have h1 := Int.mul_fdiv_add_fmod (-a) (-b)
    have h2 := Int.mul_fdiv_add_fmod a b
    rw [Int.neg_fdiv_neg, Int.neg_mul] at h1
    lia

section
variable {prog : Program} {w : World} {G : Gl prog w} {k : Nat}
noncomputable abbrev idRel : List PyData → PyData → Prop := fun ds d => ∃ a b : Int, ds = [.int a, .int b] ∧ b ≠ 0 ∧ a.natAbs < big ∧ b.natAbs < big ∧ d = .tuple [.int (a.fdiv b), .int (a.fmod b)]

noncomputable def Fnx (G : Gl prog w) (k : Nat) (name : Str) (f : List PyData → PyData → Prop) : Prop := ∃ n, n ≤ k ∧ FnOk G name n f
theorem idm_body (hG : Glo G) (Fm : FnOk G "_divmod_pos" 24 dmRel) {k : Nat} (hk : 24 ≤ k) {a b : Int} (hb : b ≠ 0) (ha : a.natAbs < big) (hbb : b.natAbs < big)
    (F1 : a < 0 → 0 < b → Fnx G k "int_divmod" (fun ds d => ∃ a b : Nat, ds = [.int (a : Int), .int (b : Int)] ∧ 0 < b ∧ (a : Int).natAbs < big ∧ (b : Int).natAbs < big ∧ d = .tuple [.int ((a : Int).fdiv b), .int ((a : Int).fmod b)]))
    (F2 : b < 0 → Fnx G k "int_divmod" (fun ds d => ∃ a b : Int, ds = [.int (a : Int), .int (b : Int)] ∧ 0 < b ∧ a.natAbs < big ∧ b.natAbs < big ∧ d = .tuple [.int (a.fdiv b), .int (a.fmod b)])) :
    ExTo G k (fnScope PP iIdm) [("a", .own (.int a)), ("b", .own (.int b))] (fnBody PP iIdm) (fun o => o = .ret (.tuple [.int (a.fdiv b), .int (a.fmod b)])) := by
  apply ExTo.ite (b := false) (P1 := fun o => o = .ret (.tuple [.int (a.fdiv b), .int (a.fmod b)]))
  · exact TrTo.cast (by walk_at "my_x") (by simp [hb])
  · intro h; cases h
  · intro _
    apply ExTo.ite (b := decide (b < 0)) (P1 := fun o => o = .ret (.tuple [.int (a.fdiv b), .int (a.fmod b)]))
    · walk_at "my_x"
    · intro h
      have h : b < 0 := of_decide_eq_true h
      obtain ⟨n, hn, F⟩ := F2 h
      apply ExTo.step
      · apply Step.assignT (xs := [.int ((-a).fdiv (-b)), .int ((-a).fmod (-b))])
        · exact EvTo.user F (by decide +kernel) hn (by walk_at "my_x") ⟨-a, -b, rfl, by lia, by lia, by lia, rfl⟩
        · walk_at "my_x"
        · exact fun _ => rfl
        · exact fun _ => rfl
      · refine ExTo.ret (EvTo.cast (by walk_at "my_x") ?_) rfl
        rw [fdiv_negs.1, fdiv_negs.2]
    · intro h
      have h : ¬ b < 0 := of_decide_eq_false h
      apply ExTo.ite (b := decide (a < 0)) (P1 := fun o => o = .ret (.tuple [.int (a.fdiv b), .int (a.fmod b)]))
      · walk_at "my_x"
      · intro h2
        have h2 : a < 0 := of_decide_eq_true h2
        obtain ⟨n, hn, F⟩ := F1 h2 (by lia)
        obtain ⟨m, hm⟩ : ∃ m : Nat, Builtin.bitNot a = (m : Int) := ⟨(-a - 1).toNat, by rw [bitNot_eq]; lia⟩
        obtain ⟨c, rfl⟩ : ∃ c : Nat, b = (c : Int) := ⟨b.toNat, by lia⟩
        have hm2 : -a - 1 = (m : Int) := by rw [← hm, bitNot_eq]
        have e := fdiv_not (a := a) (b := (c : Int)) (by lia)
        rw [hm] at e
        apply ExTo.step
        · apply Step.assignT (xs := [.int ((m : Int).fdiv (c : Int)), .int ((m : Int).fmod (c : Int))])
          · exact EvTo.user F (by decide +kernel) hn (.cons (fun _ _ => rfl) (EvTo.cast (by walk_at "my_x") (by rw [hm])) (by walk_at "my_x")) ⟨m, c, rfl, by lia, by lia, by lia, rfl⟩
          · walk_at "my_x"
          · exact fun _ => rfl
          · exact fun _ => rfl
        · refine ExTo.ret (EvTo.cast (by walk_at "my_x") ?_) rfl
          rw [e.1, e.2]
      · intro h2
        have h2 : ¬ a < 0 := of_decide_eq_false h2
        obtain ⟨m, rfl⟩ : ∃ m : Nat, a = (m : Int) := ⟨a.toNat, by lia⟩
        obtain ⟨c, rfl⟩ : ∃ c : Nat, b = (c : Int) := ⟨b.toNat, by lia⟩
        refine ExTo.ret (d := .tuple [.int ((m : Int).fdiv c), .int ((m : Int).fmod c)]) (EvTo.user Fm (by decide +kernel) hk (by walk_at "my_x") ⟨m, c, rfl, by lia, big_bits ha, big_bits hbb, by rw [fdivN, fmodN]⟩) rfl
      · intro ρ' h; cases h
      · intro d h; exact h
    · intro ρ' h; cases h
    · intro d h; exact h
  · intro ρ' h; cases h
  · intro d h; exact h

theorem idm_fn (hG : Glo G) (hD : DefAt G "int_divmod" (fnPars PP iIdm) (fnBody PP iIdm) (fnScope PP iIdm)) (Fm : FnOk G "_divmod_pos" 24 dmRel) : FnOk G "int_divmod" 27 idRel := by
  have F1 : FnOk G "int_divmod" 25 (fun ds d => ∃ a b : Nat, ds = [.int (a : Int), .int (b : Int)] ∧ 0 < b ∧ (a : Int).natAbs < big ∧ (b : Int).natAbs < big ∧ d = .tuple [.int ((a : Int).fdiv b), .int ((a : Int).fmod b)]) := by
    refine FnOk.of (k := 24) (ps := ["a", "b"]) hD (by decide +kernel) (fun pm c doc vs hl => ?_) fun ds d h => ?_
    · obtain ⟨a, b, rfl⟩ := two_vs hl; rfl
    · obtain ⟨a, b, rfl, hb, ha, hbb, rfl⟩ := h
      exact ⟨rfl, (idm_body hG Fm (Nat.le_refl _) (by lia) ha hbb (fun h => by lia) (fun h => by lia)).mono fun o h => .inl h⟩
  have F2 : FnOk G "int_divmod" 26 (fun ds d => ∃ a b : Int, ds = [.int (a : Int), .int (b : Int)] ∧ 0 < b ∧ a.natAbs < big ∧ b.natAbs < big ∧ d = .tuple [.int (a.fdiv b), .int (a.fmod b)]) := by
    refine FnOk.of (k := 25) (ps := ["a", "b"]) hD (by decide +kernel) (fun pm c doc vs hl => ?_) fun ds d h => ?_
    · obtain ⟨a, b, rfl⟩ := two_vs hl; rfl
    · obtain ⟨a, b, rfl, hb, ha, hbb, rfl⟩ := h
      exact ⟨rfl, (idm_body hG Fm (by lia) (by lia) ha hbb (fun h _ => ⟨25, by lia, F1⟩) (fun h => by lia)).mono fun o h => .inl h⟩
  refine FnOk.of (k := 26) (ps := ["a", "b"]) hD (by decide +kernel) (fun pm c doc vs hl => ?_) fun ds d h => ?_
  · obtain ⟨a, b, rfl⟩ := two_vs hl; rfl
  · obtain ⟨a, b, rfl, hb, ha, hbb, rfl⟩ := h
    exact ⟨rfl, (idm_body hG Fm (by lia) hb ha hbb (fun h _ => ⟨25, by lia, F1⟩) (fun h => ⟨26, by lia, F2⟩)).mono fun o h => .inl h⟩
end
/-! ## in_table_b1, map_table_b3 -/
noncomputable def b3of (T : List (Int × Str)) (c : Nat) : Str := match getT T c with | some y => y | none => Txt.lower ⟨#[c]⟩
section
variable {prog : Program} {w : World} {G : Gl prog w} {k : Nat}
/-- the set of table B.1 -/
noncomputable def SetAt (G : Gl prog w) (S : Int → Bool) : Prop := ∃ a n, G.mg "b1_set" = some (.ref a) ∧ G.hB.SetOf (intKind prog w) a S n
noncomputable abbrev b1Rel (S : Int → Bool) : List PyData → PyData → Prop := fun ds d => ∃ c : Nat, ds = [.str ⟨#[c]⟩] ∧ d = .bool (S c)
noncomputable abbrev b3Rel (T : List (Int × Str)) : List PyData → PyData → Prop := fun ds d => ∃ c : Nat, ds = [.str ⟨#[c]⟩] ∧ tooLong (Txt.lower ⟨#[c]⟩).length = false ∧ d = .str (b3of T c)
theorem b1_fn (hG : Glo G) {S : Int → Bool} (hS : SetAt G S) (hD : DefAt G "in_table_b1" (fnPars PP iB1) (fnBody PP iB1) (fnScope PP iB1)) : FnOk G "in_table_b1" 1 (b1Rel S) := by
  refine FnOk.of (k := 0) (ps := ["code"]) hD (by decide +kernel) (fun pm c doc vs hl => ?_) fun ds d h => ?_
  · obtain ⟨a, rfl⟩ := one_vs hl; rfl
  · obtain ⟨c, rfl, rfl⟩ := h
    refine ⟨rfl, ?_⟩
    walk_at "my_args"
    obtain ⟨a, n, hm, hS⟩ := hS
    refine ExTo.ret (d := .bool (S c)) (EvTo.inSet (i := c) (by decide +kernel) hm hS (EvTo.ord (by decide +kernel) (Glo.ord hG).1 (Glo.ord hG).2 (by walk_at "my_x") (by walk_at "my_x"))) (.inl rfl)

theorem b3_fn (hG : Glo G) {T : List (Int × Str)} (hT : TabAt G "b3_exceptions" T) (hD : DefAt G "map_table_b3" (fnPars PP iB3) (fnBody PP iB3) (fnScope PP iB3)) : FnOk G "map_table_b3" 1 (b3Rel T) := by
  refine FnOk.of (k := 0) (ps := ["code"]) hD (by decide +kernel) (fun pm c doc vs hl => ?_) fun ds d h => ?_
  · obtain ⟨a, rfl⟩ := one_vs hl; rfl
  · obtain ⟨c, rfl, hf, rfl⟩ := h
    refine ⟨rfl, ?_⟩
    walk_at "my_args"
    apply ExTo.step
    · apply Step.assign (d := optS (getT T c))
      · exact EvTo.tabGet (by decide +kernel) hT (EvTo.ord (by decide +kernel) (Glo.ord hG).1 (Glo.ord hG).2 (by walk_at "my_x") (by walk_at "my_x")) (by walk_at "my_x") (fun _ => rfl) rfl
      · walk_at "my_x"
      · walk_at "my_x"
      · exact fun _ => rfl
    unfold b3of
    cases getT T c with
    | none =>
      simp only [optS]
      apply ExTo.ite (b := false) (P1 := fun o => o = .next [("code", .own (.str ⟨#[c]⟩)), ("r", .own .none)])
      · exact TrTo.cast (TrTo.cmp (a := .none) (by walk_at "my_x") EvTo.noneC (CmpOk.isnNone (.inr rfl)) rfl) rfl
      · intro h; cases h
      · intro _; exact ExTo.nil rfl
      · intro ρ' h
        cases h
        refine ExTo.ret (d := .str (Txt.lower ⟨#[c]⟩)) (EvTo.lower (by walk_at "my_x") (fun _ => rfl) rfl hf) (.inl rfl)
      · intro d h; cases h
    | some y =>
      simp only [optS]
      apply ExTo.ite (b := true) (P1 := fun o => o = .ret (.str y))
      · exact TrTo.cast (TrTo.cmp (a := .str y) (by walk_at "my_x") EvTo.noneC (CmpOk.isnNone (.inl ⟨_, rfl⟩)) rfl) rfl
      · intro _; exact ExTo.ret (by walk_at "my_x") rfl
      · intro h; cases h
      · intro ρ' h; cases h
      · intro d h; exact .inl h
end
noncomputable abbrev iUn : Nat := 17
noncomputable abbrev iSt : Nat := 18
noncomputable abbrev iFo : Nat := 19
noncomputable abbrev iWa : Nat := 20
noncomputable abbrev iWy : Nat := 21
noncomputable abbrev iHa : Nat := 22
noncomputable abbrev iLaw : Nat := 23
/-! ## _law_unseen -/
noncomputable def unsL : List Nat := [173, 847, 6150, 6155, 6156, 6157, 8203, 8204, 8205, 8288, 65279, 65024, 65025, 65026, 65027, 65028, 65029, 65030, 65031, 65032, 65033, 65034, 65035, 65036, 65037, 65038, 65039]
noncomputable def unsS : Str := ⟨unsL.toArray⟩
noncomputable abbrev one (c : Nat) : Str := ⟨#[c]⟩
section
variable {prog : Program} {w : World} {G : Gl prog w} {k : Nat}
theorem un_fn (hG : Glo G) (hD : DefAt G "_law_unseen" (fnPars PP iUn) (fnBody PP iUn) (fnScope PP iUn)) : FnOk G "_law_unseen" 1 (fun ds d => ds = [] ∧ d = .str unsS) := by
  refine FnOk.of (k := 0) (ps := []) hD (by decide +kernel) (fun pm c doc vs hl => ?_) fun ds d h => ?_
  · obtain rfl : vs = [] := List.length_eq_zero_iff.mp hl
    rfl
  · obtain ⟨rfl, rfl⟩ := h
    refine ⟨rfl, ?_⟩
    walk_at "b_open"
    walk_at "s_asg"
    have hj : Txt.join ("" : Str) (unsL.map one) = unsS := by decide +kernel
    have hl : unsL.length ≤ lid := by decide +kernel
    have hc : (([.int 173, .int 847, .int 6150, .int 6155, .int 6156, .int 6157, .int 8203, .int 8204, .int 8205, .int 8288, .int 65279] : List PyData) ++ (rangeL 65024 65040 1).map PyData.int) = unsL.map fun c : Nat => PyData.int (c : Int) := by
      have : rangeL 65024 65040 1 = [65024, 65025, 65026, 65027, 65028, 65029, 65030, 65031, 65032, 65033, 65034, 65035, 65036, 65037, 65038, 65039] := by decide +kernel
      rw [this]; rfl
    rw [← hj]
    refine' ExTo.ret (d := .str (Txt.join ("" : Str) (unsL.map one))) ?_ ?_
    · refine' EvTo.join (ts := unsL.map one) ?_ ?_ ?_ ?_ ?_ ?_
      · walk_at "my_x"
      · exact fun _ => rfl
      · rw [List.map_map]
        refine' EvTo.cmpN (f := fun c : Nat => .int (c : Int)) (ρc := []) ?_ ?_ ?_ ?_ ?_ ?_ ?_ ?_
        · decide +kernel
        · walk_at "my_x"
        · rw [← hc]
          refine' ItTo.list (EvTo.catL (EvL.of ?_) (EvL.of ?_) ?_)
          · walk_at "my_x"
          · refine' EvTo.listRange ?_ ?_ ?_ ?_ ?_ ?_ ?_ ?_ ?_ ?_ ?_ ?_
            · decide +kernel
            · exact (Glo.list hG).1
            · exact (Glo.list hG).2
            · decide +kernel
            · exact (Glo.range hG).1
            · exact (Glo.range hG).2
            · walk_at "my_x"
            · walk_at "my_x"
            · walk_at "my_x"
            · walk_at "my_x"
            · decide +kernel
            · decide +kernel
          · decide +kernel
        · exact fun _ _ => rfl
        · walk_at "my_x"
        · walk_at "my_x"
        · intro c hc
          have hle : c ≤ 1114111 := (by decide +kernel : ∀ c ∈ unsL, c ≤ 1114111) c hc
          exact EvTo.cast (EvTo.chr (by decide +kernel) (Glo.chr hG).1 (Glo.chr hG).2 (i := (c : Int)) (by walk_at "my_x") (by walk_at "my_x") (by lia) (by lia)) (by rw [Int.toNat_natCast]; rfl)
        · exact hl
      · walk_at "my_x"
      · rfl
      · decide +kernel
    · exact .inl rfl
end
/-! ## _law_stock -/
noncomputable def rowsL : List Nat := [97, 65, 119808, 119860, 119912, 120016, 120172, 120224, 120276, 120328, 120380, 120432]
noncomputable def pairsL : List (Str × List Nat) := [("h", [13259]), ("p", [13274]), ("r", [8360]), ("s", [64261, 64262]), ("t", [8482]), ("m", [13245, 13247]), ("w", [13277]), ("b", [13251])]
noncomputable def pairOf (l : Nat) : List Nat := (getF pairsL (one l)).getD []
noncomputable def codeOf (c3 p j l : Nat) : Nat := rowsL.getD ((c3 + 5 * p + j) % 12) 0 + l - 97
noncomputable def codesAt (n : Nat) (fs : List Nat) (c3 c4 : Nat) (l p : Nat) : List Nat :=
  (List.range (fs.getD p 0)).map (fun j => codeOf c3 p j l) ++ (if p + 1 < n then [(pairOf l).getD (c4 % (pairOf l).length) 0] else [])
noncomputable def pieceOf (c4 p : Nat) (code j : Nat) : Str := (if (c4 / 2 + p + j) % 2 = 1 then one (unsL.getD ((c4 / 2 + p + j) / 2 % 27) 0) else "") ++ one code
noncomputable def piecesAt (n : Nat) (fs : List Nat) (c3 c4 : Nat) (l p : Nat) : List Str := (codesAt n fs c3 c4 l p).zipIdx.map fun x => pieceOf c4 p x.1 x.2
noncomputable def stockL (ls fs : List Nat) (c3 c4 : Nat) : List Str := ls.zipIdx.flatMap fun x => piecesAt ls.length fs c3 c4 x.1 x.2
structure StOk (ls fs : List Nat) : Prop where
  len : fs.length = ls.length
  short : ls.length ≤ 6
  few : ∀ f, f ∈ fs → f ≤ 7
  az : ∀ l, l ∈ ls → 97 ≤ l ∧ l ≤ 122
  pair : ∀ (p l : Nat), ls[p]? = some l → p + 1 < ls.length → pairOf l ≠ []
noncomputable def wordS (ls : List Nat) : Str := ⟨ls.toArray⟩
noncomputable abbrev stRel : List PyData → PyData → Prop := fun ds d => ∃ (ls fs cs : List Nat) (c3 c4 : Nat), ds = [.str (wordS ls), .list (natL fs), .list (natL cs), .str unsS] ∧ StOk ls fs ∧ cs[3]? = some c3 ∧ cs[4]? = some c4 ∧ c3 < 10 ^ 6 ∧ c4 < 10 ^ 6 ∧ d = .list ((stockL ls fs c3 c4).map .str)

theorem rows_lt (i : Nat) (h : i < 12) : ∃ r, rowsL[i]? = some r ∧ rowsL.getD i 0 = r ∧ r ≤ 120432 ∧ 65 ≤ r := by
  have : ∀ i, i < 12 → ∃ r, rowsL[i]? = some r ∧ rowsL.getD i 0 = r ∧ r ≤ 120432 ∧ 65 ≤ r := by
    intro i h
    have hl : i < rowsL.length := h
    refine ⟨rowsL[i], by rw [List.getElem?_eq_getElem hl], by rw [List.getD_eq_getElem?_getD, List.getElem?_eq_getElem hl]; rfl, ?_, ?_⟩
    · exact (by decide +kernel : ∀ r ∈ rowsL, r ≤ 120432) _ (List.getElem_mem hl)
    · exact (by decide +kernel : ∀ r ∈ rowsL, 65 ≤ r) _ (List.getElem_mem hl)
  exact this i h
theorem pairs_some {l : Nat} (h : pairOf l ≠ []) : getF pairsL (one l) = some (pairOf l) ∧ ∀ c ∈ pairOf l, c ≤ 64262 := by
  unfold pairOf at h ⊢
  cases e : getF pairsL (one l) with
  | none => rw [e] at h; exact absurd rfl h
  | some v =>
    refine ⟨rfl, ?_⟩
    have hm : ∃ kv ∈ pairsL, kv.2 = v := by
      unfold getF at e
      cases f : pairsL.find? (fun kv => decide (kv.1 = one l)) with
      | none => rw [f] at e; cases e
      | some kv => rw [f] at e; cases e; exact ⟨kv, List.mem_of_find?_eq_some f, rfl⟩
    obtain ⟨kv, hm, rfl⟩ := hm
    exact (by decide +kernel : ∀ kv ∈ pairsL, ∀ c ∈ kv.2, c ≤ 64262) kv hm
theorem pieces_len (n : Nat) (fs : List Nat) (c3 c4 l p : Nat) (h : fs.getD p 0 ≤ 7) : (piecesAt n fs c3 c4 l p).length ≤ 8 := by
  rw [List.getD_eq_getElem?_getD] at h
  unfold piecesAt codesAt
  simp only [List.length_map, List.length_zipIdx, List.length_append, List.length_range]
  rw [List.getD_eq_getElem?_getD]
  split <;> simp <;> lia
theorem flat_take_succ {α β : Type} (g : α → List β) (xs : List α) (i : Nat) (x : α) (h : xs[i]? = some x) : (xs.take (i + 1)).flatMap g = (xs.take i).flatMap g ++ g x := by
  have : xs.take (i + 1) = xs.take i ++ [x] := by rw [List.take_add_one, h]; rfl
  rw [this, List.flatMap_append]; simp
theorem flat_take_len {α β : Type} (g : α → List β) (c : Nat) : ∀ (xs : List α), (∀ x ∈ xs, (g x).length ≤ c) → (xs.flatMap g).length ≤ c * xs.length
  | [], _ => by simp
  | x :: xs, h => by
    have h1 := h x List.mem_cons_self
    have h2 := flat_take_len g c xs fun y hy => h y (List.mem_cons_of_mem _ hy)
    simp only [List.flatMap_cons, List.length_append, List.length_cons, Nat.mul_add]
    lia

section
variable {prog : Program} {w : World} {G : Gl prog w} {k : Nat}

theorem getF_map {α β : Type} (g : α → β) (x : Str) : ∀ F : List (Str × α), getF (F.map fun y => (y.1, g y.2)) x = (getF F x).map g
  | [] => rfl
  | (y, d) :: F => by
    have ih := getF_map g x F
    unfold getF at ih ⊢
    by_cases h : y = x
    · simp [h]
    · rw [List.map_cons, List.find?_cons_of_neg (by simpa using h), List.find?_cons_of_neg (by simpa using h)]
      exact ih
theorem uns_item (i : Nat) (h : i < 27) : Txt.item unsS (i : Int) = one (unsL.getD i 0) ∧ (Txt.charAt unsS (i : Int)).isSome = true := by
  have : ∀ i : Nat, i < 27 → Txt.item unsS (i : Int) = one (unsL.getD i 0) ∧ (Txt.charAt unsS (i : Int)).isSome = true := by decide +kernel
  exact this i h
theorem small_mul {a b : Nat} (ha : a < 2 ^ 60) (hb : b < 2 ^ 60) : IntMulOk (a : Int) (b : Int) := IntMulOk.of_bits (Nat.le_trans (intBits_le ha) (by decide)) (Nat.le_trans (intBits_le hb) (by decide))

theorem wordS_len (ls : List Nat) : (wordS ls).length = ls.length := by simp [wordS, Str.length]
theorem wordS_signs (ls : List Nat) : signs (wordS ls) = ls.map fun c => .str (one c) := by simp [signs, wordS]

noncomputable abbrev stEnv (ls fs cs : List Nat) (done : List Str) (more : VEnv) : VEnv := ("word", .own (.str (wordS ls))) :: ("forms", .own (.list (natL fs))) :: ("cells", .own (.list (natL cs))) :: ("unseen", .own (.str unsS)) :: ("rows", .own (.list (natL rowsL))) :: ("pairs", .own (.dict (dk (pairsL.map fun x => (x.1, .list (natL x.2)))))) :: ("stock", .mu (done.map .str)) :: more

theorem st_fn (hG : Glo G) (hD : DefAt G "_law_stock" (fnPars PP iSt) (fnBody PP iSt) (fnScope PP iSt)) : FnOk G "_law_stock" 1 stRel := by
  refine FnOk.of (k := 0) (ps := ["word", "forms", "cells", "unseen"]) hD (by decide +kernel) (fun pm c doc vs hl => ?_) fun ds d h => ?_
  · obtain ⟨a, b, c, d, rfl⟩ := four_vs hl; rfl
  · obtain ⟨ls, fs, cs, c3, c4, rfl, ok, h3, h4, hc3, hc4, rfl⟩ := h
    refine ⟨rfl, ?_⟩
    walk_at "b_open"
    have hlen := ok.len
    have hshort := ok.short
    walk_at "s_step"
    case s1 =>
      with_reducible refine' Step.assign (d := .list (natL rowsL)) ?k1 ?k2 ?k3 ?k4
      case k1 => walk_at "my_evc"
      case k2 => walk_at "my_x"
      case k3 => walk_at "my_x"
      case k4 => exact fun _ => rfl
    walk_at "s_step"
    case s1 =>
      with_reducible refine' Step.assign (d := .dict (dk (pairsL.map fun x => (x.1, .list (natL x.2))))) ?k1 ?k2 ?k3 ?k4
      case k2 => walk_at "my_x"
      case k3 => walk_at "my_x"
      case k4 => exact fun _ => rfl
      case k1 =>
        with_reducible refine' EvTo.cast (EvTo.dictS ?k1 ?k2 ?k3 ?k4 ?k5) ?k6
        case k1 => walk_at "my_x"
        case k2 => simp
        case k3 => decide
        case k4 => decide +kernel
        case k5 => exact Nat.le_of_ble_eq_true rfl
        case k6 => rfl
    walk_at "s_step"
    case s1 =>
      with_reducible refine' Step.assignIt (b := .mu (([] : List Str).map .str)) ?k1 ?k2 ?k3 ?k4
      case k1 => exact EvIt.list (ds := []) .nil (by decide)
      case k2 => walk_at "my_x"
      case k3 => walk_at "my_x"
      case k4 => exact fun _ => rfl
    have hzip : ∀ (i : Nat) (x : Nat × Nat), ls.zipIdx[i]? = some x → x.2 = i ∧ ls[i]? = some x.1 := fun i x hx => by
      rw [List.getElem?_zipIdx] at hx
      cases h : ls[i]? with
      | none => rw [h] at hx; cases hx
      | some l => rw [h] at hx; simp at hx; exact ⟨by rw [← hx], by rw [← hx]⟩
    have hfs : ∀ p, p < ls.length → fs[p]? = some (fs.getD p 0) ∧ fs.getD p 0 ≤ 7 := fun p hp => by
      have hp' : p < fs.length := by lia
      rw [List.getD_eq_getElem?_getD, List.getElem?_eq_getElem hp']
      exact ⟨rfl, ok.few _ (List.getElem_mem hp')⟩
    with_reducible refine' ExTo.for (α := Nat × Nat) (f := fun x => .tuple [.int (x.2 : Int), .str (one x.1)]) (xs := ls.zipIdx) (Iv := fun _ => True)
                        (R := fun i => stEnv ls fs cs ((ls.zipIdx.take i).flatMap fun x => piecesAt ls.length fs c3 c4 x.1 x.2) [])
                        (ρb := fun i x => stEnv ls fs cs ((ls.zipIdx.take i).flatMap fun x => piecesAt ls.length fs c3 c4 x.1 x.2) [("place", .own (.int (x.2 : Int))), ("letter", .own (.str (one x.1)))])
                        ?l1 ?l2 ?l3 trivial ?l5 ?l6 ?l7
    case l1 =>
      rw [show (ls.zipIdx.map fun x => PyData.tuple [.int (x.2 : Int), .str (one x.1)]) = enumD 0 (signs (wordS ls)) by rw [wordS_signs, enumD_map]]
      with_reducible refine' ItTo.enumS ?k1 ?k2 ?k3 ?k4 ?k5
      case k1 => decide +kernel
      case k2 => exact (Glo.enumerate hG).1
      case k3 => exact (Glo.enumerate hG).2
      case k4 => walk_at "my_x"
      case k5 => walk_at "my_x"
    case l2 => exact fun _ _ => rfl
    case l3 => exact Wkn.refl _
    case l5 =>
      intro i x hx _
      walk_at "my_x"
    case l7 =>
      intro _
      rw [List.take_length]
      with_reducible refine' ExTo.retMu ?k1 ?k2
      case k1 => walk_at "my_x"
      case k2 => exact .inl rfl
    case l6 =>
      rintro i ⟨l, p⟩ hx -
      obtain ⟨rfl, hl⟩ := hzip i _ hx
      dsimp only at hl ⊢
      have hp : p < ls.length := (List.getElem?_eq_some_iff.mp hl).1
      have haz := ok.az l (List.mem_of_getElem? hl)
      obtain ⟨hf, hf7⟩ := hfs p hp
      rw [flat_take_succ _ _ _ _ hx]
      have hdl : ((ls.zipIdx.take p).flatMap fun x => piecesAt ls.length fs c3 c4 x.1 x.2).length ≤ 8 * 6 := by
        refine Nat.le_trans (flat_take_len _ 8 _ fun x hx' => ?_) (by simp; lia)
        obtain ⟨j, hj⟩ := List.getElem?_of_mem (List.mem_of_mem_take hx')
        obtain ⟨e, hl'⟩ := hzip j x hj
        exact pieces_len _ _ _ _ _ _ (hfs _ (e ▸ (List.getElem?_eq_some_iff.mp hl').1)).2
      generalize ((ls.zipIdx.take p).flatMap fun x => piecesAt ls.length fs c3 c4 x.1 x.2) = done at *
      have hrow : ∀ i : Nat, rowsL[i % 12]? = some (rowsL.getD (i % 12) 0) ∧ rowsL.getD (i % 12) 0 ≤ 120432 ∧ 65 ≤ rowsL.getD (i % 12) 0 := fun i => by
        obtain ⟨r, h1, h2, h3, h4⟩ := rows_lt (i % 12) (Nat.mod_lt _ (by decide))
        rw [h2]; exact ⟨h1, h3, h4⟩
      -- codes
      walk_at "s_step"
      case s1 =>
        with_reducible refine' Step.cmpNMu (f := fun j : Nat => .int (j : Int)) (g := fun j : Nat => .int (codeOf c3 p j l : Nat)) (xs := List.range (fs.getD p 0)) ?k1 ?k2 ?k3 ?k4 ?k5 ?k6 ?k7 ?k8 ?k9 ?k10
        case k1 => decide +kernel
        case k2 => walk_at "my_x"
        case k3 =>
          with_reducible refine' ItTo.rangeN ?m1 ?m2 ?m3 ?m4 ?m5 ?m6
          case m1 => decide +kernel
          case m2 => exact (Glo.range hG).1
          case m3 => exact (Glo.range hG).2
          case m4 =>
            with_reducible refine' EvTo.itemNat ?n1 ?n2 ?n3 ?n4
            case n1 => walk_at "my_x"
            case n2 => walk_at "my_nat"
            case n3 => exact hf
            case n4 => exact fun _ _ => rfl
          case m5 => walk_at "my_x"
          case m6 => lia
        case k4 => exact fun _ _ => rfl
        case k5 => walk_at "my_x"
        case k6 => walk_at "my_x"
        case k7 =>
          intro j hj
          have hj : j < 7 := by have := List.mem_range.mp hj; lia
          obtain ⟨r1, r2, r3⟩ := hrow (c3 + 5 * p + j)
          show EvTo _ _ _ _ _ (.int ((rowsL.getD ((c3 + 5 * p + j) % 12) 0 + l - 97 : Nat) : Int))
          with_reducible refine' EvTo.subN (EvTo.addN (EvTo.itemNat ?m1 ?m2 r1 ?m4) ?m5) ?m6 ?m7
          case m1 => walk_at "my_x"
          case m2 =>
            with_reducible refine' EvTo.modN (EvTo.addN (EvTo.addN (EvTo.itemNat ?n1 ?n2 h3 ?n4) (EvTo.mulN ?n5 ?n6 ?n7)) ?n8) ?n9 ?n10
            case n1 => walk_at "my_x"
            case n2 => walk_at "my_nat"
            case n4 => exact fun _ _ => rfl
            case n5 => walk_at "my_nat"
            case n6 => walk_at "my_nat"
            case n7 => exact small_mul (by lia) (by lia)
            case n8 => walk_at "my_nat"
            case n9 => walk_at "my_nat"
            case n10 => decide
          case m4 => exact fun _ _ => rfl
          case m5 => walk_at "my_nat"
          case m6 => walk_at "my_nat"
          case m7 => lia
        case k8 => simp only [List.length_range]; have : lid = 1048576 := rfl; lia
        case k9 => walk_at "my_x"
        case k10 => walk_at "my_x"
      -- the sign for two letters
      have hcodes : ((List.range (fs.getD p 0)).map fun j : Nat => PyData.int (codeOf c3 p j l : Nat)) = natL ((List.range (fs.getD p 0)).map fun j => codeOf c3 p j l) := by unfold natL; rw [List.map_map]; rfl
      rw [hcodes]
      with_reducible refine' ExTo.ite (b := decide (((p + 1 : Nat) : Int) < ((wordS ls).length : Int))) (P1 := fun o => o = .next (stEnv ls fs cs done [("place", .own (.int (p : Int))), ("letter", .own (.str (one l))), ("codes", .mu (natL (codesAt ls.length fs c3 c4 l p)))])) ?i1 ?i2 ?i3 ?i4 ?i5
      case i1 =>
        with_reducible refine' TrTo.cmp ?m1 ?m2 ?m3 ?m4
        case m1 => walk_at "my_nat"
        case m2 =>
          with_reducible refine' EvTo.lenS ?n1 ?n2 ?n3 ?n4 ?n5 ?n6
          case n1 => decide +kernel
          case n2 => exact (Glo.len hG).1
          case n3 => exact (Glo.len hG).2
          case n4 => walk_at "my_x"
          case n5 => walk_at "my_x"
          case n6 => rw [wordS_len]; lia
        case m3 => walk_at "my_x"
        case m4 => rfl
      case i2 =>
        intro hb
        have hlt : p + 1 < ls.length := by have := of_decide_eq_true hb; rw [wordS_len] at this; lia
        have hpo := ok.pair p l hl hlt
        obtain ⟨hg, hcs⟩ := pairs_some hpo
        have hpl : 0 < (pairOf l).length := List.length_pos_iff.mpr hpo
        have hget : getF (pairsL.map fun x => (x.1, PyData.list (natL x.2))) (one l) = some (.list (natL (pairOf l))) := by rw [getF_map (fun z => PyData.list (natL z)), hg]; rfl
        walk_at "s_step"
        case s1 =>
          with_reducible refine' Step.append (d := .int (((pairOf l).getD (c4 % (pairOf l).length) 0 : Nat) : Int)) ?m1 ?m2 ?m3 ?m4 ?m5 ?m6
          case m1 => walk_at "my_x"
          case m2 =>
            with_reducible refine' EvTo.itemNat (n := c4 % (natL (pairOf l)).length) (EvL.of (EvTo.key ?n1 ?n2 hget ?n4 ?n5)) (EvTo.modN (EvTo.itemNat ?n6 ?n7 h4 ?n8) (EvTo.lenL ?o1 ?o2 ?o3 (EvL.of (EvTo.key ?o4 ?o5 hget ?o6 ?o7)) ?o8) ?n9) ?n10 ?n11
            case n1 => walk_at "my_x"
            case n2 => walk_at "my_x"
            case n4 => exact fun _ _ => rfl
            case n5 => exact fun _ _ => rfl
            case n6 => walk_at "my_x"
            case n7 => walk_at "my_nat"
            case n8 => exact fun _ _ => rfl
            case o1 => decide +kernel
            case o2 => exact (Glo.len hG).1
            case o3 => exact (Glo.len hG).2
            case o4 => walk_at "my_x"
            case o5 => walk_at "my_x"
            case o6 => exact fun _ _ => rfl
            case o7 => exact fun _ _ => rfl
            case o8 => walk_at "my_x"
            case n9 => simp only [natL, List.length_map]; lia
            case n10 =>
              simp only [natL, List.length_map]
              have hm := Nat.mod_lt c4 hpl
              rw [List.getD_eq_getElem?_getD, List.getElem?_eq_getElem hm]; rfl
            case n11 => exact fun _ _ => rfl
          case m3 => walk_at "my_x"
          case m4 => rfl
          case m5 => walk_at "my_x"
          case m6 => simp only [natL, List.length_map, List.length_range]; have : lid = 1048576 := rfl; lia
        case s2 =>
          refine' ExTo.nil ?_
          unfold codesAt
          rw [if_pos hlt]
          simp only [natL, List.map_append]
          rfl
      case i3 =>
        intro hb
        have hlt : ¬ p + 1 < ls.length := by have := of_decide_eq_false hb; rw [wordS_len] at this; lia
        refine' ExTo.nil ?_
        unfold codesAt
        rw [if_neg hlt, List.append_nil]
      case i5 => intro d h; cases h
      case i4 =>
        intro ρ' h
        cases h
        have hcl : (codesAt ls.length fs c3 c4 l p).length ≤ 8 := by
          have := pieces_len ls.length fs c3 c4 l p hf7
          unfold piecesAt at this
          simpa using this
        have hcc : ∀ c ∈ codesAt ls.length fs c3 c4 l p, c ≤ 1114111 := by
          intro c hc
          unfold codesAt at hc
          rcases List.mem_append.mp hc with hc | hc
          · obtain ⟨j, _, rfl⟩ := List.mem_map.mp hc
            obtain ⟨_, r2, r3⟩ := hrow (c3 + 5 * p + j)
            unfold codeOf
            lia
          · split at hc
            · rename_i hlt
              have hpo := ok.pair p l hl hlt
              obtain ⟨_, hcs⟩ := pairs_some hpo
              have hm := Nat.mod_lt c4 (List.length_pos_iff.mpr hpo)
              simp only [List.mem_singleton] at hc
              rw [hc, List.getD_eq_getElem?_getD, List.getElem?_eq_getElem hm]
              have := hcs _ (List.getElem_mem hm)
              simp only [Option.getD_some]
              lia
            · cases hc
        unfold piecesAt
        generalize codesAt ls.length fs c3 c4 l p = cds at *
        with_reducible refine' ExTo.freeze (x := "codes") (ds := natL cds) ?m1 ?m2 ?m3
        case m1 => walk_at "my_x"
        case m2 => walk_at "my_x"
        case m3 =>
          have hz2 : ∀ (i : Nat) (x : Nat × Nat), cds.zipIdx[i]? = some x → x.2 = i ∧ cds[i]? = some x.1 := fun i x hx => by
            rw [List.getElem?_zipIdx] at hx
            cases h : cds[i]? with
            | none => rw [h] at hx; cases hx
            | some l => rw [h] at hx; simp at hx; exact ⟨by rw [← hx], by rw [← hx]⟩
          with_reducible refine' ExTo.for (α := Nat × Nat) (f := fun x => .tuple [.int (x.2 : Int), .int (x.1 : Int)]) (xs := cds.zipIdx) (Iv := fun _ => True)
                                  (R := fun j => stEnv ls fs cs (done ++ (cds.zipIdx.take j).map fun x => pieceOf c4 p x.1 x.2) [("place", .own (.int (p : Int))), ("letter", .own (.str (one l))), ("codes", .own (.list (natL cds)))])
                                  (ρb := fun j x => stEnv ls fs cs (done ++ (cds.zipIdx.take j).map fun x => pieceOf c4 p x.1 x.2) [("place", .own (.int (p : Int))), ("letter", .own (.str (one l))), ("codes", .own (.list (natL cds))), ("k", .own (.int (x.2 : Int))), ("code", .own (.int (x.1 : Int)))])
                                  ?l1 ?l2 ?l3 trivial ?l5 ?l6 ?l7
          case l1 =>
            rw [show (cds.zipIdx.map fun x => PyData.tuple [.int (x.2 : Int), .int (x.1 : Int)]) = enumD 0 (natL cds) by unfold natL; rw [enumD_map]]
            walk_at "my_x"
          case l2 => exact fun _ _ => rfl
          case l3 =>
            rw [List.take_zero, List.map_nil, List.append_nil]
            exact Wkn.refl _
          case l5 => intro i x hx _; walk_at "my_x"
          case l7 =>
            intro _
            rw [List.take_length]
            exact ExTo.nil ⟨by walk_at "my_x", trivial⟩
          case l6 =>
            rintro j ⟨c, q⟩ hx2 -
            obtain ⟨rfl, hc⟩ := hz2 j _ hx2
            dsimp only at hc ⊢
            have hcle := hcc c (List.mem_of_getElem? hc)
            have hql : q < 8 := Nat.lt_of_lt_of_le (List.getElem?_eq_some_iff.mp hc).1 hcl
            rw [show (cds.zipIdx.take (q + 1)) = cds.zipIdx.take q ++ [(c, q)] by rw [List.take_add_one, hx2]; rfl, List.map_append, List.map_cons, List.map_nil, ← List.append_assoc]
            walk_at "s_step"
            case s1 =>
              with_reducible refine' Step.assign (d := .int ((c4 / 2 + p + q : Nat) : Int)) ?m1 ?m2 ?m3 ?m4
              case m1 =>
                with_reducible refine' EvTo.addN (EvTo.addN (EvTo.divN (EvTo.itemNat ?n1 ?n2 h4 ?n3) ?n4 ?n5 ?n6) ?n7) ?n8
                case n1 => walk_at "my_x"
                case n2 => walk_at "my_nat"
                case n3 => exact fun _ _ => rfl
                case n4 => walk_at "my_nat"
                case n5 => decide
                case n6 => decide +kernel
                case n7 => walk_at "my_nat"
                case n8 => walk_at "my_nat"
              case m2 => walk_at "my_x"
              case m3 => walk_at "my_x"
              case m4 => exact fun _ => rfl
            walk_at "s_step"
            case s1 =>
              with_reducible refine' Step.append (d := .str (pieceOf c4 p c q)) ?m1 ?m2 ?m3 ?m4 ?m5 ?m6
              case m1 => walk_at "my_x"
              case m3 => walk_at "my_x"
              case m4 => rfl
              case m5 => walk_at "my_x"
              case m6 => simp only [List.length_map, List.length_append, List.length_take, List.length_zipIdx]; have : lid = 1048576 := rfl; lia
              case m2 =>
                unfold pieceOf
                generalize hturn : c4 / 2 + p + q = turn
                with_reducible refine' EvTo.cat (EvTo.ite (t := decide (turn % 2 = 1)) ?n1 ?n2 ?n3) ?n4 ?n5
                case n1 =>
                  with_reducible refine' TrTo.cast (TrTo.cmp (EvTo.modN ?o1 ?o2 ?o3) ?o4 CmpOk.eqI ?o5) ?o6
                  case o1 => walk_at "my_nat"
                  case o2 => walk_at "my_nat"
                  case o3 => decide
                  case o4 => walk_at "my_nat"
                  case o5 => rfl
                  case o6 =>
                    have : ((turn % 2 : Nat) : Int) = ((1 : Nat) : Int) ↔ turn % 2 = 1 := by lia
                    rw [Bool.eq_iff_iff, beq_iff_eq, decide_eq_true_iff]
                    exact this
                case n2 =>
                  intro h
                  rw [if_pos (of_decide_eq_true h)]
                  have hu := uns_item (turn / 2 % 27) (Nat.mod_lt _ (by decide))
                  rw [← hu.1]
                  with_reducible refine' EvTo.itemS ?o1 ?o2 ?o3 hu.2 ?o5
                  case o1 => walk_at "my_x"
                  case o2 =>
                    with_reducible refine' EvTo.modN (EvTo.divN ?p1 ?p2 ?p3 ?p4) ?p5 ?p6
                    case p1 => walk_at "my_nat"
                    case p2 => walk_at "my_nat"
                    case p3 => decide
                    case p4 => decide +kernel
                    case p5 => walk_at "my_nat"
                    case p6 => decide
                  case o3 =>
                    have : turn / 2 % 27 < 27 := Nat.mod_lt _ (by decide)
                    unfold fitsSsize
                    simp
                    lia
                  case o5 => exact fun _ _ => rfl
                case n3 =>
                  intro h
                  rw [if_neg (of_decide_eq_false h)]
                  walk_at "my_x"
                case n4 =>
                  with_reducible refine' EvTo.cast (EvTo.chr (i := (c : Int)) ?o1 ?o2 ?o3 ?o4 ?o5 ?o6 ?o7) ?o8
                  case o1 => decide +kernel
                  case o2 => exact (Glo.chr hG).1
                  case o3 => exact (Glo.chr hG).2
                  case o4 => walk_at "my_x"
                  case o5 => walk_at "my_x"
                  case o6 => lia
                  case o7 => lia
                  case o8 => rw [Int.toNat_natCast]
                case n5 =>
                  split
                  · exact Nat.le_trans (show 1 + 1 ≤ 2 by decide) (by decide)
                  · exact Nat.le_trans (show 0 + 1 ≤ 2 by decide) (by decide)
            refine' ExTo.nil ⟨?_, trivial⟩
            simp only [stEnv, List.map_append, List.map_cons, List.map_nil]
            walk_at "my_x"
end
/-! ## _law_folds -/
noncomputable def inU (c : Nat) : Bool := !(occurrences unsS (one c) 0 unsS.length 1).isEmpty
noncomputable def foldParts (T : List (Int × Str)) (p : List Nat) : List Str := (p.filter fun c => !inU c).map (b3of T)
noncomputable def foldOf (T : List (Int × Str)) (p : List Nat) : Str := Txt.join ("" : Str) (foldParts T p)
noncomputable def cntStep (F : List (Str × Nat)) (x : Str) : List (Str × Nat) := put F x ((getF F x).getD 0 + 1)
noncomputable def cnt (xs : List Str) : List (Str × Nat) := xs.foldl cntStep []
noncomputable def asD (F : List (Str × Nat)) : List (Str × PyData) := F.map fun y => (y.1, .int (y.2 : Int))
theorem getF_asD (F : List (Str × Nat)) (x : Str) : getF (asD F) x = (getF F x).map fun n : Nat => .int (n : Int) := getF_map (fun n : Nat => PyData.int (n : Int)) x F
theorem put_asD (F : List (Str × Nat)) (x : Str) (n : Nat) : put (asD F) x (.int (n : Int)) = asD (put F x n) := by
  unfold put asD
  rw [List.any_map]
  have e : ((fun kv : Str × PyData => decide (kv.1 = x)) ∘ fun y : Str × Nat => (y.1, PyData.int (y.2 : Int))) = fun kv : Str × Nat => decide (kv.1 = x) := rfl
  rw [e]
  split
  · rw [List.map_map, List.map_map]
    refine List.map_congr_left fun y _ => ?_
    simp only [Function.comp]
    split <;> rfl
  · rw [List.map_append]; rfl
theorem filt_none {α : Type} (l : List α) : l.filter (fun _ => false) = [] := by induction l <;> simp
theorem cntStep_len (F : List (Str × Nat)) (x : Str) : (cntStep F x).length ≤ F.length + 1 := put_length F x _
theorem cnt_len : ∀ (xs : List Str) (F : List (Str × Nat)), (xs.foldl cntStep F).length ≤ F.length + xs.length
  | [], F => by simp
  | x :: xs, F => by
    have := cnt_len xs (cntStep F x)
    have h2 := cntStep_len F x
    simp only [List.foldl_cons, List.length_cons]
    lia
noncomputable def pieceS (p : List Nat) : Str := ⟨p.toArray⟩
theorem pieceS_signs (p : List Nat) : signs (pieceS p) = p.map fun c => .str (one c) := by simp [signs, pieceS]
structure FoOk (S : Int → Bool) (T : List (Int × Str)) (p : List Nat) : Prop where
  b1 : ∀ c, c ∈ p → S c = inU c
  low : ∀ c, c ∈ p → tooLong (Txt.lower (one c)).length = false
  short : p.length ≤ 10
  join : JoinOk ("" : Str) (foldParts T p) = true
noncomputable abbrev foRel (S : Int → Bool) (T : List (Int × Str)) : List PyData → PyData → Prop := fun ds d => ∃ st : List (List Nat), ds = [.list (st.map fun p => .str (pieceS p)), .str unsS] ∧ (∀ p, p ∈ st → FoOk S T p) ∧ st.length ≤ 1000 ∧ d = .dict (dk (asD (cnt (st.map (foldOf T)))))

section
variable {prog : Program} {w : World} {G : Gl prog w} {k : Nat}
theorem fo_fn (hG : Glo G) {S : Int → Bool} {T : List (Int × Str)} (F1 : FnOk G "in_table_b1" 1 (b1Rel S)) (F3 : FnOk G "map_table_b3" 1 (b3Rel T)) (hD : DefAt G "_law_folds" (fnPars PP iFo) (fnBody PP iFo) (fnScope PP iFo)) : FnOk G "_law_folds" 2 (foRel S T) := by
  refine FnOk.of (k := 1) (ps := ["stock", "unseen"]) hD (by decide +kernel) (fun pm c doc vs hl => ?_) fun ds d h => ?_
  · obtain ⟨a, b, rfl⟩ := two_vs hl; rfl
  · obtain ⟨st, rfl, hst, hlen, rfl⟩ := h
    refine ⟨rfl, ?_⟩
    walk_at "b_open"
    walk_at "s_step"
    case s1 =>
      with_reducible refine' Step.assignIt (b := .mud (dk (asD ([].foldl cntStep [])))) ?m1 ?m2 ?m3 ?m4
      case m1 => exact EvIt.dict0
      case m2 => walk_at "my_x"
      case m3 => walk_at "my_x"
      case m4 => exact fun _ => rfl
    with_reducible refine' ExTo.for (α := List Nat) (f := fun p => .str (pieceS p)) (xs := st) (Iv := fun _ => True)
                              (R := fun i => [("stock", .own (.list (st.map fun p => .str (pieceS p)))), ("unseen", .own (.str unsS)), ("folds", .mud (dk (asD (((st.take i).map (foldOf T)).foldl cntStep []))))])
                              (ρb := fun i p => [("stock", .own (.list (st.map fun p => .str (pieceS p)))), ("unseen", .own (.str unsS)), ("folds", .mud (dk (asD (((st.take i).map (foldOf T)).foldl cntStep [])))), ("piece", .own (.str (pieceS p)))])
                              ?l1 ?l2 ?l3 trivial ?l5 ?l6 ?l7
    case l1 => walk_at "my_x"
    case l2 => exact fun _ _ => rfl
    case l3 => exact Wkn.refl _
    case l5 => intro i x hx _; walk_at "my_x"
    case l7 =>
      intro _
      rw [List.take_length]
      with_reducible refine' ExTo.retMud ?k1 ?k2
      case k1 => walk_at "my_x"
      case k2 => exact .inl rfl
    case l6 =>
      intro i p hx _
      have ok := hst p (List.mem_of_getElem? hx)
      have hi : i < st.length := (List.getElem?_eq_some_iff.mp hx).1
      rw [show (st.take (i + 1)) = st.take i ++ [p] by rw [List.take_add_one, hx]; rfl, List.map_append, List.map_cons, List.map_nil, List.foldl_append, List.foldl_cons, List.foldl_nil]
      have hFl := cnt_len ((st.take i).map (foldOf T)) []
      simp only [List.length_map, List.length_take, List.length_nil] at hFl
      generalize ((st.take i).map (foldOf T)).foldl cntStep [] = F at *
      have hshort := ok.short
      have hpl : p.length ≤ lid := by have : lid = 1048576 := rfl; lia
      have hitp : ∀ {csc : Scope} {t : Expr}, ItTo G 1 (fnScope PP iFo) [("stock", .own (.list (st.map fun p => .str (pieceS p)))), ("unseen", .own (.str unsS)), ("folds", .mud (dk (asD F))), ("piece", .own (.str (pieceS p)))] t false (.Name "piece" default) (p.map fun c => .str (one c)) := by
        intro csc t
        rw [← pieceS_signs]
        walk_at "my_x"
      with_reducible refine' ExTo.ite (b := false) (P1 := fun o => o = .next [("stock", .own (.list (st.map fun p => .str (pieceS p)))), ("unseen", .own (.str unsS)), ("folds", .mud (dk (asD F))), ("piece", .own (.str (pieceS p)))]) ?i1 ?i2 ?i3 ?i4 ?i5
      case i2 => intro h; cases h
      case i3 => intro _; exact ExTo.nil rfl
      case i5 => intro d h; cases h
      case i1 =>
        with_reducible refine' TrTo.cast (TrTo.cmp (a := .list ((p.filter fun _ => false).map fun c => .str (one c))) (b := .list []) ?m1 ?m2 (CmpOk.neD ?m3 ?m4 ?m5) ?m6) ?m7
        case m1 =>
          with_reducible refine' EvTo.cmpIfN (f := fun c => .str (one c)) (g := fun c => .str (one c)) (xs := p) (b := fun _ => false) ?n1 ?n2 ?n3 ?n4 ?n5 ?n6 ?n7 ?n8 ?n9
          case n1 => decide +kernel
          case n2 => walk_at "my_x"
          case n3 => rw [← pieceS_signs]; walk_at "my_x"
          case n4 => exact fun _ _ => rfl
          case n5 => walk_at "my_x"
          case n6 => walk_at "my_x"
          case n7 =>
            intro c hc
            with_reducible refine' TrTo.cast (TrTo.cmp (EvTo.user F1 ?o1 ?o2 ?o3 ⟨c, rfl, rfl⟩) (EvTo.cmp ?o4 ?o5 CmpOk.inS ?o6) CmpOk.isnB ?o7) ?o8
            case o1 => decide +kernel
            case o2 => decide
            case o3 => walk_at "my_x"
            case o4 => walk_at "my_x"
            case o5 => walk_at "my_x"
            case o6 => rfl
            case o7 => rfl
            case o8 =>
              have := ok.b1 c hc
              rw [this]
              unfold inU
              exact bne_self_eq_false' _
          case n8 => intro c _ h; cases h
          case n9 => exact hpl
        case m2 => exact EvTo.list .nil (by decide)
        case m3 => rw [filt_none]; rfl
        case m4 => rfl
        case m5 => rw [filt_none]; decide
        case m6 => rfl
        case m7 => rw [filt_none]; rfl
      case i4 =>
        intro ρ' h
        cases h
        walk_at "s_step"
        case s1 =>
          with_reducible refine' Step.assign (d := .str (foldOf T p)) ?m1 ?m2 ?m3 ?m4
          case m2 => walk_at "my_x"
          case m3 => walk_at "my_x"
          case m4 => exact fun _ => rfl
          case m1 =>
            unfold foldOf
            with_reducible refine' EvTo.join (ts := foldParts T p) ?n1 ?n2 ?n3 ?n4 ?n5 ok.join
            case n1 => walk_at "my_x"
            case n2 => exact fun _ => rfl
            case n4 => walk_at "my_x"
            case n5 => rfl
            case n3 =>
              unfold foldParts
              rw [List.map_map]
              with_reducible refine' EvTo.cmpIfN (f := fun c => .str (one c)) (xs := p) ?o1 ?o2 ?o3 ?o4 ?o5 ?o6 ?o7 ?o8 ?o9
              case o1 => decide +kernel
              case o2 => walk_at "my_x"
              case o3 => rw [← pieceS_signs]; walk_at "my_x"
              case o4 => exact fun _ _ => rfl
              case o5 => walk_at "my_x"
              case o6 => walk_at "my_x"
              case o7 =>
                intro c hc
                with_reducible refine' TrTo.cmp ?p1 ?p2 CmpOk.ninS ?p3
                case p1 => walk_at "my_x"
                case p2 => walk_at "my_x"
                case p3 => rfl
              case o8 =>
                intro c hc _
                with_reducible refine' EvTo.user F3 ?p1 ?p2 ?p3 ⟨c, rfl, ok.low c hc, rfl⟩
                case p1 => decide +kernel
                case p2 => decide
                case p3 => walk_at "my_x"
              case o9 => exact hpl
        walk_at "s_step"
        case s1 =>
          with_reducible refine' Step.setKey (F := asD F) (key := foldOf T p) (d := .int (((getF F (foldOf T p)).getD 0 + 1 : Nat) : Int)) ?m1 ?m2 ?m3 ?m4 ?m5 ?m6
          case m1 => walk_at "my_x"
          case m2 =>
            with_reducible refine' EvTo.addN (EvTo.cast (EvTo.get2 (d := .int ((0 : Nat) : Int)) ?n1 ?n2 ?n3 ?n4 ?n5 ?n6 ?n7) ?n8) ?n9
            case n1 => walk_at "my_x"
            case n2 => exact fun _ => rfl
            case n3 => walk_at "my_x"
            case n4 => walk_at "my_nat"
            case n5 => walk_at "my_x"
            case n6 => walk_at "my_x"
            case n7 => rfl
            case n8 => rw [getF_asD]; cases getF F (foldOf T p) <;> rfl
            case n9 => walk_at "my_nat"
          case m3 => walk_at "my_x"
          case m4 => rw [put_asD]; walk_at "my_x"
          case m5 =>
            have : lid = 1048576 := rfl
            have h2 : (asD F).length = F.length := by unfold asD; rw [List.length_map]
            lia
          case m6 => exact fun _ => rfl
        refine' ExTo.nil ⟨?_, trivial⟩
        unfold cntStep
        walk_at "my_x"
end
/-! ## _law_wants -/
noncomputable def wantsL (w : Str) : List (Str × Str) :=
  let first := Txt.item w 0
  let last := Txt.item w (-1)
  let twice := dots ++ first ++ dots ++ first ++ dots
  [(Txt.join dots ((w.cps.toList).map one), w), (w, w), (twice, w ++ w)] ++
    [twice, w ++ dots ++ last, dots ++ Txt.slice w none (some 2) ++ dots ++ Txt.item w 1 ++ dots, first ++ first ++ dots, dots ++ last ++ last, Txt.slice w (some 1) none, Txt.slice w none (some (-1)), w ++ w].map fun x => (x, w)
structure WaOk (w : Str) : Prop where
  c0 : (Txt.charAt w 0).isSome = true
  c1 : (Txt.charAt w 1).isSome = true
  cn : (Txt.charAt w (-1)).isSome = true
  l0 : (Txt.item w 0).length ≤ 10
  l1 : (Txt.item w 1).length ≤ 10
  ln : (Txt.item w (-1)).length ≤ 10
  l : w.length ≤ 10
  s2 : (Txt.slice w none (some 2)).length ≤ 10
  jo : JoinOk dots ((w.cps.toList).map one) = true
theorem signs_one (w : Str) : signs w = (w.cps.toList).map fun c => .str (one c) := rfl
noncomputable abbrev waRel : List PyData → PyData → Prop := fun ds d => ∃ w : Str, ds = [.str w] ∧ WaOk w ∧ d = .list ((wantsL w).map fun x => .tuple [.str x.1, .str x.2])
section
variable {prog : Program} {w : World} {G : Gl prog w} {k : Nat}
theorem wa_fn (hG : Glo G) (hD : DefAt G "_law_wants" (fnPars PP iWa) (fnBody PP iWa) (fnScope PP iWa)) : FnOk G "_law_wants" 1 waRel := by
  refine FnOk.of (k := 0) (ps := ["word"]) hD (by decide +kernel) (fun pm c doc vs hl => ?_) fun ds d h => ?_
  · obtain ⟨a, rfl⟩ := one_vs hl; rfl
  · obtain ⟨v, rfl, ok, rfl⟩ := h
    refine ⟨rfl, ?_⟩
    have h0 := ok.c0
    have h1 := ok.c1
    have hn := ok.cn
    have l0 := ok.l0
    have l1 := ok.l1
    have ln := ok.ln
    have l := ok.l
    have s2 := ok.s2
    have jo := ok.jo
    have hsz : sizeLine = 16777216 := rfl
    have hd3 : (Str.ofString "...").length = 3 := by decide +kernel
    have hmn : v.cps.size ≤ 10 := ok.l
    walk_at "b_open"
    walk_at "s_tup"
    walk_at "s_asg"
    walk_at "s_asg"
    with_reducible refine' ExTo.ret (d := .list ((wantsL v).map fun x => .tuple [.str x.1, .str x.2])) ?k1 ?k2
    case k2 => exact .inl rfl
    case k1 =>
      unfold wantsL
      dsimp only
      rw [List.map_append]
      with_reducible refine' EvTo.catL (EvL.of ?m1) (EvL.of ?m2) ?m3
      case m3 => simp only [List.length_append, List.length_map, List.length_cons, List.length_nil]; decide
      case m1 =>
        simp only [List.map_cons, List.map_nil]
        with_reducible refine' EvTo.list (.cons ?n1 (EvTo.tuple (.cons ?n2 (EvTo.join (ts := (v.cps.toList).map one) ?o1 ?o2 ?o3 ?o4 ?o5 jo) ?n3) ?n4) ?n5) ?n6
        case n1 => walk_at "my_x"
        case n2 => walk_at "my_x"
        case o1 => walk_at "my_x"
        case o2 => exact fun _ => rfl
        case o4 => walk_at "my_x"
        case o5 => rfl
        case o3 =>
          rw [List.map_map]
          with_reducible refine' EvTo.cmpN (f := fun c => .str (one c)) (xs := v.cps.toList) ?p1 ?p2 ?p3 ?p4 ?p5 ?p6 ?p7 ?p8
          case p1 => decide +kernel
          case p2 => walk_at "my_x"
          case p3 => rw [← signs_one]; walk_at "my_x"
          case p4 => exact fun _ _ => rfl
          case p5 => walk_at "my_x"
          case p6 => walk_at "my_x"
          case p7 => intro c hc; exact EvTo.var List.mem_cons_self
          case p8 => rw [Array.length_toList]; exact Nat.le_trans hmn (by decide)
        case n3 => walk_at "my_x"
        case n4 => exact Nat.le_of_ble_eq_true rfl
        case n5 => walk_at "my_x"
        case n6 => exact Nat.le_of_ble_eq_true rfl
      case m2 =>
        rw [List.map_map]
        with_reducible refine' EvTo.cmpN (f := fun x : Str => .str x) (ρc := [("word", .own (.str v))]) (xs := [dots ++ Txt.item v 0 ++ dots ++ Txt.item v 0 ++ dots, v ++ dots ++ Txt.item v (-1), dots ++ Txt.slice v none (some 2) ++ dots ++ Txt.item v 1 ++ dots, Txt.item v 0 ++ Txt.item v 0 ++ dots, dots ++ Txt.item v (-1) ++ Txt.item v (-1), Txt.slice v (some 1) none, Txt.slice v none (some (-1)), v ++ v]) ?p1 ?p2 ?p3 ?p4 ?p5 ?p6 ?p7 ?p8
        case p1 => decide +kernel
        case p2 => walk_at "my_x"
        case p3 => simp only [List.map_cons, List.map_nil]; walk_at "my_x"
        case p4 => exact fun _ _ => rfl
        case p5 => walk_at "my_x"
        case p6 => walk_at "my_x"
        case p7 =>
          intro x hx
          exact EvTo.tuple (.cons (fun _ _ => rfl) (EvTo.var List.mem_cons_self) (.cons (fun _ _ => rfl) (EvTo.var (List.mem_cons_of_mem _ List.mem_cons_self)) .nil)) (Nat.le_of_ble_eq_true rfl)
        case p8 => exact Nat.le_of_ble_eq_true rfl
end
/-! ## _law_ways -/
noncomputable def waysStep (F : List (Str × Nat)) (ws : List Nat) (row : List Str) : List Nat := (row.map fun f => (getF F f).getD 0 * ws.getD (f.length - 1) 0).sum :: ws
noncomputable def waysL (F : List (Str × Nat)) (fits : List (List Str)) : List Nat := fits.reverse.foldl (waysStep F) [1, 0]
structure WyOk (F : List (Str × Nat)) (fits : List (List Str)) : Prop where
  few : fits.length ≤ 8
  row : ∀ r, r ∈ fits → r.length ≤ 16
  key : ∀ r, r ∈ fits → ∀ f, f ∈ r → ∃ n, getF F f = some n ∧ n ≤ 16 ∧ (f.length = 1 ∨ f.length = 2)
noncomputable def fitsD (fits : List (List Str)) : List PyData := fits.map fun r => .list (r.map .str)
noncomputable abbrev wyRel : List PyData → PyData → Prop := fun ds d => ∃ (F : List (Str × Nat)) (fits : List (List Str)), ds = [.list (fitsD fits), .dict (dk (asD F))] ∧ WyOk F fits ∧ d = .list (natL (waysL F fits))
theorem sum_le_mul (c : Nat) : ∀ xs : List Nat, (∀ x, x ∈ xs → x ≤ c) → xs.sum ≤ c * xs.length
  | [], _ => by simp
  | x :: xs, h => by
    have h1 := h x List.mem_cons_self
    have h2 := sum_le_mul c xs fun y hy => h y (List.mem_cons_of_mem _ hy)
    simp only [List.sum_cons, List.length_cons, Nat.mul_add]
    lia
/-- all are small -/
noncomputable def WsOk (ws : List Nat) (i : Nat) : Prop := ws.length = i + 2 ∧ ∀ x, x ∈ ws → x ≤ 256 ^ i
theorem ws_step {F : List (Str × Nat)} {fits : List (List Str)} (ok : WyOk F fits) {row : List Str} (hr : row ∈ fits) {ws : List Nat} {i : Nat} (h : WsOk ws i) : WsOk (waysStep F ws row) (i + 1) := by
  obtain ⟨h1, h2⟩ := h
  refine ⟨by simp [waysStep, h1], fun x hx => ?_⟩
  have hp : 256 ^ i ≤ 256 ^ (i + 1) := Nat.pow_le_pow_right (by decide) (Nat.le_succ i)
  unfold waysStep at hx
  rcases List.mem_cons.mp hx with rfl | hx
  · have : ((row.map fun f => (getF F f).getD 0 * ws.getD (f.length - 1) 0).sum) ≤ (16 * 256 ^ i) * row.length := by
      have := sum_le_mul (16 * 256 ^ i) (row.map fun f => (getF F f).getD 0 * ws.getD (f.length - 1) 0) fun x hx => ?_
      · simpa using this
      · obtain ⟨f, hf, rfl⟩ := List.mem_map.mp hx
        obtain ⟨n, hn, hle, _⟩ := ok.key row hr f hf
        rw [hn]
        refine Nat.mul_le_mul hle ?_
        rw [List.getD_eq_getElem?_getD]
        cases e : ws[f.length - 1]? with
        | none => exact Nat.zero_le _
        | some y => exact h2 y (List.mem_of_getElem? e)
    have hl := ok.row row hr
    have h3 : (16 * 256 ^ i) * row.length ≤ (16 * 256 ^ i) * 16 := Nat.mul_le_mul_left _ hl
    rw [Nat.pow_succ]
    lia
  · exact Nat.le_trans (h2 x hx) hp
theorem ws_all {F : List (Str × Nat)} {fits : List (List Str)} (ok : WyOk F fits) : ∀ (rows : List (List Str)) (ws : List Nat) (i : Nat), (∀ r, r ∈ rows → r ∈ fits) → WsOk ws i → WsOk (rows.foldl (waysStep F) ws) (i + rows.length)
  | [], ws, i, _, h => by simpa using h
  | r :: rows, ws, i, hr, h => by
    have := ws_all ok rows (waysStep F ws r) (i + 1) (fun x hx => hr x (List.mem_cons_of_mem _ hx)) (ws_step ok (hr r List.mem_cons_self) h)
    simp only [List.foldl_cons, List.length_cons]
    rw [show i + (rows.length + 1) = i + 1 + rows.length by lia]
    exact this
theorem ws_start : WsOk [1, 0] 0 := ⟨rfl, by decide⟩

section
variable {prog : Program} {w : World} {G : Gl prog w} {k : Nat}
theorem wy_fn (hG : Glo G) (hD : DefAt G "_law_ways" (fnPars PP iWy) (fnBody PP iWy) (fnScope PP iWy)) : FnOk G "_law_ways" 1 wyRel := by
  refine FnOk.of (k := 0) (ps := ["fits", "folds"]) hD (by decide +kernel) (fun pm c doc vs hl => ?_) fun ds d h => ?_
  · obtain ⟨a, b, rfl⟩ := two_vs hl; rfl
  · obtain ⟨F, fits, rfl, ok, rfl⟩ := h
    refine ⟨rfl, ?_⟩
    walk_at "b_open"
    walk_at "s_step"
    case s1 =>
      with_reducible refine' Step.assignIt (b := .mu (natL ([].foldl (waysStep F) [1, 0]))) ?m1 ?m2 ?m3 ?m4
      case m1 => exact EvIt.list (ds := [.int 1, .int 0]) (by walk_at "my_x") (by decide)
      case m2 => walk_at "my_x"
      case m3 => walk_at "my_x"
      case m4 => exact fun _ => rfl
    with_reducible refine' ExTo.for (α := List Str) (f := fun r => .list (r.map .str)) (xs := fits.reverse) (Iv := fun _ => True)
                              (R := fun i => [("fits", .own (.list (fitsD fits))), ("folds", .own (.dict (dk (asD F)))), ("ways", .mu (natL ((fits.reverse.take i).foldl (waysStep F) [1, 0])))])
                              (ρb := fun i r => [("fits", .own (.list (fitsD fits))), ("folds", .own (.dict (dk (asD F)))), ("ways", .mu (natL ((fits.reverse.take i).foldl (waysStep F) [1, 0]))), ("row", .own (.list (r.map .str)))])
                              ?l1 ?l2 ?l3 trivial ?l5 ?l6 ?l7
    case l1 =>
      rw [List.map_reverse, show (fits.map fun r => PyData.list (r.map .str)) = fitsD fits from rfl]
      with_reducible refine' ItTo.list (EvTo.revL ?m1 ?m2)
      case m1 => walk_at "my_x"
      case m2 => walk_at "my_x"
    case l2 => exact fun _ _ => rfl
    case l3 => exact Wkn.refl _
    case l5 => intro i x hx _; walk_at "my_x"
    case l7 =>
      intro _
      rw [List.take_length]
      with_reducible refine' ExTo.retMu ?k1 ?k2
      case k1 => walk_at "my_x"
      case k2 => exact .inl rfl
    case l6 =>
      intro i r hx _
      have hi : i < fits.length := by have := (List.getElem?_eq_some_iff.mp hx).1; simpa using this
      have hrm : r ∈ fits := by have := List.mem_of_getElem? hx; simpa using this
      have hfew := ok.few
      have hrow := ok.row r hrm
      rw [show (fits.reverse.take (i + 1)) = fits.reverse.take i ++ [r] by rw [List.take_add_one, hx]; rfl, List.foldl_append, List.foldl_cons, List.foldl_nil]
      have hws := ws_all ok (fits.reverse.take i) [1, 0] 0 (fun x hx => by have := List.mem_of_mem_take hx; simpa using this) ws_start
      have hti : (fits.reverse.take i).length = i := by rw [List.length_take, List.length_reverse]; lia
      rw [hti, Nat.zero_add] at hws
      generalize (fits.reverse.take i).foldl (waysStep F) [1, 0] = ws at *
      obtain ⟨hwl, hwm⟩ := hws
      have hbig : 256 ^ i ≤ 256 ^ 7 := Nat.pow_le_pow_right (by decide) (by lia)
      walk_at "s_step"
      case s1 =>
        with_reducible refine' Step.insert0 (d := .int (((r.map fun f => (getF F f).getD 0 * ws.getD (f.length - 1) 0).sum : Nat) : Int)) ?m1 ?m2 ?m3 ?m4 ?m5 ?m6 ?m7 ?m8
        case m1 => walk_at "my_x"
        case m2 => walk_at "my_x"
        case m4 => walk_at "my_x"
        case m5 => walk_at "my_x"
        case m6 => rfl
        case m7 => walk_at "my_x"
        case m8 => simp only [natL, List.length_map]; have : lid = 1048576 := rfl; lia
        case m3 =>
          with_reducible refine' EvTo.sumN ?n1 ?n2 ?n3 ?n4 ?n5
          case n1 => decide +kernel
          case n2 => exact (Glo.sum hG).1
          case n3 => exact (Glo.sum hG).2
          case n5 => walk_at "my_x"
          case n4 =>
            rw [show natL (r.map fun f => (getF F f).getD 0 * ws.getD (f.length - 1) 0) = r.map fun f => PyData.int (((getF F f).getD 0 * ws.getD (f.length - 1) 0 : Nat) : Int) by unfold natL; rw [List.map_map]; rfl]
            with_reducible refine' EvTo.cmpN (f := fun f : Str => .str f) (g := fun f => .int (((getF F f).getD 0 * ws.getD (f.length - 1) 0 : Nat) : Int)) (xs := r) (ρc := [("folds", .own (.dict (dk (asD F)))), ("ways", .mu (natL ws))]) ?p1 ?p2 ?p3 ?p4 ?p5 ?p6 ?p7 ?p8
            case p1 => decide +kernel
            case p2 => walk_at "my_x"
            case p3 => walk_at "my_x"
            case p4 => exact fun _ _ => rfl
            case p5 => walk_at "my_x"
            case p6 => walk_at "my_x"
            case p7 =>
              intro f hf
              obtain ⟨n, hn, hn16, hfl⟩ := ok.key r hrm f hf
              have hw1 : ws[f.length - 1]? = some (ws.getD (f.length - 1) 0) := by
                have : f.length - 1 < ws.length := by lia
                rw [List.getD_eq_getElem?_getD, List.getElem?_eq_getElem this]; rfl
              have hwle := hwm _ (List.mem_of_getElem? hw1)
              generalize ws.getD (f.length - 1) 0 = v at *
              rw [hn]
              show EvTo _ _ _ _ _ (.int ((n * v : Nat) : Int))
              with_reducible refine' EvTo.mulN (EvTo.key (F := asD F) ?q1 ?q2 ?q3 ?q4 ?q5) (EvTo.itemNat ?r1 (EvTo.subN (EvTo.lenS ?r2 ?r3 ?r4 ?r5 ?r6 ?r7) ?r8 ?r9) hw1 ?r10) ?q6
              case q1 => walk_at "my_x"
              case q2 => walk_at "my_x"
              case q3 => rw [getF_asD, hn]; rfl
              case q4 => exact fun _ _ => rfl
              case q5 => exact fun _ _ => rfl
              case r1 => walk_at "my_x"
              case r2 => decide +kernel
              case r3 => exact (Glo.len hG).1
              case r4 => exact (Glo.len hG).2
              case r5 => walk_at "my_x"
              case r6 => walk_at "my_x"
              case r7 => lia
              case r8 => walk_at "my_nat"
              case r9 => lia
              case r10 => exact fun _ _ => rfl
              case q6 => exact small_mul (by lia) (by lia)
            case p8 => have : lid = 1048576 := rfl; lia
      refine' ExTo.nil ⟨?_, trivial⟩
      rw [show natL (waysStep F ws r) = .int (((r.map fun f => (getF F f).getD 0 * ws.getD (f.length - 1) 0).sum : Nat) : Int) :: natL ws from rfl]
      walk_at "my_x"
end
/-! ## _law_halves -/
noncomputable def half (a b : Nat) : Nat := max (Builtin.Int.intBits ((a / b : Nat) : Int)) ((Builtin.Int.intBits (b : Int) + 1) / 2)
noncomputable def move (a b : Nat) : Nat := 2 * half a b - Builtin.Int.intBits (b : Int)
theorem bits_pos {b : Nat} (h : 0 < b) : 2 ^ (Builtin.Int.intBits (b : Int) - 1) ≤ b ∧ 0 < Builtin.Int.intBits (b : Int) := by
  unfold Builtin.Int.intBits
  have : ((b : Int) == 0) = false := by simp; lia
  rw [this, if_neg (by decide), Int.natAbs_natCast]
  exact ⟨Nat.log2_self_le (by lia), Nat.succ_pos _⟩
theorem half_facts {a b : Nat} (hb : 0 < b) : Builtin.Int.intBits (b : Int) ≤ 2 * half a b ∧ 0 < half a b ∧ a < b * 2 ^ half a b ∧ 2 ^ half a b ≤ b * 2 ^ move a b ∧ b * 2 ^ move a b < 2 ^ (2 * half a b) := by
  have h0 := bits_pos hb
  have h1 : Builtin.Int.intBits (b : Int) ≤ 2 * half a b := by
    have : (Builtin.Int.intBits (b : Int) + 1) / 2 ≤ half a b := Nat.le_max_right _ _
    lia
  have h2 : 0 < half a b := by lia
  have h3 : a / b < 2 ^ half a b := Nat.lt_of_lt_of_le (lt_bits (a / b)) (Nat.pow_le_pow_right (by decide) (Nat.le_max_left _ _))
  have h4 : a < b * 2 ^ half a b := by rw [Nat.mul_comm]; exact (Nat.div_lt_iff_lt_mul hb).mp h3
  have hm : Builtin.Int.intBits (b : Int) + move a b = 2 * half a b := by unfold move; lia
  refine ⟨h1, h2, h4, ?_, ?_⟩
  · have : 2 ^ (Builtin.Int.intBits (b : Int) - 1) * 2 ^ move a b ≤ b * 2 ^ move a b := Nat.mul_le_mul_right _ h0.1
    rw [← Nat.pow_add] at this
    exact Nat.le_trans (Nat.pow_le_pow_right (by decide) (by lia)) this
  · have : b * 2 ^ move a b < 2 ^ Builtin.Int.intBits (b : Int) * 2 ^ move a b := Nat.mul_lt_mul_of_pos_right (lt_bits b) (Nat.pow_pos (by decide))
    rw [← Nat.pow_add, hm] at this
    exact this
noncomputable abbrev d3Rel : List PyData → PyData → Prop := fun ds d => ∃ a12 a3 b1 b2 n : Nat, ds = [.int (a12 : Int), .int (a3 : Int), .int ((b1 * 2 ^ n + b2 : Nat) : Int), .int (b1 : Int), .int (b2 : Int), .int (n : Int)] ∧ 0 < b1 ∧ b2 < 2 ^ n ∧ a3 < 2 ^ n ∧ a12 * 2 ^ n + a3 < (b1 * 2 ^ n + b2) * 2 ^ n ∧ Builtin.Int.intBits (a12 : Int) ≤ n + 4000 ∧ n ≤ 4000 ∧ Builtin.Int.intBits (b1 : Int) ≤ 8000 ∧
      d = .tuple [.int (((a12 * 2 ^ n + a3) / (b1 * 2 ^ n + b2) : Nat) : Int), .int (((a12 * 2 ^ n + a3) % (b1 * 2 ^ n + b2) : Nat) : Int)]
noncomputable abbrev haRel : List PyData → PyData → Prop := fun ds d => ∃ a b : Nat, ds = [.int (a : Int), .int (b : Int)] ∧ 0 < b ∧ Builtin.Int.intBits (a : Int) ≤ 900 ∧ Builtin.Int.intBits (b : Int) ≤ 900 ∧ d = .tuple [.int ((a / b : Nat) : Int), .int ((a % b : Nat) : Int)]
theorem pow2_ok {n : Nat} (h : n ≤ 100000) : (Builtin.Int.intBits ((2 : Nat) : Int) : Int) * (n : Int) ≤ 2 ^ 27 := by
  rw [show Builtin.Int.intBits ((2 : Nat) : Int) = 2 from rfl]
  lia
theorem div_add_mod' (x y : Nat) : x / y * y + x % y = x := by rw [Nat.mul_comm]; exact Nat.div_add_mod x y
section
variable {prog : Program} {w : World} {G : Gl prog w} {k : Nat}
theorem ha_fn (hG : Glo G) (hD : DefAt G "_law_halves" (fnPars PP iHa) (fnBody PP iHa) (fnScope PP iHa)) (F3 : FnOk G "_div3n2n" 2 d3Rel) : FnOk G "_law_halves" 3 haRel := by
  refine FnOk.of (k := 2) (ps := ["a", "b"]) hD (by decide +kernel) (fun pm c doc vs hl => ?_) fun ds d h => ?_
  · obtain ⟨a, b, rfl⟩ := two_vs hl; rfl
  · obtain ⟨a, b, rfl, hb, hab, hbb, rfl⟩ := h
    refine ⟨rfl, ?_⟩
    obtain ⟨f1, f2, f3, f4, f5⟩ := half_facts (a := a) hb
    have hlog : b.log2 < 9000 := Nat.lt_of_lt_of_le (log2_lt_bits hbb hb) (by decide)
    have hh : half a b ≤ 900 := by
      have : Builtin.Int.intBits ((a / b : Nat) : Int) ≤ 900 := intBits_le (Nat.lt_of_le_of_lt (Nat.div_le_self a b) (Nat.lt_of_lt_of_le (lt_bits a) (Nat.pow_le_pow_right (by decide) hab)))
      unfold half
      lia
    have hmv : move a b ≤ 1800 := by unfold move; lia
    have h2b : Builtin.Int.intBits ((2 : Nat) : Int) = 2 := rfl
    have hpm : ∀ n : Nat, n ≤ 1800 → Builtin.Int.intBits ((2 ^ n : Nat) : Int) ≤ 1801 := fun n hn => intBits_le (Nat.pow_lt_pow_right (by decide) (by lia))
    walk_at "b_open"
    walk_at "s_step"
    case s1 =>
      with_reducible refine' Step.assign (d := .int (half a b : Nat)) ?m1 ?m2 ?m3 ?m4
      case m1 =>
        unfold half
        with_reducible refine' EvTo.maxN ?n1 ?n2 ?n3 (EvTo.bitLen (EvTo.divN ?n4 ?n5 ?n6 hlog) ?n7 ?n8) (EvTo.divN (EvTo.addN (EvTo.bitLen ?o1 ?o2 ?o3) ?o4) ?o5 ?o6 ?o7) ?n9 ?n10
        case n1 => decide +kernel
        case n2 => exact (Glo.max hG).1
        case n3 => exact (Glo.max hG).2
        case n4 => walk_at "my_nat"
        case n5 => walk_at "my_nat"
        case n6 => lia
        case n7 => exact fun _ => rfl
        case n8 => rfl
        case o1 => walk_at "my_nat"
        case o2 => exact fun _ => rfl
        case o3 => rfl
        case o4 => walk_at "my_nat"
        case o5 => walk_at "my_nat"
        case o6 => decide
        case o7 => decide +kernel
        case n9 => walk_at "my_x"
        case n10 => walk_at "my_x"
      case m2 => walk_at "my_x"
      case m3 => walk_at "my_x"
      case m4 => exact fun _ => rfl
    walk_at "s_step"
    case s1 =>
      with_reducible refine' Step.assign (d := .int (move a b : Nat)) ?m1 ?m2 ?m3 ?m4
      case m1 =>
        unfold move
        with_reducible refine' EvTo.subN (EvTo.mulN ?n1 ?n2 ?n3) (EvTo.bitLen ?n4 ?n5 ?n6) f1
        case n1 => walk_at "my_nat"
        case n2 => walk_at "my_nat"
        case n3 => exact small_mul (by decide) (by lia)
        case n4 => walk_at "my_nat"
        case n5 => exact fun _ => rfl
        case n6 => rfl
      case m2 => walk_at "my_x"
      case m3 => walk_at "my_x"
      case m4 => exact fun _ => rfl
    have hq : a * 2 ^ move a b / (b * 2 ^ move a b) = a / b := Nat.mul_div_mul_right _ _ (Nat.pow_pos (by decide))
    have hr : a * 2 ^ move a b % (b * 2 ^ move a b) / 2 ^ move a b = a % b := by rw [Nat.mul_mod_mul_right, Nat.mul_div_cancel _ (Nat.pow_pos (by decide))]
    have hlt : a * 2 ^ move a b < b * 2 ^ move a b * 2 ^ half a b := by
      have := Nat.mul_lt_mul_of_pos_right f3 (show 0 < 2 ^ move a b from Nat.pow_pos (by decide))
      rw [Nat.mul_right_comm] at this
      exact this
    have ha2 : Builtin.Int.intBits ((a * 2 ^ move a b : Nat) : Int) ≤ 2700 := intBits_le (by
      have h1 : a < 2 ^ 900 := Nat.lt_of_lt_of_le (lt_bits a) (Nat.pow_le_pow_right (by decide) hab)
      have h2 : 2 ^ move a b ≤ 2 ^ 1800 := Nat.pow_le_pow_right (by decide) hmv
      have h3 : a * 2 ^ move a b < 2 ^ 900 * 2 ^ 1800 := Nat.mul_lt_mul_of_lt_of_le h1 h2 (Nat.pow_pos (by decide))
      rw [← Nat.pow_add] at h3
      exact h3)
    generalize half a b = h at *
    generalize move a b = m at *
    walk_at "s_step"
    case s1 =>
      with_reducible refine' Step.tupSwN (bs := [.own (.int ((a * 2 ^ m : Nat) : Int)), .own (.int ((b * 2 ^ m : Nat) : Int))]) (.cons ?k1 (.own (EvTo.mulN ?m1 (EvTo.powN ?m2 ?m3 ?m4) ?m5)) (.cons ?k2 (.own (EvTo.mulN ?n1 (EvTo.powN ?n2 ?n3 ?n4) ?n5)) .nil)) ?k6 ?k7 ?k8 ?k9 ?k10
      case k1 => walk_at "my_x"
      case k2 => walk_at "my_x"
      case m1 => walk_at "my_nat"
      case m2 => walk_at "my_nat"
      case m3 => walk_at "my_nat"
      case m4 => exact pow2_ok (by lia)
      case m5 => exact IntMulOk.of_bits (Nat.le_trans hab (by decide)) (Nat.le_trans (hpm m hmv) (by decide))
      case n1 => walk_at "my_nat"
      case n2 => walk_at "my_nat"
      case n3 => walk_at "my_nat"
      case n4 => exact pow2_ok (by lia)
      case n5 => exact IntMulOk.of_bits (Nat.le_trans hbb (by decide)) (Nat.le_trans (hpm m hmv) (by decide))
      case k6 => walk_at "my_x"
      case k8 => decide +kernel
      case k9 => rfl
      case k10 => exact Nat.le_of_ble_eq_true rfl
      case k7 => (dsimp only [List.reverse, List.reverseAux]; walk_at "my_x")
    generalize a * 2 ^ m = a' at *
    generalize b * 2 ^ m = b' at *
    walk_at "s_step"
    case s1 =>
      with_reducible refine' Step.assignT (xs := [.int ((a' / b' : Nat) : Int), .int ((a' % b' : Nat) : Int)]) (EvTo.user F3 ?m1 ?m2 ?m3 ⟨a' / 2 ^ h, a' % 2 ^ h, b' / 2 ^ h, b' % 2 ^ h, h, rfl, ?m4, ?m5, ?m6, ?m7, ?m8, ?m9, ?m10, ?m11⟩) ?n1 ?n2 ?n3
      case m1 => decide +kernel
      case m2 => decide
      case m3 =>
        rw [div_add_mod']
        with_reducible refine' .cons ?o1 (EvTo.rshN ?p1 ?p2) (.cons ?o2 (EvTo.modN ?p3 (EvTo.powN ?p4 ?p5 ?p6) ?p7) (.cons ?o3 ?p8 (.cons ?o4 (EvTo.rshN ?p9 ?p10) (.cons ?o5 (EvTo.modN ?p11 (EvTo.powN ?p12 ?p13 ?p14) ?p15) (.cons ?o6 ?p16 .nil)))))
        case p6 => exact pow2_ok (by lia)
        case p14 => exact pow2_ok (by lia)
        case p7 => exact Nat.ne_of_gt (Nat.pow_pos (by decide))
        case p15 => exact Nat.ne_of_gt (Nat.pow_pos (by decide))
        all_goals first | walk_at "my_x" | walk_at "my_nat"
      case m4 => exact Nat.div_pos f4 (Nat.pow_pos (by decide))
      case m5 => exact Nat.mod_lt _ (Nat.pow_pos (by decide))
      case m6 => exact Nat.mod_lt _ (Nat.pow_pos (by decide))
      case m7 => rw [div_add_mod', div_add_mod']; exact hlt
      case m8 =>
        have := intBits_le (x := a' / 2 ^ h) (Nat.lt_of_le_of_lt (Nat.div_le_self _ _) (Nat.lt_of_lt_of_le (lt_bits a') (Nat.pow_le_pow_right (by decide) ha2)))
        lia
      case m9 => lia
      case m10 =>
        have := intBits_le (x := b' / 2 ^ h) (Nat.lt_of_le_of_lt (Nat.div_le_self _ _) f5)
        lia
      case m11 => rw [div_add_mod', div_add_mod']
      case n1 => walk_at "my_x"
      case n2 => exact fun _ => rfl
      case n3 => exact fun _ => rfl
    rw [← hq, ← hr]
    with_reducible refine' ExTo.ret (EvTo.tuple (.cons ?m1 ?m2 (.cons ?m3 (EvTo.rshN ?m4 ?m5) .nil)) ?m6) ?m7
    case m1 => walk_at "my_x"
    case m2 => walk_at "my_nat"
    case m3 => walk_at "my_x"
    case m4 => walk_at "my_nat"
    case m5 => walk_at "my_nat"
    case m6 => exact Nat.le_of_ble_eq_true rfl
    case m7 => exact .inl rfl
end
/-! # the plain law -/
noncomputable def two (a b : Nat) : Str := ⟨#[a, b]⟩
noncomputable def keysOf : List Nat → List Str
  | [] => []
  | [l] => [one l]
  | l :: l' :: r => one l :: two l l' :: keysOf (l' :: r)
noncomputable def allL : List Nat := [104, 112, 114, 115, 116, 109, 119, 98, 113]
noncomputable def lsOf (h i : Nat) : List Nat := (allL.drop i).take (2 + 2 * h)
/-- a word -/
noncomputable def IsWord (h : Nat) (ls : List Nat) : Prop := h < 3 ∧ ∃ i, i < 8 - 2 * h ∧ ls = lsOf h i
theorem word_all {P : Nat → List Nat → Bool} (h1 : ∀ h, h < 3 → ∀ i, i < 8 - 2 * h → P h (lsOf h i) = true) {h : Nat} {ls : List Nat} (w : IsWord h ls) : P h ls = true := by
  obtain ⟨hh, i, hi, rfl⟩ := w
  exact h1 h hh i hi
/-- what _ellipsis_match asks of its two texts -/
noncomputable def ellOkB (want got : Str) : Bool :=
  decide (want.length ≤ 100) && decide (got.length ≤ 100) && decide ((partsBetween want (occurrences want dots 0 want.length (want.length + 1)) dots.length).length ≤ 100) &&
    ((!(!(occurrences want dots 0 want.length 1).isEmpty)) || decide (2 ≤ (Txt.split want dots).length)) && decide ((Txt.split want dots).length ≤ 100) && (Txt.split want dots).all fun z => decide (z.length ≤ 100)
theorem ellOkB.ok {want got : Str} (h : ellOkB want got = true) : EllOk want got := by
  unfold ellOkB at h
  simp only [Bool.and_eq_true, decide_eq_true_eq, Bool.or_eq_true, List.all_eq_true] at h
  obtain ⟨⟨⟨⟨⟨h1, h2⟩, h3⟩, h4⟩, h5⟩, h6⟩ := h
  have e : lid = 1048576 := rfl
  exact ⟨by lia, by lia, by lia, by lia, fun q => h4.resolve_left (by rw [q]; decide), fun z hz => by have := h6 z hz; lia⟩
noncomputable def ellIn (w f : Str) : Str := Txt.item w 0 ++ dots ++ f ++ dots ++ Txt.item w (-1)
noncomputable def inB (x y : Str) : Bool := !(occurrences y x 0 y.length 1).isEmpty
noncomputable def fitB (ls : List Nat) : List (List Str) := (List.range ls.length).map fun p : Nat => (keysOf ls).filter fun f => ell (f ++ dots) (Txt.slice (wordS ls) (some (p : Int)) none)
noncomputable def endB (ls : List Nat) (p : Nat) : List Str := (keysOf ls).filter fun f => ell (dots ++ f) (Txt.slice (wordS ls) none (some (p : Int)))
/-- all that the law asks of a word, by sight -/
noncomputable def wordB (ls : List Nat) : Bool :=
  (wantsL (wordS ls)).all (fun x => ellOkB x.1 x.2) && decide ((wantsL (wordS ls)).map (fun x => ell x.1 x.2) = [true, true, true, false, false, false, false, false, false, false, false])
noncomputable def wordB2 (ls : List Nat) : Bool :=
  (keysOf ls).all (fun f => ellOkB (ellIn (wordS ls) f) (wordS ls)) && decide ((keysOf ls).filter (fun f => ell (ellIn (wordS ls) f) (wordS ls)) = (keysOf ls).filter fun f => inB f (Txt.slice (wordS ls) (some 1) (some (-1))))
noncomputable def wordB3 (ls : List Nat) : Bool :=
  (List.range (ls.length + 1)).all (fun p : Nat => (keysOf ls).all fun f => ellOkB (f ++ dots) (Txt.slice (wordS ls) (some (p : Int)) none) && ellOkB (dots ++ f) (Txt.slice (wordS ls) none (some (p : Int))))
/-- the ways -/
noncomputable def fitL : List Nat → List (List Str)
  | [] => []
  | [l] => [[one l]]
  | l :: l' :: r => [one l, two l l'] :: fitL (l' :: r)
noncomputable def wordB4 (ls : List Nat) : Bool := decide (fitB ls = fitL ls)
noncomputable def endL (ls : List Nat) (p : Nat) : List Str := match p, ls[p - 2]?, ls[p - 1]? with
  | 0, _, _ => []
  | 1, _, some l => [one l]
  | _ + 2, some l', some l => [two l' l, one l]
  | _, _, _ => []
noncomputable def wordB5 (ls : List Nat) : Bool := (List.range (ls.length + 1)).all fun p => p == 0 || decide (endB ls p = endL ls p)
set_option maxRecDepth 100000 in
theorem word_b {h : Nat} {ls : List Nat} (w : IsWord h ls) : wordB ls = true := word_all (P := fun _ ls => wordB ls) (by decide +kernel) w
theorem word_b2 {h : Nat} {ls : List Nat} (w : IsWord h ls) : wordB2 ls = true := word_all (P := fun _ ls => wordB2 ls) (by decide +kernel) w
theorem word_b3 {h : Nat} {ls : List Nat} (w : IsWord h ls) : wordB3 ls = true := word_all (P := fun _ ls => wordB3 ls) (by decide +kernel) w
theorem word_b4 {h : Nat} {ls : List Nat} (w : IsWord h ls) : wordB4 ls = true := word_all (P := fun _ ls => wordB4 ls) (by decide +kernel) w
theorem word_b5 {h : Nat} {ls : List Nat} (w : IsWord h ls) : wordB5 ls = true := word_all (P := fun _ ls => wordB5 ls) (by decide +kernel) w
/-! ## the signs and what they fold to -/
noncomputable def b1S (i : Int) : Bool := unsL.any fun n => decide ((n : Int) = i)
noncomputable def litKeys : List (Option Expr) → List Int
  | some (.Constant (.int i) _ _) :: r => i :: litKeys r
  | _ => []
noncomputable def litVals : List Expr → List Str
  | .Constant (.str x) _ _ :: r => x :: litVals r
  | _ => []
noncomputable def asDict : Expr → Option (List (Option Expr) × List Expr × Pos)
  | .Dict ks vs p => some (ks, vs, p)
  | _ => none
noncomputable def b3T : List (Int × Str) := (((asAsg PP.main.body[14]?).bind fun x => asDict x.2.1).map fun d => (litKeys d.1).zip (litVals d.2.1)).getD []
/-- the sign c folds to x -/
noncomputable def signB (c : Nat) (x : Str) : Bool := (b1S c == false) && (inU c == false) && (tooLong (Txt.lower (one c)).length == false) && decide (b3of b3T c = x)
theorem uns_sign : ∀ c, c ∈ unsL → b1S c = true ∧ inU c = true ∧ tooLong (Txt.lower (one c)).length = false := by decide +kernel
theorem single_sign : ∀ l, l ∈ allL → ∀ r, r ∈ rowsL → signB (r + l - 97) (one l) = true := by decide +kernel
theorem pair_sign : ∀ i, i < 8 → ∀ c, c ∈ pairOf (allL.getD i 0) → signB c (two (allL.getD i 0) (allL.getD (i + 1) 0)) = true := by decide +kernel
theorem pair_more : ∀ i, i < 8 → pairOf (allL.getD i 0) ≠ [] := by decide +kernel
/-! ## the stock and its folds -/
noncomputable def pieceN (c4 p : Nat) (code j : Nat) : List Nat := (if (c4 / 2 + p + j) % 2 = 1 then [unsL.getD ((c4 / 2 + p + j) / 2 % 27) 0] else []) ++ [code]
theorem pieceN_S (c4 p code j : Nat) : pieceS (pieceN c4 p code j) = pieceOf c4 p code j := by
  unfold pieceN pieceOf pieceS
  split <;> rfl
noncomputable def stockN (ls fs : List Nat) (c3 c4 : Nat) : List (List Nat) := ls.zipIdx.flatMap fun x => (codesAt ls.length fs c3 c4 x.1 x.2).zipIdx.map fun y => pieceN c4 x.2 y.1 y.2
theorem flatMap_map' {α β γ : Type} (f : β → γ) (g : α → List β) : ∀ xs : List α, (xs.flatMap g).map f = xs.flatMap fun x => (g x).map f
  | [] => rfl
  | x :: xs => by simp [List.flatMap_cons, flatMap_map' f g xs]
theorem flatMap_congr' {α β : Type} {f g : α → List β} : ∀ {xs : List α}, (∀ x, x ∈ xs → f x = g x) → xs.flatMap f = xs.flatMap g
  | [], _ => rfl
  | x :: xs, h => by rw [List.flatMap_cons, List.flatMap_cons, h x List.mem_cons_self, flatMap_congr' fun y hy => h y (List.mem_cons_of_mem _ hy)]
theorem stock_S (ls fs : List Nat) (c3 c4 : Nat) : (stockL ls fs c3 c4).map PyData.str = (stockN ls fs c3 c4).map fun p => .str (pieceS p) := by
  unfold stockL stockN piecesAt
  rw [flatMap_map', flatMap_map']
  refine flatMap_congr' fun x _ => ?_
  rw [List.map_map, List.map_map]
  refine List.map_congr_left fun y _ => ?_
  simp only [Function.comp, pieceN_S]
/-- c is a sign that folds to x -/
noncomputable def Sign (c : Nat) (x : Str) : Prop := signB c x = true
theorem Sign.all {c : Nat} {x : Str} (h : Sign c x) : b1S c = false ∧ inU c = false ∧ tooLong (Txt.lower (one c)).length = false ∧ b3of b3T c = x := by
  unfold Sign signB at h
  simp only [Bool.and_eq_true, beq_iff_eq, decide_eq_true_eq] at h
  exact ⟨h.1.1.1, h.1.1.2, h.1.2, h.2⟩
theorem uns_get (i : Nat) : unsL.getD (i % 27) 0 ∈ unsL := by
  have h : i % 27 < unsL.length := Nat.mod_lt _ (by decide)
  rw [List.getD_eq_getElem?_getD, List.getElem?_eq_getElem h]
  exact List.getElem_mem h
theorem piece_parts {c4 p code j : Nat} {x : Str} (h : Sign code x) : foldParts b3T (pieceN c4 p code j) = [x] := by
  obtain ⟨_, h2, _, h4⟩ := h.all
  unfold foldParts pieceN
  split
  · have hu := (uns_sign _ (uns_get ((c4 / 2 + p + j) / 2))).2.1
    rw [List.filter_append, List.filter_cons_of_neg (by rw [hu]; decide), List.filter_nil, List.filter_cons_of_pos (by rw [h2]; rfl)]
    simp [h4]
  · rw [List.nil_append, List.filter_cons_of_pos (by rw [h2]; rfl)]
    simp [h4]
theorem piece_fold {c4 p code j : Nat} {x : Str} (h : Sign code x) : foldOf b3T (pieceN c4 p code j) = x := by
  unfold foldOf
  rw [piece_parts h]
  rfl
theorem piece_ok {c4 p code j : Nat} {x : Str} (h : Sign code x) (hx : x.length ≤ 10) : FoOk b1S b3T (pieceN c4 p code j) := by
  obtain ⟨h1, h2, h3, _⟩ := h.all
  have key : ∀ c, c ∈ pieceN c4 p code j → (c ∈ unsL ∨ c = code) := by
    intro c hc
    unfold pieceN at hc
    rcases List.mem_append.mp hc with hc | hc
    · split at hc
      · rw [List.mem_singleton.mp hc]; exact .inl (uns_get _)
      · cases hc
    · exact .inr (List.mem_singleton.mp hc)
  refine ⟨fun c hc => ?_, fun c hc => ?_, ?_, ?_⟩
  · rcases key c hc with q | rfl
    · rw [(uns_sign c q).1, (uns_sign c q).2.1]
    · rw [h1, h2]
  · rcases key c hc with q | rfl
    · exact (uns_sign c q).2.2
    · exact h3
  · unfold pieceN
    split <;> simp
  · rw [piece_parts h]
    unfold JoinOk tooLong
    simp
    rw [sizeLine_eq]
    have : (Str.ofString "").length = 0 := by decide +kernel
    lia

/-! ## counting -/
noncomputable def FF : List Nat → List Nat → List (Str × Nat)
  | [], _ => []
  | [l], fs => [(one l, fs.headD 0)]
  | l :: l' :: r, fs => (one l, fs.headD 0) :: (two l l', 1) :: FF (l' :: r) fs.tail
noncomputable def foldsL : List Nat → List Nat → List Str
  | [], _ => []
  | [l], fs => List.replicate (fs.headD 0) (one l)
  | l :: l' :: r, fs => List.replicate (fs.headD 0) (one l) ++ ([two l l'] ++ foldsL (l' :: r) fs.tail)
theorem getF_none {α : Type} {F : List (Str × α)} {x : Str} (h : x ∉ F.map (·.1)) : getF F x = none := by
  unfold getF
  rw [List.find?_eq_none.mpr fun kv hkv => ?_]
  · rfl
  · simp only [decide_eq_true_eq]
    intro e
    exact h (List.mem_map.mpr ⟨kv, hkv, e⟩)
theorem put_new {α : Type} {F : List (Str × α)} {x : Str} (d : α) (h : x ∉ F.map (·.1)) : put F x d = F ++ [(x, d)] := by
  unfold put
  rw [if_neg]
  intro q
  obtain ⟨kv, hkv, e⟩ := List.any_eq_true.mp q
  exact h (List.mem_map.mpr ⟨kv, hkv, of_decide_eq_true e⟩)
theorem put_last {α : Type} {F : List (Str × α)} {x : Str} (c d : α) (h : x ∉ F.map (·.1)) : put (F ++ [(x, c)]) x d = F ++ [(x, d)] := by
  unfold put
  rw [if_pos (by simp), List.map_append]
  congr 1
  · have : ∀ kv, kv ∈ F → (if kv.1 = x then (kv.1, d) else kv) = kv := fun kv hkv => if_neg fun e => h (List.mem_map.mpr ⟨kv, hkv, e⟩)
    calc F.map _ = F.map id := List.map_congr_left this
      _ = F := List.map_id F
  · simp
theorem getF_last {α : Type} {F : List (Str × α)} {x : Str} (c : α) (h : x ∉ F.map (·.1)) : getF (F ++ [(x, c)]) x = some c := by
  unfold getF
  rw [List.find?_append, List.find?_eq_none.mpr fun kv hkv => by
    simp only [decide_eq_true_eq]
    exact fun e => h (List.mem_map.mpr ⟨kv, hkv, e⟩)]
  simp
theorem cnt_rep {F : List (Str × Nat)} {x : Str} (h : x ∉ F.map (·.1)) : ∀ n : Nat, (List.replicate (n + 1) x).foldl cntStep F = F ++ [(x, n + 1)]
  | 0 => by
    show cntStep F x = _
    unfold cntStep
    rw [getF_none h, put_new _ h]; rfl
  | n + 1 => by
    rw [show List.replicate (n + 1 + 1) x = List.replicate (n + 1) x ++ [x] from List.replicate_succ', List.foldl_append, cnt_rep h n]
    show cntStep _ x = _
    unfold cntStep
    rw [getF_last _ h, put_last _ _ h]; rfl
theorem cnt_folds : ∀ (ls fs : List Nat) (F : List (Str × Nat)), (F.map (·.1) ++ keysOf ls).Nodup → (∀ f, f ∈ fs → 0 < f) → fs.length = ls.length → (foldsL ls fs).foldl cntStep F = F ++ FF ls fs
  | [], fs, F, _, _, _ => by simp [foldsL, FF]
  | [l], fs, F, hn, hp, hl => by
    obtain ⟨f, rfl⟩ : ∃ f, fs = [f] := by
      match fs, hl with
      | [f], _ => exact ⟨f, rfl⟩
    obtain ⟨n, rfl⟩ : ∃ n, f = n + 1 := ⟨f - 1, by have := hp f List.mem_cons_self; lia⟩
    have hx : one l ∉ F.map (·.1) := fun h => (List.nodup_append.mp hn).2.2 _ h _ (by simp [keysOf]) rfl
    exact cnt_rep hx n
  | l :: l' :: r, fs, F, hn, hp, hl => by
    obtain ⟨f, g, rfl⟩ : ∃ f g, fs = f :: g := by
      match fs, hl with
      | f :: g, _ => exact ⟨f, g, rfl⟩
    obtain ⟨n, rfl⟩ : ∃ n, f = n + 1 := ⟨f - 1, by have := hp f List.mem_cons_self; lia⟩
    have hd := List.nodup_append.mp hn
    have hx : one l ∉ F.map (·.1) := fun h => hd.2.2 _ h _ (by simp [keysOf]) rfl
    have hk : keysOf (l :: l' :: r) = one l :: two l l' :: keysOf (l' :: r) := rfl
    have hy : two l l' ∉ (F ++ [(one l, n + 1)]).map (·.1) := by
      rw [List.map_append]
      intro h
      rcases List.mem_append.mp h with h | h
      · exact hd.2.2 _ h _ (by simp [keysOf]) rfl
      · have h2 := hd.2.1
        rw [hk] at h2
        have := (List.nodup_cons.mp h2).1
        simp only [List.map_cons, List.map_nil, List.mem_singleton] at h
        exact this (h ▸ List.mem_cons_self)
    simp only [foldsL, FF, List.headD_cons, List.tail_cons, List.foldl_append]
    rw [cnt_rep hx n]
    have h2 : ([two l l'] : List Str).foldl cntStep (F ++ [(one l, n + 1)]) = (F ++ [(one l, n + 1)]) ++ [(two l l', 1)] := by
      show cntStep _ _ = _
      unfold cntStep
      rw [getF_none hy, put_new _ hy]; rfl
    rw [h2, cnt_folds (l' :: r) g _ ?_ (fun f hf => hp f (List.mem_cons_of_mem _ hf)) (by simpa using hl)]
    · simp
    · rw [hk] at hn
      simpa using hn
/-! ## the stock's folds -/
noncomputable def lsB (h : Nat) (ls : List Nat) : Bool :=
  decide (ls.length = 2 + 2 * h) && decide ((keysOf ls).Nodup) && (ls.all fun l => decide (97 ≤ l ∧ l ≤ 122) && allL.contains l) &&
    (List.range ls.length).all fun p => (List.range 9).any fun i => decide (allL.getD i 0 = ls.getD p 0) && ((!decide (p + 1 < ls.length)) || (decide (i < 8) && decide (ls.getD (p + 1) 0 = allL.getD (i + 1) 0)))
theorem ls_b {h : Nat} {ls : List Nat} (w : IsWord h ls) : lsB h ls = true := word_all (P := lsB) (by decide +kernel) w
structure LsOk (h : Nat) (ls : List Nat) : Prop where
  len : ls.length = 2 + 2 * h
  nd : (keysOf ls).Nodup
  az : ∀ l, l ∈ ls → 97 ≤ l ∧ l ≤ 122 ∧ l ∈ allL
  next : ∀ p, p < ls.length → ∃ i, allL.getD i 0 = ls.getD p 0 ∧ (p + 1 < ls.length → i < 8 ∧ ls.getD (p + 1) 0 = allL.getD (i + 1) 0)
theorem ls_ok {h : Nat} {ls : List Nat} (w : IsWord h ls) : LsOk h ls := by
  have b := ls_b w
  unfold lsB at b
  simp only [Bool.and_eq_true, decide_eq_true_eq, List.all_eq_true, List.any_eq_true, List.contains_iff_mem, Bool.or_eq_true, Bool.not_eq_true', decide_eq_false_iff_not] at b
  obtain ⟨⟨⟨h1, h2⟩, h3⟩, h4⟩ := b
  refine ⟨h1, h2, fun l hl => ⟨(h3 l hl).1.1, (h3 l hl).1.2, (h3 l hl).2⟩, fun p hp => ?_⟩
  obtain ⟨i, _, h5, h6⟩ := h4 p (List.mem_range.mpr hp)
  exact ⟨i, h5, fun q => h6.resolve_left fun n => n q⟩
theorem two_len (a b : Nat) : (two a b).length = 2 := rfl
theorem one_len (a : Nat) : (one a).length = 1 := rfl
theorem code_sign {l : Nat} (hl : l ∈ allL) (c3 p j : Nat) : Sign (codeOf c3 p j l) (one l) := by
  unfold Sign codeOf
  refine single_sign l hl _ ?_
  have h : (c3 + 5 * p + j) % 12 < rowsL.length := Nat.mod_lt _ (by decide)
  rw [List.getD_eq_getElem?_getD, List.getElem?_eq_getElem h]
  exact List.getElem_mem h
theorem pair_code {h : Nat} {ls : List Nat} (ok : LsOk h ls) {p l : Nat} (hl : ls[p]? = some l) (hp : p + 1 < ls.length) (c : Nat) : pairOf l ≠ [] ∧ Sign ((pairOf l).getD (c % (pairOf l).length) 0) (two l (ls.getD (p + 1) 0)) := by
  obtain ⟨i, h1, h2⟩ := ok.next p (by lia)
  obtain ⟨h3, h4⟩ := h2 hp
  have e : ls.getD p 0 = l := by rw [List.getD_eq_getElem?_getD, hl]; rfl
  rw [e] at h1
  have hne := pair_more i h3
  rw [h1] at hne
  refine ⟨hne, ?_⟩
  have hm := Nat.mod_lt c (List.length_pos_iff.mpr hne)
  have := pair_sign i h3 ((pairOf l).getD (c % (pairOf l).length) 0) (by
    rw [h1, List.getD_eq_getElem?_getD, List.getElem?_eq_getElem hm]
    exact List.getElem_mem hm)
  rw [h1, ← h4] at this
  exact this
theorem code_all {h : Nat} {ls : List Nat} (ok : LsOk h ls) (fs : List Nat) (c3 c4 : Nat) {p l : Nat} (hl : ls[p]? = some l) : ∀ c, c ∈ codesAt ls.length fs c3 c4 l p → ∃ x, Sign c x ∧ x.length ≤ 10 := by
  intro c hc
  unfold codesAt at hc
  rcases List.mem_append.mp hc with hc | hc
  · obtain ⟨j, _, rfl⟩ := List.mem_map.mp hc
    exact ⟨_, code_sign (ok.az l (List.mem_of_getElem? hl)).2.2 c3 p j, by rw [one_len]; decide⟩
  · split at hc
    · rename_i hp
      rw [List.mem_singleton.mp hc]
      exact ⟨_, (pair_code ok hl hp c4).2, by rw [two_len]; decide⟩
    · cases hc
theorem st_ok {h : Nat} {ls : List Nat} (ok : LsOk h ls) (hh : h < 3) {fs : List Nat} (hl : fs.length = ls.length) (hf : ∀ f, f ∈ fs → f ≤ 7) : StOk ls fs :=
  ⟨hl, by have := ok.len; lia, hf, fun l q => ⟨(ok.az l q).1, (ok.az l q).2.1⟩, fun p l q r => (pair_code ok q r 0).1⟩
theorem zip_mem {α : Type} {xs : List α} {y : α × Nat} (h : y ∈ xs.zipIdx) : xs[y.2]? = some y.1 := by
  obtain ⟨i, hi⟩ := List.getElem?_of_mem h
  rw [List.getElem?_zipIdx] at hi
  cases e : xs[i]? with
  | none => rw [e] at hi; cases hi
  | some x => rw [e] at hi; simp at hi; rw [← hi]; exact e
theorem stock_ok {h : Nat} {ls : List Nat} (ok : LsOk h ls) (fs : List Nat) (c3 c4 : Nat) : ∀ p, p ∈ stockN ls fs c3 c4 → FoOk b1S b3T p := by
  intro q hq
  unfold stockN at hq
  obtain ⟨x, hx, hq⟩ := List.mem_flatMap.mp hq
  obtain ⟨y, hy, rfl⟩ := List.mem_map.mp hq
  obtain ⟨z, hz, hzl⟩ := code_all ok fs c3 c4 (zip_mem hx) y.1 (List.mem_of_getElem? (zip_mem hy))
  exact piece_ok hz hzl
noncomputable def foldsAt (ls fs : List Nat) (l p : Nat) : List Str := List.replicate (fs.getD p 0) (one l) ++ (if p + 1 < ls.length then [two l (ls.getD (p + 1) 0)] else [])
theorem map_const {α β : Type} (f : α → β) (b : β) : ∀ xs : List α, (∀ x, x ∈ xs → f x = b) → xs.map f = List.replicate xs.length b
  | [], _ => rfl
  | x :: xs, h => by rw [List.map_cons, h x List.mem_cons_self, map_const f b xs fun y hy => h y (List.mem_cons_of_mem _ hy)]; rfl
theorem zipIdx_fst {α β : Type} (f : α → β) : ∀ (xs : List α) (n : Nat), (xs.zipIdx n).map (fun y => f y.1) = xs.map f
  | [], _ => rfl
  | x :: xs, n => by rw [List.zipIdx_cons, List.map_cons, List.map_cons, zipIdx_fst f xs (n + 1)]
theorem folds_at {h : Nat} {ls : List Nat} (ok : LsOk h ls) (fs : List Nat) (c3 c4 : Nat) {p l : Nat} (hl : ls[p]? = some l) :
    ((codesAt ls.length fs c3 c4 l p).zipIdx.map fun y => pieceN c4 p y.1 y.2).map (foldOf b3T) = foldsAt ls fs l p := by
  rw [List.map_map]
  have e : (codesAt ls.length fs c3 c4 l p).zipIdx.map (foldOf b3T ∘ fun y => pieceN c4 p y.1 y.2) = (codesAt ls.length fs c3 c4 l p).zipIdx.map fun y => b3of b3T y.1 := by
    refine List.map_congr_left fun y hy => ?_
    obtain ⟨z, hz, _⟩ := code_all ok fs c3 c4 hl y.1 (List.mem_of_getElem? (zip_mem hy))
    simp only [Function.comp]
    rw [piece_fold hz, hz.all.2.2.2]
  rw [e, zipIdx_fst]
  unfold codesAt foldsAt
  rw [List.map_append]
  congr 1
  · rw [List.map_map, map_const _ (one l)]
    · rw [List.length_range]
    · intro j _
      exact (code_sign (ok.az l (List.mem_of_getElem? hl)).2.2 c3 p j).all.2.2.2
  · split
    · rename_i hp
      rw [List.map_cons, List.map_nil, (pair_code ok hl hp c4).2.all.2.2.2]
    · rfl
theorem folds_idx (ls fs : List Nat) (c3 c4 : Nat) {h : Nat} (ok : LsOk h ls) : (stockN ls fs c3 c4).map (foldOf b3T) = ls.zipIdx.flatMap fun x => foldsAt ls fs x.1 x.2 := by
  unfold stockN
  rw [flatMap_map']
  exact flatMap_congr' fun x hx => folds_at ok fs c3 c4 (zip_mem hx)
theorem shape2 {xs : List Nat} (h : xs.length = 2) : ∃ a b, xs = [a, b] := by
  match xs, h with
  | [a, b], _ => exact ⟨a, b, rfl⟩
theorem shape4 {xs : List Nat} (h : xs.length = 4) : ∃ a b c d, xs = [a, b, c, d] := by
  match xs, h with
  | [a, b, c, d], _ => exact ⟨a, b, c, d, rfl⟩
theorem shape6 {xs : List Nat} (h : xs.length = 6) : ∃ a b c d e f, xs = [a, b, c, d, e, f] := by
  match xs, h with
  | [a, b, c, d, e, f], _ => exact ⟨a, b, c, d, e, f, rfl⟩
theorem folds_shape {h : Nat} {ls fs : List Nat} (ok : LsOk h ls) (hh : h < 3) (hl : fs.length = ls.length) : (ls.zipIdx.flatMap fun x => foldsAt ls fs x.1 x.2) = foldsL ls fs := by
  have hlen := ok.len
  obtain rfl | rfl | rfl : h = 0 ∨ h = 1 ∨ h = 2 := by lia
  · obtain ⟨a, b, rfl⟩ := shape2 hlen
    obtain ⟨p, q, rfl⟩ := shape2 hl
    simp [foldsAt, foldsL]
  · obtain ⟨a, b, c, d, rfl⟩ := shape4 hlen
    obtain ⟨p, q, r, s, rfl⟩ := shape4 hl
    simp [foldsAt, foldsL]
  · obtain ⟨a, b, c, d, e, f, rfl⟩ := shape6 hlen
    obtain ⟨p, q, r, s, t, u, rfl⟩ := shape6 hl
    simp [foldsAt, foldsL]
theorem stock_folds {h : Nat} {ls fs : List Nat} (ok : LsOk h ls) (hh : h < 3) (hl : fs.length = ls.length) (hf : ∀ f, f ∈ fs → 0 < f) (c3 c4 : Nat) : cnt ((stockN ls fs c3 c4).map (foldOf b3T)) = FF ls fs := by
  rw [folds_idx ls fs c3 c4 ok, folds_shape ok hh hl]
  have := cnt_folds ls fs [] (by simpa using ok.nd) hf hl
  simpa [cnt] using this
theorem stock_len {h : Nat} {ls fs : List Nat} (ok : LsOk h ls) (hh : h < 3) (hl : fs.length = ls.length) (hf : ∀ f, f ∈ fs → f ≤ 7) (c3 c4 : Nat) : (stockN ls fs c3 c4).length ≤ 1000 := by
  have h1 : (stockN ls fs c3 c4).length = (stockL ls fs c3 c4).length := by
    have := congrArg List.length (stock_S ls fs c3 c4)
    simpa using this.symm
  rw [h1]
  unfold stockL
  have := flat_take_len (fun x : Nat × Nat => piecesAt ls.length fs c3 c4 x.1 x.2) 8 ls.zipIdx fun x hx => pieces_len _ _ _ _ _ _ (by
    rw [List.getD_eq_getElem?_getD]
    cases e : fs[x.2]? with
    | none => exact Nat.zero_le _
    | some y => exact hf y (List.mem_of_getElem? e))
  have h2 := ok.len
  rw [List.length_zipIdx] at this
  lia
theorem keys_FF : ∀ (ls fs : List Nat), (FF ls fs).map (·.1) = keysOf ls
  | [], _ => rfl
  | [_], _ => rfl
  | l :: l' :: r, fs => by simp only [FF, keysOf, List.map_cons, keys_FF (l' :: r) fs.tail]
theorem getF_mem {α : Type} {F : List (Str × α)} (hn : (F.map (·.1)).Nodup) {x : Str} {n : α} (h : (x, n) ∈ F) : getF F x = some n := by
  induction F with
  | nil => cases h
  | cons y F ih =>
    simp only [List.map_cons, List.nodup_cons] at hn
    unfold getF
    rcases List.mem_cons.mp h with rfl | h
    · simp
    · have hne : ¬ y.1 = x := fun e => hn.1 (List.mem_map.mpr ⟨_, h, e.symm⟩)
      rw [List.find?_cons_of_neg (by simpa using hne)]
      exact ih hn.2 h
/-! ## the numbers -/
noncomputable def kStep (f : Nat) (k : List Nat) : List Nat := (f * k.getD 0 0 + k.getD 1 0) :: k
noncomputable def kList : List Nat → List Nat
  | [] => [1, 0]
  | f :: r => kStep f (kList r)
/-- without the sign for the letters h and h + 1 -/
noncomputable def kWo : Nat → List Nat → List Nat
  | _, [] => [1, 0]
  | 0, f :: r => (f * (kList r).getD 0 0) :: kList r
  | h + 1, f :: r => kStep f (kWo h r)
noncomputable def frK (fs : List Nat) : Nat → List Nat
  | 0 => [1]
  | 1 => [1, fs.getD 0 0 * 1]
  | p + 2 => frK fs (p + 1) ++ [(frK fs (p + 1)).getD p 0 + fs.getD (p + 1) 0 * (frK fs (p + 1)).getD (p + 1) 0]
noncomputable def fsD (h d0 d1 d2 : Nat) : List Nat := ([2 + d0, 1 + d1, 1 + d2].take (h + 1)) ++ ([2 + d0, 1 + d1, 1 + d2].take (h + 1)).reverse
noncomputable def numA (h : Nat) (fs : List Nat) : Bool :=
  decide (fs.length = 2 + 2 * h) && (fs.all fun f => decide (0 < f ∧ f ≤ 7)) && ((List.range fs.length).all fun p => decide ((kList fs).getD (p + 1) 0 ≠ 0 ∧ (kList fs).getD p 0 / (kList fs).getD (p + 1) 0 = fs.getD p 0 ∧ (kList fs).getD p 0 % (kList fs).getD (p + 1) 0 = (kList fs).getD (p + 2) 0)) &&
    decide ((kList fs).getD fs.length 0 = 1 ∧ (kList fs).getD (fs.length + 1) 0 = 0 ∧ (kList fs).length = fs.length + 2) && ((kList fs).all fun x => decide (x < 10 ^ 6))
noncomputable def numB (h : Nat) (fs : List Nat) : Bool :=
  decide (frK fs fs.length = (List.range (fs.length + 1)).map fun j => (kList fs).getD (fs.length - j) 0) &&
    decide (((((kList fs).drop 1).filter fun x => decide (x * x ≤ (kList fs).getD 0 0)).take 2).map (fun x => x * x) = [(kWo h fs).getD 0 0, (kList fs).getD 0 0 - (kWo h fs).getD 0 0]) && decide ((kWo h fs).getD 0 0 ≤ (kList fs).getD 0 0)
/-- upon place p: the quotient and the rest -/
noncomputable def numC (fs : List Nat) (p : Nat) : Bool :=
  let k := kList fs
  let q := (kList fs.dropLast).getD p 0
  let r := (frK fs fs.length).getD (p - 1) 0
  let n := k.getD 1 0 * k.getD p 0
  if p % 2 = 0 then decide (n / k.getD 0 0 = q ∧ n % k.getD 0 0 = r)
  else decide (((-(n : Int)).fdiv (k.getD 0 0 : Int) = -(q : Int)) ∧ ((-(n : Int)).fmod (k.getD 0 0 : Int) = (r : Int)) ∧ 1 ≤ q + 1 ∧ (n / k.getD 0 0 : Nat) = ((q : Int) - 1) ∧ (n % k.getD 0 0 : Nat) = ((k.getD 0 0 : Int) - (r : Int)))
noncomputable def numD (fs : List Nat) : Bool := (List.range fs.length).all fun p => numC fs (p + 1)
theorem num_a : ∀ h, h < 3 → ∀ d0, d0 < 6 → ∀ d1, d1 < 6 → ∀ d2, d2 < 6 → numA h (fsD h d0 d1 d2) = true := by decide +kernel
theorem num_b : ∀ h, h < 3 → ∀ d0, d0 < 6 → ∀ d1, d1 < 6 → ∀ d2, d2 < 6 → numB h (fsD h d0 d1 d2) = true := by decide +kernel
theorem num_d : ∀ h, h < 3 → ∀ d0, d0 < 6 → ∀ d1, d1 < 6 → ∀ d2, d2 < 6 → numD (fsD h d0 d1 d2) = true := by decide +kernel
/-! ## the ways are the numbers -/
theorem waysL_cons (F : List (Str × Nat)) (row : List Str) (rows : List (List Str)) : waysL F (row :: rows) = waysStep F (waysL F rows) row := by
  unfold waysL
  rw [List.reverse_cons, List.foldl_append]; rfl
noncomputable def Knows (F G : List (Str × Nat)) : Prop := ∀ y, y ∈ G → getF F y.1 = some y.2
theorem step1 {F : List (Str × Nat)} {l f : Nat} (h : getF F (one l) = some f) (ws : List Nat) : waysStep F ws [one l] = (f * ws.getD 0 0) :: ws := by
  unfold waysStep
  simp [h, one_len]
theorem step2 {F : List (Str × Nat)} {l l' f : Nat} (h : getF F (one l) = some f) (h2 : getF F (two l l') = some 1) (ws : List Nat) : waysStep F ws [one l, two l l'] = kStep f ws := by
  unfold waysStep kStep
  simp [h, h2, one_len, two_len]
theorem ways_k {F : List (Str × Nat)} : ∀ (ls fs : List Nat), fs.length = ls.length → Knows F (FF ls fs) → waysL F (fitL ls) = kList fs
  | [], [], _, _ => rfl
  | [l], [f], _, hk => by
    rw [show fitL [l] = [[one l]] from rfl, waysL_cons, step1 (hk (one l, f) (by simp [FF]))]
    simp [waysL, kList, kStep]
  | l :: l' :: r, f :: g, hl, hk => by
    have ih := ways_k (l' :: r) g (by simpa using hl) fun y hy => hk y (by simp [FF, hy])
    rw [show fitL (l :: l' :: r) = [one l, two l l'] :: fitL (l' :: r) from rfl, waysL_cons, ih, step2 (hk (one l, f) (by simp [FF])) (hk (two l l', 1) (by simp [FF]))]
    rfl
noncomputable def fitW : Nat → List Nat → List (List Str)
  | _, [] => []
  | _, [l] => [[one l]]
  | 0, l :: l' :: r => [one l] :: fitL (l' :: r)
  | h + 1, l :: l' :: r => [one l, two l l'] :: fitW h (l' :: r)
theorem ways_wo {F : List (Str × Nat)} : ∀ (h : Nat) (ls fs : List Nat), fs.length = ls.length → h + 1 < ls.length → Knows F (FF ls fs) → waysL F (fitW h ls) = kWo h fs
  | _, [], _, _, h, _ => by simp at h
  | _, [_], _, _, h, _ => by simp at h
  | _, _ :: _ :: _, [], hl, _, _ => by simp at hl
  | 0, l :: l' :: r, f :: g, hl, _, hk => by
    have ih := ways_k (F := F) (l' :: r) g (by simpa using hl) fun y hy => hk y (by simp [FF, hy])
    rw [show fitW 0 (l :: l' :: r) = [one l] :: fitL (l' :: r) from rfl, waysL_cons, ih, step1 (hk (one l, f) (by simp [FF]))]
    rfl
  | h + 1, l :: l' :: r, f :: g, hl, hh, hk => by
    have ih := ways_wo (F := F) h (l' :: r) g (by simpa using hl) (by simpa using hh) fun y hy => hk y (by simp [FF, hy])
    rw [show fitW (h + 1) (l :: l' :: r) = [one l, two l l'] :: fitW h (l' :: r) by cases r <;> rfl, waysL_cons, ih, step2 (hk (one l, f) (by simp [FF])) (hk (two l l', 1) (by simp [FF]))]
    rfl
theorem fitL_ne (l : Nat) (r : List Nat) : fitL (l :: r) ≠ [] := by cases r <;> simp [fitL]
theorem ways_in {F : List (Str × Nat)} : ∀ (ls fs : List Nat), fs.length = ls.length → Knows F (FF ls fs) → waysL F (fitL ls).dropLast = kList fs.dropLast
  | [], [], _, _ => rfl
  | [l], [f], _, _ => rfl
  | l :: l' :: r, f :: f' :: g, hl, hk => by
    have ih := ways_in (F := F) (l' :: r) (f' :: g) (by simpa using hl) fun y hy => hk y (by simp only [FF, List.tail_cons, List.mem_cons]; exact .inr (.inr hy))
    rw [show fitL (l :: l' :: r) = [one l, two l l'] :: fitL (l' :: r) from rfl, List.dropLast_cons_of_ne_nil (fitL_ne _ _), waysL_cons, ih, step2 (hk (one l, f) (by simp [FF])) (hk (two l l', 1) (by simp [FF]))]
    rfl
theorem FF_one : ∀ (ls fs : List Nat) (i l : Nat), fs.length = ls.length → ls[i]? = some l → (one l, fs.getD i 0) ∈ FF ls fs
  | [l], [f], 0, _, _, h => by simp at h; subst h; simp [FF]
  | [l], [f], i + 1, _, _, h => by simp at h
  | l :: l' :: r, f :: g, 0, _, _, h => by simp at h; subst h; simp [FF]
  | l :: l' :: r, f :: g, i + 1, x, hl, h => by
    have := FF_one (l' :: r) g i x (by simpa using hl) (by simpa using h)
    simp only [FF, List.tail_cons, List.mem_cons]
    exact .inr (.inr (by simpa using this))
theorem FF_two : ∀ (ls fs : List Nat) (i l l' : Nat), fs.length = ls.length → ls[i]? = some l → ls[i + 1]? = some l' → (two l l', 1) ∈ FF ls fs
  | [l], _, 0, _, _, _, _, h => by simp at h
  | [l], _, i + 1, _, _, _, h, _ => by simp at h
  | l :: l' :: r, f :: g, 0, _, _, _, h, h' => by simp at h h'; subst h; subst h'; simp [FF]
  | l :: l' :: r, f :: g, i + 1, x, y, hl, h, h' => by
    have := FF_two (l' :: r) g i x y (by simpa using hl) (by simpa using h) (by simpa using h')
    simp only [FF, List.tail_cons, List.mem_cons]
    exact .inr (.inr this)
noncomputable def frStep (F : List (Str × Nat)) (fr : List Nat) (ends : List Str) (p : Nat) : List Nat := fr ++ [(ends.map fun f => (getF F f).getD 0 * fr.getD (p - f.length) 0).sum]
noncomputable def frN (F : List (Str × Nat)) (E : Nat → List Str) : Nat → List Nat
  | 0 => [1]
  | p + 1 => frStep F (frN F E p) (E (p + 1)) (p + 1)
theorem endL_two {ls : List Nat} {p l l' : Nat} (h : ls[p]? = some l) (h' : ls[p + 1]? = some l') : endL ls (p + 2) = [two l l', one l'] := by
  unfold endL
  rw [show p + 2 - 2 = p by lia, show p + 2 - 1 = p + 1 by lia, h, h']
theorem fr_k {F : List (Str × Nat)} {ls fs : List Nat} (hl : fs.length = ls.length) (hk : Knows F (FF ls fs)) : ∀ p, p ≤ ls.length → frN F (endL ls) p = frK fs p
  | 0, _ => rfl
  | 1, hp => by
    obtain ⟨l, h⟩ : ∃ l, ls[0]? = some l := ⟨_, List.getElem?_eq_getElem hp⟩
    have h1 := hk _ (FF_one ls fs 0 l hl h)
    have e : endL ls 1 = [one l] := by unfold endL; rw [show 1 - 1 = 0 by rfl, h]
    show frStep F [1] (endL ls 1) 1 = _
    rw [e]
    unfold frStep
    simp only [List.map_cons, List.map_nil, h1, one_len, List.sum_cons, List.sum_nil]
    rfl
  | p + 2, hp => by
    have ih := fr_k hl hk (p + 1) (by lia)
    obtain ⟨l, h⟩ : ∃ l, ls[p]? = some l := ⟨_, List.getElem?_eq_getElem (by lia)⟩
    obtain ⟨l', h'⟩ : ∃ l', ls[p + 1]? = some l' := ⟨_, List.getElem?_eq_getElem (by lia)⟩
    have h1 := hk _ (FF_one ls fs (p + 1) l' hl h')
    have h2 := hk _ (FF_two ls fs p l l' hl h h')
    show frStep F (frN F (endL ls) (p + 1)) (endL ls (p + 2)) (p + 2) = _
    rw [ih, endL_two h h']
    unfold frStep
    simp only [List.map_cons, List.map_nil, h1, h2, one_len, two_len, List.sum_cons, List.sum_nil, Option.getD_some]
    rw [show p + 2 - 2 = p by lia, show p + 2 - 1 = p + 1 by lia, Nat.one_mul, Nat.add_zero]
    rfl
theorem knows {ls fs : List Nat} (hn : (keysOf ls).Nodup) : Knows (FF ls fs) (FF ls fs) := fun y hy => getF_mem (by rw [keys_FF]; exact hn) hy
theorem fit_keys : ∀ (ls : List Nat) (r : List Str), r ∈ fitL ls → r.length ≤ 2 ∧ ∀ f, f ∈ r → f ∈ keysOf ls
  | [l], r, h => by simp [fitL] at h; subst h; simp [keysOf]
  | l :: l' :: t, r, h => by
    simp only [fitL, List.mem_cons] at h
    rcases h with rfl | h
    · exact ⟨by simp, fun f hf => by simp at hf; rcases hf with rfl | rfl <;> simp [keysOf]⟩
    · have := fit_keys (l' :: t) r h
      exact ⟨this.1, fun f hf => by simp [keysOf, this.2 f hf]⟩
theorem key_val : ∀ (ls fs : List Nat), fs.length = ls.length → (∀ f, f ∈ fs → f ≤ 7) → ∀ x, x ∈ keysOf ls → ∃ n, (x, n) ∈ FF ls fs ∧ n ≤ 16 ∧ (x.length = 1 ∨ x.length = 2)
  | [l], [f], _, hf, x, h => by
    simp [keysOf] at h; subst h
    exact ⟨f, by simp [FF], by have := hf f List.mem_cons_self; lia, .inl rfl⟩
  | l :: l' :: r, f :: g, hl, hf, x, h => by
    simp only [keysOf, List.mem_cons] at h
    rcases h with rfl | rfl | h
    · exact ⟨f, by simp [FF], by have := hf f List.mem_cons_self; lia, .inl rfl⟩
    · exact ⟨1, by simp [FF], by decide, .inr rfl⟩
    · obtain ⟨n, h1, h2⟩ := key_val (l' :: r) g (by simpa using hl) (fun y hy => hf y (List.mem_cons_of_mem _ hy)) x h
      exact ⟨n, by simp [FF, h1], h2⟩
theorem wy_ok {ls fs : List Nat} (hn : (keysOf ls).Nodup) (hl : fs.length = ls.length) (h6 : ls.length ≤ 6) (hf : ∀ f, f ∈ fs → f ≤ 7) {fits : List (List Str)} (h1 : fits.length ≤ ls.length) (h2 : ∀ r, r ∈ fits → r.length ≤ 2 ∧ ∀ f, f ∈ r → f ∈ keysOf ls) : WyOk (FF ls fs) fits :=
  ⟨by lia, fun r hr => by have := (h2 r hr).1; lia, fun r hr f hfr => by
    obtain ⟨n, h3, h4, h5⟩ := key_val ls fs hl hf f ((h2 r hr).2 f hfr)
    exact ⟨n, knows hn _ h3, h4, h5⟩⟩
theorem fitL_len : ∀ ls : List Nat, (fitL ls).length = ls.length
  | [] => rfl
  | [_] => rfl
  | l :: l' :: r => by simp only [fitL, List.length_cons]; rw [fitL_len (l' :: r)]; rfl
noncomputable def midOf (h : Nat) (ls : List Nat) : Str := Txt.slice (wordS ls) (some (h : Int)) (some ((h + 2 : Nat) : Int))
noncomputable def wordB6 (h : Nat) (ls : List Nat) : Bool := decide ((fitL ls).map (fun r => r.filter fun f => !(f == midOf h ls)) = fitW h ls)
theorem word_b6 {h : Nat} {ls : List Nat} (w : IsWord h ls) : wordB6 h ls = true := word_all (P := wordB6) (by decide +kernel) w
noncomputable def allS : Str := "hprstmwbq"
theorem word_cut : ∀ h : Nat, h < 3 → ∀ i : Nat, i < 8 - 2 * h → Txt.slice (Txt.slice allS (some (i : Int)) none) none (some ((2 + 2 * h : Nat) : Int)) = wordS (lsOf h i) := by decide +kernel
noncomputable def waB (ls : List Nat) : Bool := (Txt.charAt (wordS ls) 0).isSome && (Txt.charAt (wordS ls) 1).isSome && (Txt.charAt (wordS ls) (-1)).isSome && decide ((Txt.item (wordS ls) 0).length ≤ 10) && decide ((Txt.item (wordS ls) 1).length ≤ 10) && decide ((Txt.item (wordS ls) (-1)).length ≤ 10) && decide ((wordS ls).length ≤ 10) && decide ((Txt.slice (wordS ls) none (some 2)).length ≤ 10) && JoinOk dots (((wordS ls).cps.toList).map one)
theorem wa_ok {h : Nat} {ls : List Nat} (w : IsWord h ls) : WaOk (wordS ls) := by
  have b := word_all (P := fun _ ls => waB ls) (by decide +kernel) w
  unfold waB at b
  simp only [Bool.and_eq_true, decide_eq_true_eq] at b
  obtain ⟨⟨⟨⟨⟨⟨⟨⟨h1, h2⟩, h3⟩, h4⟩, h5⟩, h6⟩, h7⟩, h8⟩, h9⟩ := b
  exact ⟨h1, h2, h3, h4, h5, h6, h7, h8, h9⟩
/-! # law -/
noncomputable abbrev lawA : List Stmt := (fnBody PP iLaw).take 21
noncomputable def ownL : List Nat := [1, 2, 27, 0, 3, 4, 0]
noncomputable def pickI (sc : List Int) (lo hi st : Option Int) : List Int := (sliceRange (sliceBounds lo hi st sc.length).1 (sliceBounds lo hi st sc.length).2.1 (sliceBounds lo hi st sc.length).2.2).filterMap (sc[·]?)
theorem pick_int (sc : List Int) (lo hi st : Option Int) : pickL (sc.map .int) lo hi st = (pickI sc lo hi st).map .int := by
  unfold pickL pickI
  rw [List.length_map, List.map_filterMap]
  refine fm_congr fun i _ => ?_
  simp
noncomputable def cellOf (sc : List Int) (j : Nat) : Nat := (((ownL.getD j 0 : Nat) : Int) + (pickI sc (some (j : Int)) (some 60) (some 7)).sum).toNat
noncomputable def cellI (sc : List Int) (j : Nat) : Int := ((((ownL.getD j 0 : Nat) : Int) + (pickI sc (some (j : Int)) (some 60) (some 7)).sum)).fmod ((10 ^ 6 : Nat) : Int)
noncomputable def cellN (sc : List Int) (j : Nat) : Nat := (cellI sc j).toNat
theorem cell_cast (sc : List Int) (j : Nat) : cellI sc j = (cellN sc j : Int) ∧ cellN sc j < 10 ^ 6 := by
  have h1 := Int.fmod_nonneg_of_pos ((((ownL.getD j 0 : Nat) : Int) + (pickI sc (some (j : Int)) (some 60) (some 7)).sum)) (b := ((10 ^ 6 : Nat) : Int)) (by decide)
  have h2 := Int.fmod_lt_of_pos ((((ownL.getD j 0 : Nat) : Int) + (pickI sc (some (j : Int)) (some 60) (some 7)).sum)) (b := ((10 ^ 6 : Nat) : Int)) (by decide)
  unfold cellN
  change 0 ≤ cellI sc j at h1
  change cellI sc j < _ at h2
  exact ⟨(Int.toNat_of_nonneg h1).symm, by lia⟩
noncomputable def cellsL (sc : List Int) : List Nat := (List.range 7).map (cellN sc)
noncomputable def forthL (h c2 : Nat) : List Nat := (List.range (1 + h)).map fun j => (if j = 0 then 2 else 1) + c2 / 6 ^ j % 6
theorem forth_fs (h c2 : Nat) (hh : h < 3) : forthL h c2 ++ (forthL h c2).reverse = fsD h (c2 % 6) (c2 / 6 % 6) (c2 / 36 % 6) := by
  obtain rfl | rfl | rfl : h = 0 ∨ h = 1 ∨ h = 2 := by lia
  all_goals simp [forthL, fsD, List.range_succ_eq_map]
noncomputable def sideI (c0 : Nat) : Int := (1 : Int) - ((c0 / 3 % 2 * 2 : Nat) : Int)
theorem side_or (c0 : Nat) : sideI c0 = 1 ∨ sideI c0 = -1 := by unfold sideI; lia
/-- the law's frame, half the way -/
noncomputable abbrev lawE (sc cs : List Nat) : VEnv := []
noncomputable abbrev EA (sc : List Int) (h c0 : Nat) (ls fs : List Nat) (more : VEnv) : VEnv :=
  ("script", .own (.list (sc.map .int))) :: ("own", .own (.list (natL ownL))) :: ("cells", .own (.list (natL (cellsL sc)))) :: ("half", .own (.int ((1 + h : Nat) : Int))) :: ("many", .own (.int ((2 + 2 * h : Nat) : Int))) :: ("side", .own (.int (sideI c0))) :: ("word", .own (.str (wordS ls))) :: ("forms", .own (.list (natL fs))) :: ("unseen", .own (.str unsS)) :: ("folds", .own (.dict (dk (asD (FF ls fs))))) :: more
section
variable {prog : Program} {w : World} {G : Gl prog w} {k : Nat}
theorem law_a (hG : Glo G) (hk : 27 ≤ k) (Fu : FnOk G "_law_unseen" 1 (fun ds d => ds = [] ∧ d = .str unsS)) (Fs : FnOk G "_law_stock" 1 stRel) (Ff : FnOk G "_law_folds" 2 (foRel b1S b3T)) (sc : List Int) (hsc : sc.length ≤ 63) {P : Out → Prop}
    (next : ∀ h c0 ls fs, IsWord h ls → c0 < 10 ^ 6 → (∃ d0 d1 d2, d0 < 6 ∧ d1 < 6 ∧ d2 < 6 ∧ fs = fsD h d0 d1 d2) → ExTo G k (fnScope PP iLaw) (EA sc h c0 ls fs []) (lawA.drop 8) P) :
    ExTo G k (fnScope PP iLaw) [("script", .own (.list (sc.map .int)))] lawA P := by
  have hlid : lid = 1048576 := rfl
  refine ExTo.body (ss' := [_, _, _, _, _, _, _, _, _, _, _, _, _, _, _, _, _, _, _, _, _]) rfl ?_
  walk_at "s_step"
  case s1 =>
    with_reducible refine' Step.assign (d := .list (natL ownL)) ?k1 ?k2 ?k3 ?k4
    case k1 => walk_at "my_evc"
    case k2 => walk_at "my_x"
    case k3 => walk_at "my_x"
    case k4 => exact fun _ => rfl
  walk_at "s_step"
  case s1 =>
    with_reducible refine' Step.cmpN (f := fun j : Nat => .int (j : Int)) (g := fun j : Nat => .int (cellN sc j : Nat)) (xs := List.range 7) ?k1 ?k2 ?k3 ?k4 ?k5 ?k6 ?k7 ?k8 ?k9 ?k10
    case k1 => decide +kernel
    case k2 => walk_at "my_x"
    case k3 => walk_at "my_x"
    case k4 => exact fun _ _ => rfl
    case k5 => walk_at "my_x"
    case k6 => walk_at "my_x"
    case k7 =>
      intro j hj
      have hj := List.mem_range.mp hj
      rw [← (cell_cast sc j).1]
      unfold cellI
      have ho : ownL[j]? = some (ownL.getD j 0) := by
        have : j < ownL.length := hj
        rw [List.getD_eq_getElem?_getD, List.getElem?_eq_getElem this]; rfl
      with_reducible refine' EvTo.fmod (EvTo.add (EvTo.itemNat ?m1 ?m2 ho ?m3) (EvTo.sum ?m4 ?m5 ?m6 (EvTo.cast (EvTo.sliceL ?m7 (.some ?m8) (.some ?m9) (.some ?m10) ?m11) (congrArg PyData.list (pick_int sc _ _ _))) ?m12)) (EvTo.powN ?n1 ?n2 ?n3) ?n4
      case m1 => walk_at "my_x"
      case m2 => walk_at "my_nat"
      case m3 => exact fun _ _ => rfl
      case m4 => decide +kernel
      case m5 => exact (Glo.sum hG).1
      case m6 => exact (Glo.sum hG).2
      case m7 => walk_at "my_x"
      case m8 => walk_at "my_nat"
      case m9 => walk_at "my_x"
      case m10 => walk_at "my_x"
      case m11 => decide
      case m12 => walk_at "my_x"
      case n1 => walk_at "my_nat"
      case n2 => walk_at "my_nat"
      case n3 => decide
      case n4 => decide
    case k8 => decide
    case k9 => walk_at "my_x"
    case k10 => walk_at "my_x"
  have hc : ∀ j, j < 7 → (cellsL sc)[j]? = some (cellN sc j) := fun j hj => by unfold cellsL; rw [List.getElem?_map, List.getElem?_range hj]; rfl
  rw [show ((List.range 7).map fun j : Nat => PyData.int (cellN sc j : Nat)) = natL (cellsL sc) by unfold natL cellsL; rw [List.map_map]; rfl]
  have b0 := (cell_cast sc 0).2
  have b1 := (cell_cast sc 1).2
  have b2 := (cell_cast sc 2).2
  have b3 := (cell_cast sc 3).2
  have b4 := (cell_cast sc 4).2
  have hl6 : ∀ n : Nat, n ≤ 6 → n ≠ 0 → n.log2 < 9000 := by decide +kernel
  generalize hc0 : cellN sc 0 = c0 at *
  generalize hc1 : cellN sc 1 = c1 at *
  generalize hc2 : cellN sc 2 = c2 at *
  have e0 : (cellsL sc)[0]? = some c0 := by rw [hc 0 (by decide), hc0]
  have e1 : (cellsL sc)[1]? = some c1 := by rw [hc 1 (by decide), hc1]
  have e2 : (cellsL sc)[2]? = some c2 := by rw [hc 2 (by decide), hc2]
  have e3 : (cellsL sc)[3]? = some (cellN sc 3) := hc 3 (by decide)
  have e4 : (cellsL sc)[4]? = some (cellN sc 4) := hc 4 (by decide)
  obtain ⟨h, hh, hh3⟩ : ∃ h, c0 % 3 = h ∧ h < 3 := ⟨c0 % 3, rfl, Nat.mod_lt _ (by decide)⟩
  -- half, many, side
  walk_at "s_step"
  case s1 =>
    with_reducible refine' Step.tup (bs := [.own (.int ((1 + c0 % 3 : Nat) : Int)), .own (.int ((2 + c0 % 3 * 2 : Nat) : Int)), .own (.int (((1 : Nat) : Int) - ((c0 / 3 % 2 * 2 : Nat) : Int)))])
                                  (.cons ?k1 (.own (EvTo.addN ?m1 (EvTo.modN (EvTo.itemNat ?m2 ?m3 e0 ?m4) ?m5 ?m6))) (.cons ?k2 (.own (EvTo.addN ?n1 (EvTo.mulN (EvTo.modN (EvTo.itemNat ?n2 ?n3 e0 ?n4) ?n5 ?n6) ?n7 ?n8))) (.cons ?k3 (.own (EvTo.sub ?o1 (EvTo.mulN (EvTo.modN (EvTo.divN (EvTo.itemNat ?o2 ?o3 e0 ?o4) ?o5 ?o6 ?o7) ?o8 ?o9) ?p1 ?p2))) .nil))) ?k6 ?k7 ?k8 ?k9 ?k10
    case k1 => walk_at "my_x"
    case k2 => walk_at "my_x"
    case k3 => walk_at "my_x"
    case m2 => walk_at "my_x"
    case n2 => walk_at "my_x"
    case o2 => walk_at "my_x"
    case m4 => exact fun _ _ => rfl
    case n4 => exact fun _ _ => rfl
    case o4 => exact fun _ _ => rfl
    case m6 => decide
    case n6 => decide
    case o6 => decide
    case o9 => decide
    case o7 => decide +kernel
    case n8 => exact small_mul (by lia) (by decide)
    case p2 => exact small_mul (by lia) (by decide)
    case k6 => walk_at "my_x"
    case k8 => decide +kernel
    case k9 => rfl
    case k10 => exact Nat.le_of_ble_eq_true rfl
    case k7 => walk_at "my_x"
    case m1 | m3 | m5 | n1 | n3 | n5 | n7 | o1 | o3 | o5 | o8 | p1 => walk_at "my_nat"
  rw [hh, show 2 + h * 2 = 2 + 2 * h by lia, show ((1 : Nat) : Int) - ((c0 / 3 % 2 * 2 : Nat) : Int) = sideI c0 from rfl]
  -- word
  obtain ⟨i, hi, hi8⟩ : ∃ i, c1 % (10 - (2 + 2 * h)) = i ∧ i < 8 - 2 * h := ⟨_, rfl, by have := Nat.mod_lt c1 (show 0 < 10 - (2 + 2 * h) by lia); lia⟩
  have hw : IsWord h (lsOf h i) := ⟨hh3, i, hi8, rfl⟩
  have hcut := word_cut h hh3 i hi8
  walk_at "s_step"
  case s1 =>
    with_reducible refine' Step.assign (d := .str (wordS (lsOf h i))) ?k1 ?k2 ?k3 ?k4
    case k2 => walk_at "my_x"
    case k3 => walk_at "my_x"
    case k4 => exact fun _ => rfl
    case k1 =>
      rw [← hcut, ← hi]
      with_reducible refine' EvTo.sliceX (EvTo.sliceX ?m1 (.some (EvTo.modN (EvTo.itemNat ?m2 ?m3 e1 ?m4) (EvTo.subN ?m5 ?m6 ?m7) ?m8)) .none ?m9) .none (.some ?n1) ?n2
      case m1 => exact EvTo.strC
      case m2 => walk_at "my_x"
      case m3 => walk_at "my_nat"
      case m4 => exact fun _ _ => rfl
      case m5 => walk_at "my_nat"
      case m6 => walk_at "my_nat"
      case m7 => lia
      case m8 => lia
      case m9 => decide +kernel
      case n1 => walk_at "my_nat"
      case n2 =>
        rw [hi]
        have : ∀ h : Nat, h < 3 → ∀ i : Nat, i < 8 - 2 * h → (Txt.slice allS (some (i : Int)) none).length ≤ sizeLine := by decide +kernel
        exact this h hh3 i hi8
  -- forth
  walk_at "s_step"
  case s1 =>
    with_reducible refine' Step.cmpN (f := fun j : Nat => .int (j : Int)) (g := fun j : Nat => .int (((if j = 0 then 2 else 1) + c2 / 6 ^ j % 6 : Nat) : Int)) (xs := List.range (1 + h)) ?k1 ?k2 ?k3 ?k4 ?k5 ?k6 ?k7 ?k8 ?k9 ?k10
    case k1 => decide +kernel
    case k2 => walk_at "my_x"
    case k3 => walk_at "my_x"
    case k4 => exact fun _ _ => rfl
    case k5 => walk_at "my_x"
    case k6 => walk_at "my_x"
    case k7 =>
      intro j hj
      have hj := List.mem_range.mp hj
      with_reducible refine' EvTo.addN (EvTo.ite (t := decide (j = 0)) ?m1 ?m2 ?m3) (EvTo.modN (EvTo.divN (EvTo.itemNat ?m4 ?m5 e2 ?m6) (EvTo.powN ?m7 ?m8 ?m9) ?m10 ?m11) ?m12 ?m13)
      case m1 =>
        with_reducible refine' TrTo.cast (TrTo.cmp (a := .int ((j : Nat) : Int)) (b := .int ((0 : Nat) : Int)) ?n1 ?n2 CmpOk.eqI ?n3) ?n4
        case n1 => walk_at "my_nat"
        case n2 => walk_at "my_nat"
        case n3 => rfl
        case n4 =>
          rw [Bool.eq_iff_iff, beq_iff_eq, decide_eq_true_iff]
          lia
      case m2 => intro q; rw [if_pos (of_decide_eq_true q)]; exact EvTo.natC
      case m3 => intro q; rw [if_neg (of_decide_eq_false q)]; exact EvTo.natC
      case m4 => walk_at "my_x"
      case m5 => walk_at "my_nat"
      case m6 => exact fun _ _ => rfl
      case m7 => walk_at "my_nat"
      case m8 => walk_at "my_nat"
      case m9 =>
        rw [show Builtin.Int.intBits ((6 : Nat) : Int) = 3 from rfl]
        lia
      case m10 => exact Nat.ne_of_gt (Nat.pow_pos (by decide))
      case m11 =>
        have : ∀ j, j < 3 → (6 ^ j).log2 < 9000 := by decide +kernel
        exact this j (by lia)
      case m12 => walk_at "my_nat"
      case m13 => decide
    case k8 => simp only [List.length_range]; lia
    case k9 => walk_at "my_x"
    case k10 => walk_at "my_x"
  rw [show ((List.range (1 + h)).map fun j : Nat => PyData.int (((if j = 0 then 2 else 1) + c2 / 6 ^ j % 6 : Nat) : Int)) = natL (forthL h c2) by unfold natL forthL; rw [List.map_map]; rfl]
  have hfs := forth_fs h c2 hh3
  have hfo : (forthL h c2).length = 1 + h := by unfold forthL; simp
  obtain ⟨d0, d1, d2, hd0, hd1, hd2, hfs⟩ : ∃ d0 d1 d2, d0 < 6 ∧ d1 < 6 ∧ d2 < 6 ∧ forthL h c2 ++ (forthL h c2).reverse = fsD h d0 d1 d2 := ⟨_, _, _, Nat.mod_lt _ (by decide), Nat.mod_lt _ (by decide), Nat.mod_lt _ (by decide), hfs⟩
  -- forms
  walk_at "s_step"
  case s1 =>
    with_reducible refine' Step.assign (d := .list (natL (fsD h d0 d1 d2))) ?k1 ?k2 ?k3 ?k4
    case k2 => walk_at "my_x"
    case k3 => walk_at "my_x"
    case k4 => exact fun _ => rfl
    case k1 =>
      rw [← hfs, show natL (forthL h c2 ++ (forthL h c2).reverse) = natL (forthL h c2) ++ (natL (forthL h c2)).reverse by unfold natL; rw [List.map_append, List.map_reverse]]
      with_reducible refine' EvTo.catL (EvL.of ?m1) (EvL.of (EvTo.revL ?m2 ?m3)) ?m4
      case m1 => walk_at "my_x"
      case m2 => walk_at "my_x"
      case m3 => walk_at "my_x"
      case m4 => simp only [natL, List.length_append, List.length_reverse, List.length_map, hfo]; lia
  -- unseen
  walk_at "s_step"
  case s1 =>
    with_reducible refine' Step.assign (d := .str unsS) ?k1 ?k2 ?k3 ?k4
    case k1 => exact EvTo.user Fu (by decide +kernel) (by lia) .nil ⟨rfl, rfl⟩
    case k2 => walk_at "my_x"
    case k3 => walk_at "my_x"
    case k4 => exact fun _ => rfl
  have na := num_a h hh3 d0 hd0 d1 hd1 d2 hd2
  have lok := ls_ok hw
  obtain ⟨fs, hfse⟩ : ∃ fs, fsD h d0 d1 d2 = fs := ⟨_, rfl⟩
  have nfs : fs.length = 2 + 2 * h ∧ ∀ f, f ∈ fs → 0 < f ∧ f ≤ 7 := by
    unfold numA at na
    rw [hfse] at na
    simp only [Bool.and_eq_true, decide_eq_true_eq, List.all_eq_true] at na
    exact ⟨na.1.1.1.1, na.1.1.1.2⟩
  rw [hfse]
  have hlen : fs.length = (lsOf h i).length := by rw [nfs.1, lok.len]
  -- folds
  walk_at "s_step"
  case s1 =>
    with_reducible refine' Step.assign (d := .dict (dk (asD (FF (lsOf h i) fs)))) ?k1 ?k2 ?k3 ?k4
    case k2 => walk_at "my_x"
    case k3 => walk_at "my_x"
    case k4 => exact fun _ => rfl
    case k1 =>
      rw [← stock_folds lok hh3 hlen (fun f hf => (nfs.2 f hf).1) (cellN sc 3) (cellN sc 4)]
      with_reducible refine' EvTo.user Ff ?m1 ?m2 (.cons ?m3 (EvTo.cast (EvTo.user Fs ?m4 ?m5 ?m6 ⟨lsOf h i, fs, cellsL sc, cellN sc 3, cellN sc 4, rfl, ?m7, e3, e4, b3, b4, rfl⟩) (congrArg PyData.list (stock_S _ _ _ _))) (.cons ?m8 ?m9 .nil)) ⟨stockN (lsOf h i) fs (cellN sc 3) (cellN sc 4), rfl, ?m10, ?m11, rfl⟩
      case m1 => decide +kernel
      case m2 => lia
      case m3 => walk_at "my_x"
      case m4 => decide +kernel
      case m5 => lia
      case m6 => walk_at "my_x"
      case m7 => exact st_ok lok hh3 hlen fun f hf => (nfs.2 f hf).2
      case m8 => walk_at "my_x"
      case m9 => walk_at "my_x"
      case m10 => exact stock_ok lok fs _ _
      case m11 => exact stock_len lok hh3 hlen (fun f hf => (nfs.2 f hf).2) _ _
  refine' ExTo.perm ?q1 ?q2 (next h c0 (lsOf h i) fs hw b0 ⟨d0, d1, d2, hd0, hd1, hd2, hfse.symm⟩)
  case q1 =>
    intro p hp
    simp only [EA, List.mem_cons, List.not_mem_nil, or_false] at hp
    rcases hp with rfl | rfl | rfl | rfl | rfl | rfl | rfl | rfl | rfl | rfl <;> simp only [List.mem_cons, true_or, or_true]
  case q2 => dsimp only [EA, List.map]; decide +kernel
end
/-! # law: words -/
noncomputable abbrev EB (cs : List Nat) (h c0 : Nat) (ls fs : List Nat) : VEnv :=
  [("cells", .own (.list (natL cs))), ("half", .own (.int ((1 + h : Nat) : Int))), ("many", .own (.int ((2 + 2 * h : Nat) : Int))), ("side", .own (.int (sideI c0))), ("word", .own (.str (wordS ls))), ("forms", .own (.list (natL fs))), ("folds", .own (.dict (dk (asD (FF ls fs)))))]
noncomputable def wordB7 (ls : List Nat) : Bool := (keysOf ls).all (fun f => PyData.strOk f && decide (f.length ≤ 2)) && decide ((keysOf ls).length ≤ 16) && !(keysOf ls).isEmpty && decide ((Txt.item (wordS ls) 0).length ≤ 10) && decide ((Txt.item (wordS ls) (-1)).length ≤ 10) && decide ((wantsL (wordS ls)).length ≤ 16)
theorem word_b7 {h : Nat} {ls : List Nat} (w : IsWord h ls) : wordB7 ls = true := word_all (P := fun _ ls => wordB7 ls) (by decide +kernel) w
noncomputable def ansL : List Bool := [true, true, true, false, false, false, false, false, false, false, false]
theorem keys_fold (ls fs : List Nat) : (dk (asD (FF ls fs))).map (·.1) = (keysOf ls).map .str := by
  rw [keys_dk, ← keys_FF ls fs]
  unfold asD
  rw [List.map_map, List.map_map, List.map_map]
  rfl
noncomputable abbrev elRel : List PyData → PyData → Prop := fun ds d => ∃ want got, ds = [.str want, .str got] ∧ EllOk want got ∧ d = .bool (ell want got)
section
variable {prog : Program} {w : World} {G : Gl prog w} {k : Nat}
theorem law_b (hG : Glo G) (hk : 27 ≤ k) (Fe : FnOk G "_ellipsis_match" 1 elRel) (Fw : FnOk G "_law_wants" 1 waRel) {sc : List Int} {h c0 : Nat} {ls fs : List Nat} (hw : IsWord h ls) {P : Out → Prop}
    (next : ExTo G k (fnScope PP iLaw) (EB (cellsL sc) h c0 ls fs) (lawA.drop 12) P) :
    ExTo G k (fnScope PP iLaw) (EA sc h c0 ls fs []) (lawA.drop 8) P := by
  have hlid : lid = 1048576 := rfl
  have hsz : sizeLine = 16777216 := rfl
  have b := word_b hw
  have b2 := word_b2 hw
  have b7 := word_b7 hw
  have wok := wa_ok hw
  unfold wordB at b
  unfold wordB2 at b2
  unfold wordB7 at b7
  simp only [Bool.and_eq_true, decide_eq_true_eq, List.all_eq_true, Bool.not_eq_true'] at b b2 b7
  obtain ⟨⟨⟨⟨⟨b71, b72⟩, b73⟩, b74⟩, b75⟩, b76⟩ := b7
  have hd3 : (Str.ofString "...").length = 3 := by decide +kernel
  have hwl := wok.l
  have hstr : (keysOf ls).all PyData.strOk = true := List.all_eq_true.mpr fun f hf => (b71 f hf).1
  refine' ExTo.perm (ρ' := EB (cellsL sc) h c0 ls fs) ?q1 ?q2 ?q3
  case q1 =>
    intro p hp
    simp only [EB, List.mem_cons, List.not_mem_nil, or_false] at hp
    rcases hp with rfl | rfl | rfl | rfl | rfl | rfl | rfl <;> simp only [EA, List.mem_cons, true_or, or_true]
  case q2 => dsimp only [EB, List.map]; decide +kernel
  case q3 =>
    refine ExTo.body (ss' := [_, _, _, _, _, _, _, _, _, _, _, _, _]) rfl ?_
    walk_at "s_step"
    case s1 =>
      with_reducible refine' Step.cmpP (f1 := fun x : Str × Str => .str x.1) (f2 := fun x : Str × Str => .str x.2) (g := fun x : Str × Str => .bool (ell x.1 x.2)) (xs := wantsL (wordS ls)) ?k1 ?k2 ?k3 ?k4 ?k5 ?k6 ?k7 ?k8 ?k9 ?k10 ?k11 ?k12 ?k13
      case k1 => decide +kernel
      case k2 => walk_at "my_x"
      case k3 =>
        with_reducible refine' ItTo.list (EvTo.user Fw ?m1 ?m2 (.cons ?m3 ?m4 .nil) ⟨wordS ls, rfl, wok, ?m5⟩)
        case m1 => decide +kernel
        case m2 => lia
        case m3 => walk_at "my_x"
        case m4 => walk_at "my_x"
        case m5 => rfl
      case k4 => exact fun _ _ => rfl
      case k5 => walk_at "my_x"
      case k6 => walk_at "my_x"
      case k7 => walk_at "my_x"
      case k8 => walk_at "my_x"
      case k9 => decide
      case k10 =>
        intro x hx
        have ok := ellOkB.ok (b.1 x hx)
        with_reducible refine' EvTo.user Fe ?m1 ?m2 ?m3 ⟨x.1, x.2, rfl, ok, rfl⟩
        case m1 => decide +kernel
        case m2 => lia
        case m3 => walk_at "my_x"
      case k11 => lia
      case k12 => walk_at "my_x"
      case k13 => walk_at "my_x"
    rw [show ((wantsL (wordS ls)).map fun x => PyData.bool (ell x.1 x.2)) = ansL.map .bool by rw [show ansL = (wantsL (wordS ls)).map (fun x => ell x.1 x.2) from b.2.symm, List.map_map]; rfl]
    with_reducible refine' ExTo.skipIf (TrTo.or_cons (b := false) ?k1 ?k2 ?k3) ?k4
    case k3 => exact fun q => by cases q
    case k1 =>
      with_reducible refine' TrTo.cmp ?m1 EvTo.dict0 (CmpOk.eqDict0 ?m2) ?m3
      case m1 => walk_at "my_x"
      case m2 =>
        intro e
        have := congrArg (fun D => D.map (·.1)) e
        simp only [keys_fold, List.map_nil, List.map_eq_nil_iff] at this
        rw [this] at b73
        cases b73
      case m3 => rfl
    case k2 =>
      intro _
      with_reducible refine' TrTo.or_cons (b := false) ?m1 (fun _ => TrTo.or_nil) ?m2
      case m2 => exact fun q => by cases q
      case m1 =>
        with_reducible refine' TrTo.cmp (EvTo.cast (EvTo.cmpIfP (f1 := fun x : Bool × Nat => .int (x.2 : Int)) (f2 := fun x : Bool × Nat => .bool x.1) (g := fun x : Bool × Nat => .int (x.2 : Int)) (xs := ansL.zipIdx) (b := fun x : Bool × Nat => x.1 != decide ((x.2 : Int) < ((3 : Nat) : Int))) ?n1 ?n2 ?n3 ?n4 ?n5 ?n6 ?n7 ?n8 ?n9 ?n10 ?n11 ?n12) (congrArg PyData.list ?o1)) (EvTo.list .nil ?o2) (CmpOk.neStrs (ts := []) rfl) ?o3
        case n1 => decide +kernel
        case n2 => walk_at "my_x"
        case n3 => rw [← enumD_map (fun b : Bool => PyData.bool b) ansL 0]; walk_at "my_x"
        case n4 => exact fun _ _ => rfl
        case n5 => walk_at "my_x"
        case n6 => walk_at "my_x"
        case n7 => walk_at "my_x"
        case n8 => walk_at "my_x"
        case n9 => decide
        case n10 =>
          intro x hx
          with_reducible refine' TrTo.cmp ?r1 (EvTo.cmp ?r2 ?r3 CmpOk.ltI ?r4) CmpOk.isnB ?r5
          case r1 => walk_at "my_x"
          case r2 => walk_at "my_nat"
          case r3 => walk_at "my_nat"
          case r4 => rfl
          case r5 => rfl
        case n11 => intro x hx _; walk_at "my_nat"
        case n12 => decide
        case o1 => rfl
        case o2 => exact Nat.le_of_ble_eq_true rfl
        case o3 => rfl
    case k4 =>
      walk_at "s_step"
      case s1 =>
        with_reducible refine' Step.cmpIfN (f := fun x : Str => .str x) (g := fun x : Str => .str x) (xs := keysOf ls) (b := fun f : Str => ell (ellIn (wordS ls) f) (wordS ls) != false) ?m1 ?m2 ?m3 ?m4 ?m5 ?m6 ?m7 ?m8 ?m9 ?m10 ?m11
        case m1 => decide +kernel
        case m2 => walk_at "my_x"
        case m3 =>
          rw [← keys_fold ls fs]
          walk_at "my_x"
        case m4 => exact fun _ _ => rfl
        case m5 => walk_at "my_x"
        case m6 => walk_at "my_x"
        case m7 =>
          intro f hf
          have ok := ellOkB.ok (b2.1 f hf)
          have hf2 := (b71 f hf).2
          with_reducible refine' TrTo.cmp (EvTo.user Fe ?n1 ?n2 (.cons ?n3 ?n4 (.cons ?n5 ?n6 .nil)) ⟨ellIn (wordS ls) f, wordS ls, rfl, ok, rfl⟩) EvTo.boolC CmpOk.isnB ?n7
          case n1 => decide +kernel
          case n2 => lia
          case n3 => walk_at "my_x"
          case n5 => walk_at "my_x"
          case n6 => walk_at "my_x"
          case n7 => rfl
          case n4 =>
            have h0 := wok.c0
            have hn := wok.cn
            show EvTo _ _ _ _ _ (.str (Txt.item (wordS ls) 0 ++ Str.ofString "..." ++ f ++ Str.ofString "..." ++ Txt.item (wordS ls) (-1)))
            walk_at "my_x"
        case m8 => intro f hf _; walk_at "my_x"
        case m9 => lia
        case m10 => walk_at "my_x"
        case m11 => walk_at "my_x"
      rw [show ((keysOf ls).filter fun f => ell (ellIn (wordS ls) f) (wordS ls) != false) = (keysOf ls).filter fun f => inB f (Txt.slice (wordS ls) (some 1) (some (-1))) by rw [← b2.2]; congr 1; funext f; exact Bool.bne_false _]
      with_reducible refine' ExTo.skipIf (TrTo.cmp ?m1 (EvTo.cmpIfN (f := fun x : Str => .str x) (g := fun x : Str => .str x) (xs := keysOf ls) (b := fun f : Str => inB f (Txt.slice (wordS ls) (some 1) (some (-1)))) ?n1 ?n2 ?n3 ?n4 ?n5 ?n6 ?n7 ?n8 ?n9) (CmpOk.neStrs ?m2) ?m3) ?m4
      case m1 => walk_at "my_x"
      case m2 => exact List.all_eq_true.mpr fun f hf => (b71 f (List.mem_filter.mp hf).1).1
      case m3 => rfl
      case n1 => decide +kernel
      case n2 => walk_at "my_x"
      case n3 => rw [← keys_fold ls fs]; walk_at "my_x"
      case n4 => exact fun _ _ => rfl
      case n5 => walk_at "my_x"
      case n6 => walk_at "my_x"
      case n7 =>
        intro f hf
        with_reducible refine' TrTo.cmp ?o1 ?o2 CmpOk.inS ?o3
        case o1 => walk_at "my_x"
        case o2 => walk_at "my_x"
        case o3 => rfl
      case n8 => intro f hf _; walk_at "my_x"
      case n9 => lia
      case m4 =>
        refine' ExTo.perm ?r1 ?r2 next
        case r1 =>
          intro p hp
          simp only [EB, List.mem_cons, List.not_mem_nil, or_false] at hp
          rcases hp with rfl | rfl | rfl | rfl | rfl | rfl | rfl <;> simp only [List.mem_cons, true_or, or_true]
        case r2 => dsimp only [EB, List.map]; decide +kernel
end
/-! # law: ways and fronts -/
noncomputable abbrev EC (cs : List Nat) (h c0 : Nat) (ls fs : List Nat) : VEnv :=
  [("cells", .own (.list (natL cs))), ("half", .own (.int ((1 + h : Nat) : Int))), ("many", .own (.int ((2 + 2 * h : Nat) : Int))), ("side", .own (.int (sideI c0))), ("word", .own (.str (wordS ls))), ("forms", .own (.list (natL fs))), ("folds", .own (.dict (dk (asD (FF ls fs))))),
    ("fits", .own (.list (fitsD (fitL ls)))), ("ways", .own (.list (natL (kList fs)))), ("fronts", .own (.list (natL (frK fs fs.length))))]
noncomputable def wordB8 (ls : List Nat) : Bool := (List.range (ls.length + 1)).all fun p : Nat => (endL ls p).length ≤ 2 && (endL ls p).all fun f => (keysOf ls).contains f && decide (f.length ≤ p)
theorem word_b8 {h : Nat} {ls : List Nat} (w : IsWord h ls) : wordB8 ls = true := word_all (P := fun _ ls => wordB8 ls) (by decide +kernel) w
noncomputable def numE (fs : List Nat) : Bool := (List.range (fs.length + 1)).all fun p => decide ((frK fs p).length = p + 1) && (frK fs p).all fun x => decide (x < 10 ^ 6)
theorem num_e : ∀ h, h < 3 → ∀ d0, d0 < 6 → ∀ d1, d1 < 6 → ∀ d2, d2 < 6 → numE (fsD h d0 d1 d2) = true := by decide +kernel
theorem rangeL_one (n : Nat) : rangeL ((1 : Nat) : Int) ((n + 1 : Nat) : Int) 1 = (List.range n).map fun i : Nat => ((i + 1 : Nat) : Int) := by
  unfold rangeL Builtin.Range.rangeSize
  simp only [Int.zero_lt_one, if_true, Int.mul_one]
  by_cases h : ((1 : Nat) : Int) < ((n + 1 : Nat) : Int)
  · rw [if_pos h]
    have : (((n + 1 : Nat) : Int) - ((1 : Nat) : Int) - 1) / 1 + 1 = n := by lia
    rw [this, Int.toNat_natCast]
    refine List.map_congr_left fun i _ => ?_
    lia
  · rw [if_neg h]
    have : n = 0 := by lia
    subst this; rfl
/-- the facts of the forms -/
structure FsOk (h : Nat) (fs : List Nat) : Prop where
  a : numA h fs = true
  b : numB h fs = true
  d : numD fs = true
  e : numE fs = true
theorem fs_ok {h : Nat} {fs : List Nat} (hh : h < 3) (hx : ∃ d0 d1 d2, d0 < 6 ∧ d1 < 6 ∧ d2 < 6 ∧ fs = fsD h d0 d1 d2) : FsOk h fs := by
  obtain ⟨d0, d1, d2, h0, h1, h2, rfl⟩ := hx
  exact ⟨num_a h hh d0 h0 d1 h1 d2 h2, num_b h hh d0 h0 d1 h1 d2 h2, num_d h hh d0 h0 d1 h1 d2 h2, num_e h hh d0 h0 d1 h1 d2 h2⟩
structure FsA (h : Nat) (fs : List Nat) : Prop where
  len : fs.length = 2 + 2 * h
  f : ∀ f, f ∈ fs → 0 < f ∧ f ≤ 7
  kk : ∀ p, p < fs.length → (kList fs).getD (p + 1) 0 ≠ 0 ∧ (kList fs).getD p 0 / (kList fs).getD (p + 1) 0 = fs.getD p 0 ∧ (kList fs).getD p 0 % (kList fs).getD (p + 1) 0 = (kList fs).getD (p + 2) 0
  k1 : (kList fs).getD fs.length 0 = 1
  k0 : (kList fs).getD (fs.length + 1) 0 = 0
  klen : (kList fs).length = fs.length + 2
  small : ∀ x, x ∈ kList fs → x < 10 ^ 6
  fr : frK fs fs.length = (List.range (fs.length + 1)).map fun j => (kList fs).getD (fs.length - j) 0
  sq : ((((kList fs).drop 1).filter fun x => decide (x * x ≤ (kList fs).getD 0 0)).take 2).map (fun x => x * x) = [(kWo h fs).getD 0 0, (kList fs).getD 0 0 - (kWo h fs).getD 0 0]
  wo : (kWo h fs).getD 0 0 ≤ (kList fs).getD 0 0
  frs : ∀ p, p ≤ fs.length → (frK fs p).length = p + 1 ∧ ∀ x, x ∈ frK fs p → x < 10 ^ 6
  d : ∀ p, p < fs.length → numC fs (p + 1) = true
theorem fs_a {h : Nat} {fs : List Nat} (ok : FsOk h fs) : FsA h fs := by
  obtain ⟨a, b, d, e⟩ := ok
  unfold numA at a
  unfold numB at b
  unfold numD at d
  unfold numE at e
  simp only [Bool.and_eq_true, decide_eq_true_eq, List.all_eq_true, List.mem_range] at a b d e
  obtain ⟨⟨⟨⟨a1, a2⟩, a3⟩, a4, a5, a6⟩, a7⟩ := a
  obtain ⟨⟨b1, b2⟩, b3⟩ := b
  exact ⟨a1, a2, a3, a4, a5, a6, a7, b1, b2, b3, fun p hp => e p (by lia), d⟩
theorem getD_mem {xs : List Nat} {i : Nat} (h : i < xs.length) : xs.getD i 0 ∈ xs := by
  rw [List.getD_eq_getElem?_getD, List.getElem?_eq_getElem h]; exact List.getElem_mem h
theorem getD_some {xs : List Nat} {i : Nat} (h : i < xs.length) : xs[i]? = some (xs.getD i 0) := by
  rw [List.getD_eq_getElem?_getD, List.getElem?_eq_getElem h]; rfl
theorem filter_bne (xs : List Str) (b : Str → Bool) : (xs.filter fun f => b f != false) = xs.filter b := by
  congr 1; funext f; exact Bool.bne_false _
section
variable {prog : Program} {w : World} {G : Gl prog w} {k : Nat}
theorem law_c (hG : Glo G) (hk : 27 ≤ k) (Fe : FnOk G "_ellipsis_match" 1 elRel) (Fy : FnOk G "_law_ways" 1 wyRel) {cs : List Nat} {h c0 : Nat} {ls fs : List Nat} (hw : IsWord h ls) (fa : FsA h fs) {P : Out → Prop}
    (next : ExTo G k (fnScope PP iLaw) (EC cs h c0 ls fs) (lawA.drop 17) P) :
    ExTo G k (fnScope PP iLaw) (EB cs h c0 ls fs) (lawA.drop 12) P := by
  have hlid : lid = 1048576 := rfl
  have hsz : sizeLine = 16777216 := rfl
  have hh := hw.1
  have lok := ls_ok hw
  have b3 := word_b3 hw
  have b4 := word_b4 hw
  have b5 := word_b5 hw
  have b7 := word_b7 hw
  have b8 := word_b8 hw
  have wok := wa_ok hw
  unfold wordB3 at b3
  unfold wordB4 at b4
  unfold wordB5 at b5
  unfold wordB7 at b7
  unfold wordB8 at b8
  simp only [Bool.and_eq_true, decide_eq_true_eq, List.all_eq_true, Bool.not_eq_true', Bool.or_eq_true, List.mem_range, List.contains_iff_mem, beq_iff_eq] at b3 b4 b5 b7 b8
  obtain ⟨⟨⟨⟨⟨b71, b72⟩, b73⟩, b74⟩, b75⟩, b76⟩ := b7
  have hd3 : (Str.ofString "...").length = 3 := by decide +kernel
  have hwl := wok.l
  have hlen := lok.len
  have hfl : fs.length = ls.length := by rw [fa.len, lok.len]
  have hkn := knows (fs := fs) lok.nd
  have hkv := key_val ls fs hfl fun f hf => (fa.f f hf).2
  refine ExTo.body (ss' := [_, _, _, _, _, _, _, _, _]) rfl ?_
  -- fits
  walk_at "s_step"
  case s1 =>
    with_reducible refine' Step.cmpN (f := fun p : Nat => .int (p : Int)) (g := fun p : Nat => .list (((keysOf ls).filter fun f => ell (f ++ dots) (Txt.slice (wordS ls) (some (p : Int)) none) != false).map .str)) (xs := List.range (2 + 2 * h)) ?k1 ?k2 ?k3 ?k4 ?k5 ?k6 ?k7 ?k8 ?k9 ?k10
    case k1 => decide +kernel
    case k2 => walk_at "my_x"
    case k3 => walk_at "my_x"
    case k4 => exact fun _ _ => rfl
    case k5 => walk_at "my_x"
    case k6 => walk_at "my_x"
    case k7 =>
      intro p hp
      have hp := List.mem_range.mp hp
      with_reducible refine' EvTo.cmpIfN (f := fun x : Str => .str x) (g := fun x : Str => .str x) (xs := keysOf ls) (b := fun f => ell (f ++ dots) (Txt.slice (wordS ls) (some (p : Int)) none) != false) ?n1 ?n2 ?n3 ?n4 ?n5 ?n6 ?n7 ?n8 ?n9
      case n1 => decide +kernel
      case n2 => walk_at "my_x"
      case n3 => rw [← keys_fold ls fs]; walk_at "my_x"
      case n4 => exact fun _ _ => rfl
      case n5 => walk_at "my_x"
      case n6 => walk_at "my_x"
      case n7 =>
        intro f hf
        have hf2 := (b71 f hf).2
        have ok := ellOkB.ok (b3 p (by lia) f hf).1
        with_reducible refine' TrTo.cmp (EvTo.user Fe ?o1 ?o2 (.cons ?o3 ?o4 (.cons ?o5 ?o6 .nil)) ⟨f ++ dots, Txt.slice (wordS ls) (some (p : Int)) none, rfl, ok, rfl⟩) EvTo.boolC CmpOk.isnB ?o7
        case o1 => decide +kernel
        case o2 => lia
        case o3 => walk_at "my_x"
        case o4 =>
          show EvTo _ _ _ _ _ (.str (f ++ Str.ofString "..."))
          walk_at "my_x"
        case o5 => walk_at "my_x"
        case o6 => walk_at "my_x"
        case o7 => rfl
      case n8 => intro f hf _; walk_at "my_x"
      case n9 => lia
    case k8 => simp only [List.length_range]; lia
    case k9 => walk_at "my_x"
    case k10 => walk_at "my_x"
  rw [show ((List.range (2 + 2 * h)).map fun p : Nat => PyData.list (((keysOf ls).filter fun f => ell (f ++ dots) (Txt.slice (wordS ls) (some (p : Int)) none) != false).map .str)) = fitsD (fitL ls) by
    rw [← b4]
    unfold fitsD fitB
    rw [List.map_map, hlen]
    refine List.map_congr_left fun p _ => ?_
    rw [filter_bne]; rfl]
  -- ways
  walk_at "s_step"
  case s1 =>
    with_reducible refine' Step.assign (d := .list (natL (kList fs))) ?k1 ?k2 ?k3 ?k4
    case k2 => walk_at "my_x"
    case k3 => walk_at "my_x"
    case k4 => exact fun _ => rfl
    case k1 =>
      rw [← ways_k ls fs hfl hkn]
      with_reducible refine' EvTo.user Fy ?m1 ?m2 ?m3 ⟨FF ls fs, fitL ls, rfl, ?m4, rfl⟩
      case m1 => decide +kernel
      case m2 => lia
      case m3 => walk_at "my_x"
      case m4 => exact wy_ok lok.nd hfl (by lia) (fun f hf => (fa.f f hf).2) (Nat.le_of_eq (fitL_len ls)) (fit_keys ls)
  -- fronts
  walk_at "s_step"
  case s1 =>
    with_reducible refine' Step.assignIt (b := .mu (natL (frN (FF ls fs) (endL ls) 0))) ?m1 ?m2 ?m3 ?m4
    case m1 => exact EvIt.list (ds := [.int 1]) (by walk_at "my_x") (by decide)
    case m2 => walk_at "my_x"
    case m3 => walk_at "my_x"
    case m4 => exact fun _ => rfl
  with_reducible refine' ExTo.for (α := Nat) (f := fun i => .int ((i + 1 : Nat) : Int)) (xs := List.range (2 + 2 * h)) (Iv := fun _ => True)
                            (R := fun i => [("cells", .own (.list (natL cs))), ("half", .own (.int ((1 + h : Nat) : Int))), ("many", .own (.int ((2 + 2 * h : Nat) : Int))), ("side", .own (.int (sideI c0))), ("word", .own (.str (wordS ls))), ("forms", .own (.list (natL fs))), ("folds", .own (.dict (dk (asD (FF ls fs))))), ("fits", .own (.list (fitsD (fitL ls)))), ("ways", .own (.list (natL (kList fs)))), ("fronts", .mu (natL (frN (FF ls fs) (endL ls) i)))])
                            (ρb := fun i j => [("cells", .own (.list (natL cs))), ("half", .own (.int ((1 + h : Nat) : Int))), ("many", .own (.int ((2 + 2 * h : Nat) : Int))), ("side", .own (.int (sideI c0))), ("word", .own (.str (wordS ls))), ("forms", .own (.list (natL fs))), ("folds", .own (.dict (dk (asD (FF ls fs))))), ("fits", .own (.list (fitsD (fitL ls)))), ("ways", .own (.list (natL (kList fs)))), ("fronts", .mu (natL (frN (FF ls fs) (endL ls) i))), ("place", .own (.int ((j + 1 : Nat) : Int)))])
                            ?l1 ?l2 ?l3 trivial ?l5 ?l6 ?l7
  case l1 =>
    rw [show ((List.range (2 + 2 * h)).map fun i : Nat => PyData.int ((i + 1 : Nat) : Int)) = (rangeL ((1 : Nat) : Int) ((2 + 2 * h + 1 : Nat) : Int) 1).map .int by rw [rangeL_one, List.map_map]; rfl]
    with_reducible refine' ItTo.range2 ?m1 ?m2 ?m3 ?m4 ?m5 ?m6 ?m7 ?m8
    case m1 => decide +kernel
    case m2 => exact (Glo.range hG).1
    case m3 => exact (Glo.range hG).2
    case m4 => walk_at "my_nat"
    case m5 => walk_at "my_nat"
    case m6 => walk_at "my_x"
    case m7 => walk_at "my_x"
    case m8 =>
      have : ∀ h : Nat, h < 3 → Builtin.Range.small ((1 : Nat) : Int) ((2 + 2 * h + 1 : Nat) : Int) 1 = true := by decide +kernel
      exact this h hh
  case l2 => exact fun _ _ => rfl
  case l3 => exact Wkn.refl _
  case l5 => intro i x hx _; walk_at "my_x"
  case l6 =>
    intro i j hx _
    have hij : j = i ∧ i < 2 + 2 * h := by
      have h1 := List.getElem?_eq_some_iff.mp hx
      obtain ⟨h2, h3⟩ := h1
      simp at h2 h3
      lia
    obtain ⟨rfl, hj⟩ := hij
    have hfr := fr_k (F := FF ls fs) hfl hkn j (by lia)
    have hfs := fa.frs j (by lia)
    rw [show frN (FF ls fs) (endL ls) (j + 1) = frStep (FF ls fs) (frN (FF ls fs) (endL ls) j) (endL ls (j + 1)) (j + 1) from rfl, hfr]
    obtain ⟨hf1, hf2⟩ := hfs
    have h8 := b8 (j + 1) (by lia)
    have h5 := b5 (j + 1) (by lia)
    have h5 := h5.resolve_left (by lia)
    generalize frK fs j = fr at *
    walk_at "s_step"
    case s1 =>
      with_reducible refine' Step.cmpIfN (f := fun x : Str => .str x) (g := fun x : Str => .str x) (xs := keysOf ls) (b := fun f : Str => ell (dots ++ f) (Txt.slice (wordS ls) none (some ((j + 1 : Nat) : Int))) != false) ?m1 ?m2 ?m3 ?m4 ?m5 ?m6 ?m7 ?m8 ?m9 ?m10 ?m11
      case m1 => decide +kernel
      case m2 => walk_at "my_x"
      case m3 => rw [← keys_fold ls fs]; walk_at "my_x"
      case m4 => exact fun _ _ => rfl
      case m5 => walk_at "my_x"
      case m6 => walk_at "my_x"
      case m7 =>
        intro f hf
        have hf2 := (b71 f hf).2
        have ok := ellOkB.ok (b3 (j + 1) (by lia) f hf).2
        with_reducible refine' TrTo.cmp (EvTo.user Fe ?o1 ?o2 (.cons ?o3 ?o4 (.cons ?o5 ?o6 .nil)) ⟨dots ++ f, Txt.slice (wordS ls) none (some ((j + 1 : Nat) : Int)), rfl, ok, rfl⟩) EvTo.boolC CmpOk.isnB ?o7
        case o1 => decide +kernel
        case o2 => lia
        case o3 => walk_at "my_x"
        case o4 =>
          show EvTo _ _ _ _ _ (.str (Str.ofString "..." ++ f))
          walk_at "my_x"
        case o5 => walk_at "my_x"
        case o6 => walk_at "my_x"
        case o7 => rfl
      case m8 => intro f hf _; walk_at "my_x"
      case m9 => lia
      case m10 => walk_at "my_x"
      case m11 => walk_at "my_x"
    rw [show ((keysOf ls).filter fun f : Str => ell (dots ++ f) (Txt.slice (wordS ls) none (some ((j + 1 : Nat) : Int))) != false) = endL ls (j + 1) by rw [filter_bne]; exact h5]
    generalize endL ls (j + 1) = en at *
    walk_at "s_step"
    case s1 =>
      with_reducible refine' Step.append (d := .int (((en.map fun f => (getF (FF ls fs) f).getD 0 * fr.getD (j + 1 - f.length) 0).sum : Nat) : Int)) ?m1 ?m2 ?m3 ?m4 ?m5 ?m6
      case m1 => walk_at "my_x"
      case m3 => walk_at "my_x"
      case m4 => rfl
      case m5 => walk_at "my_x"
      case m6 => simp only [natL, List.length_map]; lia
      case m2 =>
        with_reducible refine' EvTo.sumN ?n1 ?n2 ?n3 ?n4 ?n5
        case n1 => decide +kernel
        case n2 => exact (Glo.sum hG).1
        case n3 => exact (Glo.sum hG).2
        case n5 => walk_at "my_x"
        case n4 =>
          rw [show natL (en.map fun f => (getF (FF ls fs) f).getD 0 * fr.getD (j + 1 - f.length) 0) = en.map fun f => PyData.int (((getF (FF ls fs) f).getD 0 * fr.getD (j + 1 - f.length) 0 : Nat) : Int) by unfold natL; rw [List.map_map]; rfl]
          with_reducible refine' EvTo.cmpN (f := fun f : Str => .str f) (g := fun f => .int (((getF (FF ls fs) f).getD 0 * fr.getD (j + 1 - f.length) 0 : Nat) : Int)) (xs := en) ?p1 ?p2 ?p3 ?p4 ?p5 ?p6 ?p7 ?p8
          case p1 => decide +kernel
          case p2 => walk_at "my_x"
          case p3 => walk_at "my_x"
          case p4 => exact fun _ _ => rfl
          case p5 => walk_at "my_x"
          case p6 => walk_at "my_x"
          case p7 =>
            intro f hf
            obtain ⟨hfk, hfj⟩ := h8.2 f hf
            obtain ⟨n, hn, hn16, hfl⟩ := hkv f hfk
            have hn := hkn _ hn
            have hix : j + 1 - f.length < fr.length := by lia
            have hw1 := getD_some hix
            have hwle := hf2 _ (getD_mem hix)
            generalize fr.getD (j + 1 - f.length) 0 = v at *
            simp only at hn
            rw [hn]
            show EvTo _ _ _ _ _ (.int ((n * v : Nat) : Int))
            with_reducible refine' EvTo.mulN (EvTo.key (F := asD (FF ls fs)) ?q1 ?q2 ?q3 ?q4 ?q5) (EvTo.itemNat ?r1 (EvTo.subN ?r2 (EvTo.lenS ?r3 ?r4 ?r5 ?r6 ?r7 ?r8) ?r9) hw1 ?r10) ?q6
            case q1 => walk_at "my_x"
            case q2 => walk_at "my_x"
            case q3 => rw [getF_asD, hn]; rfl
            case q4 => exact fun _ _ => rfl
            case q5 => exact fun _ _ => rfl
            case r1 => walk_at "my_x"
            case r2 => walk_at "my_nat"
            case r3 => decide +kernel
            case r4 => exact (Glo.len hG).1
            case r5 => exact (Glo.len hG).2
            case r6 => walk_at "my_x"
            case r7 => walk_at "my_x"
            case r8 => lia
            case r9 => lia
            case r10 => exact fun _ _ => rfl
            case q6 => exact small_mul (by lia) (by lia)
          case p8 => lia
    refine' ExTo.nil ⟨?_, trivial⟩
    rw [show natL (frStep (FF ls fs) fr en (j + 1)) = natL fr ++ [.int (((en.map fun f => (getF (FF ls fs) f).getD 0 * fr.getD (j + 1 - f.length) 0).sum : Nat) : Int)] by unfold frStep natL; rw [List.map_append]; rfl]
    walk_at "my_x"
  case l7 =>
    intro _
    rw [List.length_range, fr_k (F := FF ls fs) hfl hkn (2 + 2 * h) (by lia), ← fa.len]
    refine' ExTo.freeze (ρ' := [("cells", .own (.list (natL cs))), ("half", .own (.int ((1 + h : Nat) : Int))), ("many", .own (.int ((fs.length : Nat) : Int))), ("side", .own (.int (sideI c0))), ("word", .own (.str (wordS ls))), ("forms", .own (.list (natL fs))), ("folds", .own (.dict (dk (asD (FF ls fs))))), ("fits", .own (.list (fitsD (fitL ls)))), ("ways", .own (.list (natL (kList fs)))), ("fronts", .own (.list (natL (frK fs fs.length))))]) ?k1 ?k2 ?k3
    case k1 => walk_at "my_x"
    case k2 => walk_at "my_x"
    case k3 =>
      have hkl := fa.klen
      with_reducible refine' ExTo.skipIf (TrTo.cmp (EvTo.cast ?m1 (congrArg (fun x => PyData.list (natL x)) fa.fr)) (EvTo.cast (EvTo.cmpN (f := fun j : Nat => .int (j : Int)) (g := fun j : Nat => .int (((kList fs).getD (fs.length - j) 0 : Nat) : Int)) (xs := List.range (fs.length + 1)) ?n1 ?n2 ?n3 ?n4 ?n5 ?n6 ?n7 ?n8) (congrArg PyData.list ?n9)) (CmpOk.neNats (ts := (List.range (fs.length + 1)).map fun j => (kList fs).getD (fs.length - j) 0)) ?m3) ?m4
      case m1 => walk_at "my_x"
      case m3 => rfl
      case n1 => decide +kernel
      case n2 => walk_at "my_x"
      case n3 => walk_at "my_x"
      case n4 => exact fun _ _ => rfl
      case n5 => walk_at "my_x"
      case n6 => walk_at "my_x"
      case n7 =>
        intro j hj
        have hj := List.mem_range.mp hj
        have hix : fs.length - j < (kList fs).length := by lia
        with_reducible refine' EvTo.itemNat ?o1 (EvTo.subN ?o2 ?o3 ?o4) (getD_some hix) ?o5
        case o1 => walk_at "my_x"
        case o2 => walk_at "my_nat"
        case o3 => walk_at "my_nat"
        case o4 => lia
        case o5 => exact fun _ _ => rfl
      case n8 =>
        have := fa.len
        simp only [List.length_range]; lia
      case n9 => unfold natL; rw [List.map_map]; rfl
      case m4 =>
        rw [show (fs.length : Int) = ((2 + 2 * h : Nat) : Int) by rw [fa.len]]
        exact next
end
/-! # law: the chain of divisions -/
theorem bits_int {x : Int} {m : Nat} (h : x.natAbs < 2 ^ m) : Builtin.Int.intBits x ≤ m := by
  have := intBits_le (x := x.natAbs) h
  have e : Builtin.Int.intBits ((x.natAbs : Nat) : Int) = Builtin.Int.intBits x := by
    unfold Builtin.Int.intBits
    rw [Int.natAbs_natCast]
    by_cases h0 : x = 0
    · subst h0; rfl
    · have h1 : (x == 0) = false := by simpa using h0
      have h2 : (((x.natAbs : Nat) : Int) == 0) = false := by simp; lia
      rw [h1, h2]
  lia
theorem mul_bits {a b : Int} (ha : a.natAbs < 2 ^ 200) (hb : b.natAbs < 2 ^ 200) : IntMulOk a b := IntMulOk.of_bits (Nat.le_trans (bits_int ha) (by decide)) (Nat.le_trans (bits_int hb) (by decide))
/-- the unit: a nonzero number -/
structure IsUnit (s U : Int) (u : Nat) : Prop where
  pos : 0 < u
  le : u ≤ 10 ^ 18
  s1 : s = 1 ∨ s = -1
  e : U = (u : Int) * s
theorem IsUnit.abs {s U : Int} {u : Nat} (h : IsUnit s U u) (n : Nat) : ((n : Int) * U).natAbs = n * u := by
  rw [h.e, Int.natAbs_mul, Int.natAbs_mul, Int.natAbs_natCast, Int.natAbs_natCast]
  rcases h.s1 with e | e <;> rw [e] <;> simp
theorem IsUnit.absI {s U : Int} {u : Nat} (h : IsUnit s U u) (n : Nat) : (if (n : Int) * U < 0 then -((n : Int) * U) else (n : Int) * U) = ((n * u : Nat) : Int) := by
  rw [← h.abs n]; split <;> lia
theorem IsUnit.div {s U : Int} {u : Nat} (h : IsUnit s U u) (a b : Nat) : ((a : Int) * U).fdiv ((b : Int) * U) = ((a / b : Nat) : Int) ∧ ((a : Int) * U).fmod ((b : Int) * U) = ((a % b : Nat) : Int) * U := by
  have hu : (0 : Int) < (u : Int) := by have := h.pos; lia
  have d : ((a : Int) * (u : Int)).fdiv ((b : Int) * (u : Int)) = ((a / b : Nat) : Int) := by
    rw [Int.mul_fdiv_mul_of_pos_left _ _ hu, Int.fdiv_eq_ediv_of_nonneg _ (Int.natCast_nonneg b), Int.natCast_ediv]
  have m : ((a : Int) * (u : Int)).fmod ((b : Int) * (u : Int)) = ((a % b : Nat) : Int) * (u : Int) := by
    rw [Int.mul_comm (a : Int), Int.mul_comm (b : Int), Int.mul_fmod_mul_of_pos _ _ hu, Int.fmod_eq_emod_of_nonneg _ (Int.natCast_nonneg b), Int.natCast_emod, Int.mul_comm]
  rw [h.e]
  rcases h.s1 with e | e
  · subst e
    rw [Int.mul_one]
    exact ⟨d, m⟩
  · subst e
    have n : ∀ x : Int, x * ((u : Int) * -1) = -(x * (u : Int)) := fun x => by rw [Int.mul_neg, Int.mul_one, Int.mul_neg]
    rw [n, n, n, Int.neg_fdiv_neg, Int.neg_fmod_neg, d, m]
    exact ⟨rfl, rfl⟩
theorem IsUnit.ne {s U : Int} {u : Nat} (h : IsUnit s U u) {n : Nat} (hn : n ≠ 0) : (n : Int) * U ≠ 0 := fun q => by
  have := h.abs n
  rw [q] at this
  have := Nat.mul_pos (Nat.pos_of_ne_zero hn) h.pos
  simp at *
  lia
theorem IsUnit.lt {s U : Int} {u : Nat} (h : IsUnit s U u) {n : Nat} (hn : n < 10 ^ 6) : ((n : Int) * U).natAbs < 10 ^ 24 := by
  rw [h.abs n]
  have h1 := Nat.mul_le_mul (Nat.le_of_lt_succ (Nat.lt_succ_of_lt hn)) h.le
  have h2 : n * u ≤ n * 10 ^ 18 := Nat.mul_le_mul_left _ h.le
  lia
noncomputable def restI (fs : List Nat) (U : Int) (i : Nat) : List Int := (List.range (i + 2)).map fun j : Nat => (((kList fs).getD j 0 : Nat) : Int) * U
theorem restI_succ (fs : List Nat) (U : Int) (i : Nat) : (restI fs U (i + 1)).map PyData.int = (restI fs U i).map .int ++ [.int ((((kList fs).getD (i + 2) 0 : Nat) : Int) * U)] := by
  unfold restI
  rw [show i + 1 + 2 = (i + 2) + 1 by lia, List.range_succ, List.map_append, List.map_append]
  rfl
theorem restI_get {fs : List Nat} {U : Int} {i j : Nat} (h : j < i + 2) : ((restI fs U i).map PyData.int)[((j : Nat) : Int).toNat]? = some (.int ((((kList fs).getD j 0 : Nat) : Int) * U)) := by
  unfold restI
  rw [Int.toNat_natCast, List.getElem?_map, List.getElem?_map, List.getElem?_range h]
  rfl
noncomputable abbrev ED (h c0 : Nat) (ls fs : List Nat) (U : Int) : VEnv :=
  [("half", .own (.int ((1 + h : Nat) : Int))), ("many", .own (.int ((2 + 2 * h : Nat) : Int))), ("side", .own (.int (sideI c0))), ("word", .own (.str (wordS ls))), ("forms", .own (.list (natL fs))), ("folds", .own (.dict (dk (asD (FF ls fs))))),
    ("fits", .own (.list (fitsD (fitL ls)))), ("ways", .own (.list (natL (kList fs)))), ("fronts", .own (.list (natL (frK fs fs.length)))), ("unit", .own (.int U)), ("rests", .own (.list ((restI fs U fs.length).map .int))), ("quotients", .own (.list (natL fs)))]
section
variable {prog : Program} {w : World} {G : Gl prog w} {k : Nat}
theorem EvTo.absN {sc : Scope} {ρ : VEnv} {e : Expr} {p pos : Pos} {x : Str} {s U : Int} {u n : Nat} (hu : IsUnit s U u) (hx : sc.names.lookup x = some .globalImplicit) (hm : G.mg x = none) (hb : G.mb x = some (.builtin "abs")) (h1 : EvTo G k sc ρ e (.int ((n : Int) * U))) (n1 : NotStar e) :
    EvTo G k sc ρ (.Call (.Name x p) [e] [] pos) (.int ((n * u : Nat) : Int)) := EvTo.cast (EvTo.abs hx hm hb h1 n1) (by rw [hu.absI n])
theorem law_d (hG : Glo G) (hk : 27 ≤ k) (Fid : FnOk G "int_divmod" 27 idRel) (Fh : FnOk G "_law_halves" 3 haRel) {cs : List Nat} {h c0 c5 c6 : Nat} {ls fs : List Nat} (hh : h < 3) (fa : FsA h fs) (e5 : cs[5]? = some c5) (e6 : cs[6]? = some c6) (l5 : c5 < 10 ^ 6) {P : Out → Prop}
    (next : ∀ U u, IsUnit (sideI c0) U u → ExTo G k (fnScope PP iLaw) (ED h c0 ls fs U) (lawA.drop 20) P) :
    ExTo G k (fnScope PP iLaw) (EC cs h c0 ls fs) (lawA.drop 17) P := by
  have hlid : lid = 1048576 := rfl
  have hlen := fa.len
  have hkl := fa.klen
  have hu18 : 0 < (1 + c5) ^ (1 + c6 % 3) ∧ (1 + c5) ^ (1 + c6 % 3) ≤ 10 ^ 18 := by
    refine ⟨Nat.pow_pos (by lia), ?_⟩
    have h1 : (1 + c5) ^ (1 + c6 % 3) ≤ (10 ^ 6) ^ (1 + c6 % 3) := Nat.pow_le_pow_left (by lia) _
    have h2 : (10 ^ 6) ^ (1 + c6 % 3) ≤ (10 ^ 6) ^ 3 := Nat.pow_le_pow_right (by decide) (by have := Nat.mod_lt c6 (show 0 < 3 by decide); lia)
    exact Nat.le_trans h1 h2
  have hbits : Builtin.Int.intBits ((1 + c5 : Nat) : Int) ≤ 20 := intBits_le (by lia)
  have iu : IsUnit (sideI c0) ((((1 + c5) ^ (1 + c6 % 3) : Nat) : Int) * sideI c0) ((1 + c5) ^ (1 + c6 % 3)) := ⟨hu18.1, hu18.2, side_or c0, rfl⟩
  have hs := side_or c0
  refine ExTo.body (ss' := [_, _, _, _]) rfl ?_
  -- unit
  walk_at "s_step"
  case s1 =>
    with_reducible refine' Step.assign (d := .int ((((1 + c5) ^ (1 + c6 % 3) : Nat) : Int) * sideI c0)) (EvTo.mul (EvTo.powN (EvTo.addN ?m1 (EvTo.itemNat ?m2 ?m3 e5 ?m4)) (EvTo.addN ?m5 (EvTo.modN (EvTo.itemNat ?m6 ?m7 e6 ?m8) ?m9 ?m10)) ?m11) ?m12 ?m13) ?k2 ?k3 ?k4
    case m1 | m3 | m5 | m7 | m9 => walk_at "my_nat"
    case m2 | m6 => walk_at "my_x"
    case m4 | m8 => exact fun _ _ => rfl
    case m10 => decide
    case m11 =>
      have h3 : 1 + c6 % 3 ≤ 3 := by have := Nat.mod_lt c6 (show 0 < 3 by decide); lia
      have := Nat.mul_le_mul hbits h3
      have e : ((Builtin.Int.intBits ((1 + c5 : Nat) : Int) : Nat) : Int) * ((1 + c6 % 3 : Nat) : Int) = ((Builtin.Int.intBits ((1 + c5 : Nat) : Int) * (1 + c6 % 3) : Nat) : Int) := (Int.natCast_mul _ _).symm
      rw [e]
      lia
    case m12 => walk_at "my_x"
    case m13 => exact mul_bits (by rw [Int.natAbs_natCast]; exact Nat.lt_of_le_of_lt hu18.2 (by decide)) (by rcases hs with e | e <;> rw [e] <;> decide)
    case k2 => walk_at "my_x"
    case k3 => walk_at "my_x"
    case k4 => exact fun _ => rfl
  generalize (((1 + c5) ^ (1 + c6 % 3) : Nat) : Int) * sideI c0 = U at *
  generalize (1 + c5) ^ (1 + c6 % 3) = u at *
  have hUl : U.natAbs < 2 ^ 200 := by
    have := iu.abs 1
    rw [show ((1 : Nat) : Int) * U = U from Int.one_mul U, Nat.one_mul] at this
    rw [this]; exact Nat.lt_of_le_of_lt hu18.2 (by decide)
  have hsm : ∀ j, (kList fs).getD j 0 < 10 ^ 6 := fun j => by
    rw [List.getD_eq_getElem?_getD]
    cases q : (kList fs)[j]? with
    | none => decide
    | some x => exact fa.small x (List.mem_of_getElem? q)
  have g0 : (kList fs)[0]? = some ((kList fs).getD 0 0) := getD_some (by lia)
  have g1 : (kList fs)[1]? = some ((kList fs).getD 1 0) := getD_some (by lia)
  -- rests, quotients
  walk_at "s_step"
  case s1 =>
    with_reducible refine' Step.tup (bs := [.mu ((restI fs U 0).map .int), .mu (natL (fs.take 0))]) (.cons ?k1 (EvIt.list (.cons ?m1 (EvTo.mul (EvTo.itemNat ?m2 ?m3 g0 ?m4) ?m5 ?m6) (.cons ?n1 (EvTo.mul (EvTo.itemNat ?n2 ?n3 g1 ?n4) ?n5 ?n6) .nil)) ?m7) (.cons ?k2 (EvIt.list .nil ?m8) .nil)) ?k6 ?k7 ?k8 ?k9 ?k10
    case k1 | k2 | m1 | n1 => walk_at "my_x"
    case m2 | n2 => walk_at "my_x"
    case m3 | n3 => walk_at "my_nat"
    case m4 | n4 => exact fun _ _ => rfl
    case m5 | n5 => walk_at "my_x"
    case m6 => exact mul_bits (by rw [Int.natAbs_natCast]; exact Nat.lt_trans (hsm 0) (by decide)) hUl
    case n6 => exact mul_bits (by rw [Int.natAbs_natCast]; exact Nat.lt_trans (hsm 1) (by decide)) hUl
    case m7 | m8 => exact Nat.le_of_ble_eq_true rfl
    case k6 => walk_at "my_x"
    case k8 => decide +kernel
    case k9 => rfl
    case k10 => exact Nat.le_of_ble_eq_true rfl
    case k7 => walk_at "my_x"
  with_reducible refine' ExTo.for (α := Nat) (f := fun i => .int (i : Int)) (xs := List.range (2 + 2 * h)) (Iv := fun _ => True)
                            (R := fun i => [("half", .own (.int ((1 + h : Nat) : Int))), ("many", .own (.int ((2 + 2 * h : Nat) : Int))), ("side", .own (.int (sideI c0))), ("word", .own (.str (wordS ls))), ("forms", .own (.list (natL fs))), ("folds", .own (.dict (dk (asD (FF ls fs))))), ("fits", .own (.list (fitsD (fitL ls)))), ("ways", .own (.list (natL (kList fs)))), ("fronts", .own (.list (natL (frK fs fs.length)))), ("unit", .own (.int U)), ("rests", .mu ((restI fs U i).map .int)), ("quotients", .mu (natL (fs.take i)))])
                            (ρb := fun i j => [("half", .own (.int ((1 + h : Nat) : Int))), ("many", .own (.int ((2 + 2 * h : Nat) : Int))), ("side", .own (.int (sideI c0))), ("word", .own (.str (wordS ls))), ("forms", .own (.list (natL fs))), ("folds", .own (.dict (dk (asD (FF ls fs))))), ("fits", .own (.list (fitsD (fitL ls)))), ("ways", .own (.list (natL (kList fs)))), ("fronts", .own (.list (natL (frK fs fs.length)))), ("unit", .own (.int U)), ("rests", .mu ((restI fs U i).map .int)), ("quotients", .mu (natL (fs.take i))), ("place", .own (.int (j : Int)))])
                            ?l1 ?l2 ?l3 trivial ?l5 ?l6 ?l7
  case l1 => walk_at "my_x"
  case l2 => exact fun _ _ => rfl
  case l3 => walk_at "my_x"
  case l5 => intro i x hx _; walk_at "my_x"
  case l6 =>
    intro i j hx _
    have hij : j = i ∧ i < 2 + 2 * h := by
      have h1 := List.getElem?_eq_some_iff.mp hx
      obtain ⟨h2, h3⟩ := h1
      simp at h2 h3
      lia
    obtain ⟨rfl, hj⟩ := hij
    obtain ⟨q0, q1, q2⟩ := fa.kk j (by lia)
    have s0 := hsm j
    have s1 := hsm (j + 1)
    have dv := iu.div ((kList fs).getD j 0) ((kList fs).getD (j + 1) 0)
    rw [q1, q2] at dv
    have l0 := iu.lt s0
    have l1 := iu.lt s1
    have n1 := iu.ne q0
    have a0 := iu.abs ((kList fs).getD j 0)
    have a1 := iu.abs ((kList fs).getD (j + 1) 0)
    have g0 := restI_get (fs := fs) (U := U) (i := j) (j := j) (by lia)
    have g1 := restI_get (fs := fs) (U := U) (i := j) (j := j + 1) (by lia)
    have hbig : 10 ^ 24 < big := by unfold big; exact Nat.lt_of_lt_of_le (show 10 ^ 24 < 2 ^ 80 by decide) (Nat.pow_le_pow_right (by decide) (by decide))
    rw [restI_succ]
    have htk : natL (fs.take (j + 1)) = natL (fs.take j) ++ [.int ((fs.getD j 0 : Nat) : Int)] := by
      rw [List.take_add_one, getD_some (xs := fs) (i := j) (by lia)]
      unfold natL
      rw [List.map_append]; rfl
    rw [htk]
    have hrl : ((restI fs U j).map PyData.int).length = j + 2 := by unfold restI; simp
    have hql : (natL (fs.take j)).length ≤ j := by unfold natL; simp; lia
    have hdd : (kList fs).getD j 0 * u / ((kList fs).getD (j + 1) 0 * u) = fs.getD j 0 := by rw [Nat.mul_div_mul_right _ _ iu.pos, q1]
    have hmm : (kList fs).getD j 0 * u % ((kList fs).getD (j + 1) 0 * u) = (kList fs).getD (j + 2) 0 * u := by rw [Nat.mul_mod_mul_right, q2]
    have hpos1 : 0 < (kList fs).getD (j + 1) 0 * u := Nat.mul_pos (Nat.pos_of_ne_zero q0) iu.pos
    have hb0 : Builtin.Int.intBits (((kList fs).getD j 0 * u : Nat) : Int) ≤ 900 := Nat.le_trans (intBits_le (m := 80) (by rw [← a0]; exact Nat.lt_trans l0 (by decide))) (by decide)
    have hb1 : Builtin.Int.intBits (((kList fs).getD (j + 1) 0 * u : Nat) : Int) ≤ 900 := Nat.le_trans (intBits_le (m := 80) (by rw [← a1]; exact Nat.lt_trans l1 (by decide))) (by decide)
    clear a0 a1 q1 q2 hx htk
    generalize (kList fs).getD j 0 = x0 at *
    generalize (kList fs).getD (j + 1) 0 = x1 at *
    generalize (kList fs).getD (j + 2) 0 = x2 at *
    generalize fs.getD j 0 = q at *
    generalize (restI fs U j).map PyData.int = rs at *
    generalize natL (fs.take j) = qs at *
    walk_at "s_step"
    case s1 =>
      with_reducible refine' Step.assignT (xs := [.int (q : Int), .int ((x2 : Int) * U)]) (EvTo.cast (EvTo.user Fid ?m1 ?m2 (.cons ?o1 (EvTo.item ?o2 ?o3 ?o4 g0 ?o5) (.cons ?p1 (EvTo.item ?p2 ?p3 ?p4 g1 ?p5) .nil)) ⟨(x0 : Int) * U, (x1 : Int) * U, rfl, n1, ?m4, ?m5, rfl⟩) ?m6) ?n1 ?n2 ?n3
      case m1 => decide +kernel
      case m2 => exact hk
      case o1 | p1 => walk_at "my_x"
      case o2 | p2 => walk_at "my_x"
      case o3 | p3 => walk_at "my_nat"
      case o4 | p4 => lia
      case o5 | p5 => exact fun _ _ => rfl
      case m4 => exact Nat.lt_trans l0 hbig
      case m5 => exact Nat.lt_trans l1 hbig
      case m6 => rw [dv.1, dv.2]
      case n1 => walk_at "my_x"
      case n2 => exact fun _ => rfl
      case n3 => exact fun _ => rfl
    with_reducible refine' ExTo.skipIf (TrTo.cmp (a := .tuple ([(q : Int), ((x2 * u : Nat) : Int)].map .int)) (b := .tuple ([(q : Int), ((x2 * u : Nat) : Int)].map .int)) ?k1 ?k2 CmpOk.nePairs ?k3) ?k4
    case k3 => rfl
    case k1 =>
      with_reducible refine' EvTo.cast (EvTo.user Fh ?m1 ?m2 (.cons ?o1 (EvTo.absN iu ?r1 ?r2 ?r3 (EvTo.item ?o2 ?o3 ?o4 g0 ?o5) ?r4) (.cons ?p1 (EvTo.absN iu ?r5 ?r6 ?r7 (EvTo.item ?p2 ?p3 ?p4 g1 ?p5) ?r8) .nil)) ⟨x0 * u, x1 * u, rfl, hpos1, hb0, hb1, rfl⟩) ?m6
      case m1 | r1 | r5 => decide +kernel
      case m2 => lia
      case r2 | r6 => exact (Glo.abs hG).1
      case r3 | r7 => exact (Glo.abs hG).2
      case o1 | p1 | r4 | r8 => walk_at "my_x"
      case o2 | p2 => walk_at "my_x"
      case o3 | p3 => walk_at "my_nat"
      case o4 | p4 => lia
      case o5 | p5 => exact fun _ _ => rfl
      case m6 => rw [hdd, hmm]; rfl
    case k2 =>
      with_reducible refine' EvTo.tuple (.cons ?o1 ?o2 (.cons ?p1 (EvTo.absN iu ?r1 ?r2 ?r3 ?p2 ?r4) .nil)) ?p3
      case o1 | p1 | r4 => walk_at "my_x"
      case r1 => decide +kernel
      case r2 => exact (Glo.abs hG).1
      case r3 => exact (Glo.abs hG).2
      case o2 | p2 => walk_at "my_x"
      case p3 => exact Nat.le_of_ble_eq_true rfl
    case k4 =>
      walk_at "s_app"
      walk_at "s_app"
      refine' ExTo.nil ⟨?_, trivial⟩
      walk_at "my_x"
  case l7 =>
    intro _
    rw [List.length_range]
    have e1 : fs.take (2 + 2 * h) = fs := by rw [← hlen]; exact List.take_length
    have e2 : restI fs U (2 + 2 * h) = restI fs U fs.length := by rw [hlen]
    rw [e1, e2]
    refine' ExTo.freeze ?k1 ?k2 (ExTo.freeze ?k3 ?k4 (next U u iu))
    case k1 => exact (List.mem_cons_of_mem _ (List.mem_cons_of_mem _ (List.mem_cons_of_mem _ (List.mem_cons_of_mem _ (List.mem_cons_of_mem _ (List.mem_cons_of_mem _ (List.mem_cons_of_mem _ (List.mem_cons_of_mem _ (List.mem_cons_of_mem _ (List.mem_cons_of_mem _ List.mem_cons_self))))))))))
    case k2 => walk_at "my_x"
    case k3 => walk_at "my_x"
    case k4 => walk_at "my_x"
end
/-! # law: the end -/
theorem restI_all {fs : List Nat} (hl : (kList fs).length = fs.length + 2) (U : Int) : (restI fs U fs.length).map PyData.int = (kList fs).map fun x : Nat => PyData.int ((x : Int) * U) := by
  unfold restI
  rw [List.map_map]
  refine List.ext_getElem (by simp [hl]) fun i h1 h2 => ?_
  simp only [List.getElem_map, List.getElem_range, Function.comp]
  rw [List.getD_eq_getElem?_getD, List.getElem?_eq_getElem]
  rfl
theorem IsUnit.sq {s U : Int} {u : Nat} (h : IsUnit s U u) (x y : Nat) : decide ((x : Int) * U * ((x : Int) * U) ≤ (y : Int) * U * U) = decide (x * x ≤ y) := by
  have hu : (0 : Int) < (u : Int) * (u : Int) := by have := h.pos; exact Int.mul_pos (by lia) (by lia)
  have e : U * U = (u : Int) * (u : Int) := by rw [h.e]; rcases h.s1 with q | q <;> rw [q] <;> simp [Int.neg_mul, Int.mul_neg]
  have e1 : (x : Int) * U * ((x : Int) * U) = ((x * x : Nat) : Int) * ((u : Int) * (u : Int)) := by
    rw [← e, Int.natCast_mul, Int.mul_assoc, Int.mul_assoc, Int.mul_left_comm U]
  have e2 : (y : Int) * U * U = (y : Int) * ((u : Int) * (u : Int)) := by rw [← e, Int.mul_assoc]
  rw [e1, e2, decide_eq_decide]
  constructor
  · intro q
    have := Int.le_of_mul_le_mul_right q hu
    lia
  · intro q
    exact Int.mul_le_mul_of_nonneg_right (by lia) (Int.le_of_lt hu)
theorem sq_val (x : Nat) (U : Int) : (x : Int) * U * ((x : Int) * U) = ((x * x : Nat) : Int) * U * U := by
  rw [Int.natCast_mul, Int.mul_assoc, Int.mul_assoc, Int.mul_assoc, Int.mul_left_comm U]
theorem side_div {s : Int} (hs : s = 1 ∨ s = -1) (x y : Int) : (s * x).fdiv (s * y) = x.fdiv y ∧ (s * x).fmod (s * y) = s * x.fmod y := by
  rcases hs with rfl | rfl
  · simp
  · rw [Int.neg_mul, Int.neg_mul, Int.one_mul, Int.one_mul, Int.neg_fdiv_neg, Int.neg_fmod_neg, Int.neg_mul, Int.one_mul]
    exact ⟨rfl, rfl⟩
noncomputable def turnI (p : Nat) : Int := ((1 : Nat) : Int) - ((p % 2 * 2 : Nat) : Int)
/-- upon place p, as the program says it -/
structure PlaceOk (fs : List Nat) (p : Nat) : Prop where
  t : turnI p = 1 ∨ turnI p = -1
  d : (turnI p * (((kList fs).getD 1 0 * (kList fs).getD p 0 : Nat) : Int)).fdiv ((kList fs).getD 0 0 : Nat) = turnI p * (((kList fs.dropLast).getD p 0 : Nat) : Int)
  m : (turnI p * (((kList fs).getD 1 0 * (kList fs).getD p 0 : Nat) : Int)).fmod ((kList fs).getD 0 0 : Nat) = (((frK fs fs.length).getD (p - 1) 0 : Nat) : Int)
  up : turnI p > 0 → turnI p * (((kList fs.dropLast).getD p 0 : Nat) : Int) = (((kList fs).getD 1 0 * (kList fs).getD p 0 / (kList fs).getD 0 0 : Nat) : Int) ∧ (((frK fs fs.length).getD (p - 1) 0 : Nat) : Int) = (((kList fs).getD 1 0 * (kList fs).getD p 0 % (kList fs).getD 0 0 : Nat) : Int)
  dn : ¬ turnI p > 0 → -(turnI p * (((kList fs.dropLast).getD p 0 : Nat) : Int)) - 1 = (((kList fs).getD 1 0 * (kList fs).getD p 0 / (kList fs).getD 0 0 : Nat) : Int) ∧ (((kList fs).getD 0 0 : Nat) : Int) - (((frK fs fs.length).getD (p - 1) 0 : Nat) : Int) = (((kList fs).getD 1 0 * (kList fs).getD p 0 % (kList fs).getD 0 0 : Nat) : Int)
theorem place_ok {fs : List Nat} {p : Nat} (h : numC fs p = true) : PlaceOk fs p := by
  unfold numC at h
  by_cases e : p % 2 = 0
  · simp only [e, if_true, decide_eq_true_eq] at h
    have ht : turnI p = 1 := by unfold turnI; rw [e]; rfl
    obtain ⟨h1, h2⟩ := h
    refine ⟨.inl ht, ?_, ?_, fun _ => ?_, fun q => by rw [ht] at q; exact absurd q (by decide)⟩
    · rw [ht, Int.one_mul, Int.one_mul, Int.fdiv_eq_ediv_of_nonneg _ (Int.natCast_nonneg _), ← Int.natCast_ediv, h1]
    · rw [ht, Int.one_mul, Int.fmod_eq_emod_of_nonneg _ (Int.natCast_nonneg _), ← Int.natCast_emod, h2]
    · rw [ht, Int.one_mul, h1, h2]; exact ⟨rfl, rfl⟩
  · simp only [e, if_false, decide_eq_true_eq] at h
    have ht : turnI p = -1 := by unfold turnI; lia
    obtain ⟨h1, h2, h3, h4, h5⟩ := h
    refine ⟨.inr ht, ?_, ?_, fun q => by rw [ht] at q; exact absurd q (by decide), fun _ => ?_⟩
    · rw [ht, Int.neg_mul, Int.neg_mul, Int.one_mul, Int.one_mul]; exact h1
    · rw [ht, Int.neg_mul, Int.one_mul]; exact h2
    · rw [ht, Int.neg_mul, Int.one_mul, Int.neg_neg, h4, h5]; exact ⟨rfl, rfl⟩
noncomputable def wordB9 (h : Nat) (ls : List Nat) : Bool := PyData.strOk (midOf h ls) && (keysOf ls).all PyData.strOk
theorem word_b9 {h : Nat} {ls : List Nat} (w : IsWord h ls) : wordB9 h ls = true := word_all (P := wordB9) (by decide +kernel) w
noncomputable abbrev EF (h c0 : Nat) (ls fs : List Nat) (U : Int) : VEnv :=
  [("half", .own (.int ((1 + h : Nat) : Int))), ("many", .own (.int ((2 + 2 * h : Nat) : Int))), ("side", .own (.int (sideI c0))), ("word", .own (.str (wordS ls))), ("forms", .own (.list (natL fs))), ("folds", .own (.dict (dk (asD (FF ls fs))))),
    ("fits", .own (.list (fitsD (fitL ls)))), ("ways", .own (.list (natL (kList fs)))), ("fronts", .own (.list (natL (frK fs fs.length)))), ("unit", .own (.int U)), ("rests", .own (.list ((restI fs U fs.length).map .int))), ("quotients", .own (.list (natL fs))), ("ended", .own (.bool true))]
theorem fitsD_last (f : List (List Str)) : (fitsD f).dropLast = fitsD f.dropLast := by unfold fitsD; rw [List.map_dropLast]
section
variable {prog : Program} {w : World} {G : Gl prog w} {k : Nat}
theorem CmpOk.neStr1 {x y : Str} (hx : PyData.strOk x = true) (hy : PyData.strOk y = true) : CmpOk G k .NotEq (.str x) (.str y) (!(x == y)) := CmpOk.neD (by simpa [PyData.canLay0] using hx) (by simpa [PyData.canLay0] using hy) (Nat.zero_le _)
theorem law_f (hG : Glo G) (hk : 27 ≤ k) (Fid : FnOk G "int_divmod" 27 idRel) (Fh : FnOk G "_law_halves" 3 haRel) (Fy : FnOk G "_law_ways" 1 wyRel) {h c0 u : Nat} {ls fs : List Nat} {U : Int} (hw : IsWord h ls) (fa : FsA h fs) (iu : IsUnit (sideI c0) U u) :
    ExTo G k (fnScope PP iLaw) (EF h c0 ls fs U) ((fnBody PP iLaw).drop 22) (fun o => o = .ret (.bool true)) := by
  have hlid : lid = 1048576 := rfl
  have hsz : sizeLine = 16777216 := rfl
  have hh := hw.1
  have lok := ls_ok hw
  have hlen := fa.len
  have hkl := fa.klen
  have hwl := (wa_ok hw).l
  have hfl : fs.length = ls.length := by rw [fa.len, lok.len]
  have hkn := knows (fs := fs) lok.nd
  have hsm : ∀ j, (kList fs).getD j 0 < 10 ^ 6 := fun j => by
    rw [List.getD_eq_getElem?_getD]
    cases q : (kList fs)[j]? with
    | none => decide
    | some x => exact fa.small x (List.mem_of_getElem? q)
  have hUl : U.natAbs < 10 ^ 19 := by
    have := iu.abs 1
    rw [show ((1 : Nat) : Int) * U = U from Int.one_mul U, Nat.one_mul] at this
    have := iu.le
    lia
  have hmul : ∀ x : Nat, x < 10 ^ 13 → ((x : Int) * U).natAbs < 2 ^ 200 ∧ IntMulOk (x : Int) U ∧ IntMulOk ((x : Int) * U) U := fun x hx => by
    have e : ((x : Int) * U).natAbs < 2 ^ 200 := by
      rw [Int.natAbs_mul, Int.natAbs_natCast]
      have h1 := Nat.mul_le_mul (Nat.le_of_lt hx) (Nat.le_of_lt hUl)
      exact Nat.lt_of_le_of_lt h1 (by decide)
    have e1 : U.natAbs < 2 ^ 200 := Nat.lt_trans hUl (by decide)
    exact ⟨e, mul_bits (by rw [Int.natAbs_natCast]; exact Nat.lt_trans hx (by decide)) e1, mul_bits e e1⟩
  have hs := side_or c0
  have hk8 := key_val ls fs hfl fun f hf => (fa.f f hf).2
  have hwo := fa.wo
  have hk0 := hsm 0
  have g0 : (kList fs)[0]? = some ((kList fs).getD 0 0) := getD_some (by lia)
  have g1 : (kList fs)[1]? = some ((kList fs).getD 1 0) := getD_some (by lia)
  have r0 := restI_get (fs := fs) (U := U) (i := fs.length) (j := 0) (by lia)
  have b6 := word_b6 hw
  have b9 := word_b9 hw
  unfold wordB6 at b6
  unfold wordB9 at b9
  simp only [decide_eq_true_eq, Bool.and_eq_true, List.all_eq_true] at b6 b9
  refine ExTo.body (ss' := _ :: _) rfl ?_
  with_reducible refine' ExTo.skipIf (TrTo.or_cons (b := false) ?k1 (fun _ => TrTo.or_cons (b := false) ?k2 (fun _ => TrTo.or_nil) ?k3) ?k4) ?k5
  case k3 | k4 => exact fun q => by cases q
  case k1 =>
    with_reducible refine' TrTo.cast (TrTo.not (TrTo.of (d := .bool true) ?m1 ?m2 ?m3)) ?m4
    case m1 => walk_at "my_x"
    case m2 => trivial
    case m3 => exact fun _ _ => rfl
    case m4 => rfl
  case k2 =>
    with_reducible refine' TrTo.cmp ?m1 ?m2 CmpOk.neNats ?m3
    case m1 | m2 => walk_at "my_x"
    case m3 => rfl
  case k5 =>
    -- squares
    walk_at "s_step"
    case s1 =>
      with_reducible refine' Step.assign (d := .list ([(((kWo h fs).getD 0 0 : Nat) : Int) * U * U, (((kList fs).getD 0 0 - (kWo h fs).getD 0 0 : Nat) : Int) * U * U].map .int)) ?k1 ?k2 ?k3 ?k4
      case k2 => walk_at "my_x"
      case k3 => walk_at "my_x"
      case k4 => exact fun _ => rfl
      case k1 =>
        with_reducible refine' EvTo.cast (EvTo.takeL (EvL.of (EvTo.cmpIfN (f := fun x : Nat => .int ((x : Int) * U)) (g := fun x : Nat => .int ((x : Int) * U * ((x : Int) * U))) (xs := (kList fs).drop 1) (b := fun x : Nat => decide (x * x ≤ (kList fs).getD 0 0)) ?n1 ?n2 ?n3 ?n4 ?n5 ?n6 ?n7 ?n8 ?n9)) (n := 2) ?n10) ?m1
        case n1 => decide +kernel
        case n2 => walk_at "my_x"
        case n3 =>
          rw [List.map_drop, ← restI_all hkl]
          with_reducible refine' ItTo.list (EvTo.dropL (n := 1) ?o1 ?o2)
          case o1 => walk_at "my_x"
          case o2 => walk_at "my_nat"
        case n4 => exact fun _ _ => rfl
        case n5 => walk_at "my_x"
        case n6 => walk_at "my_x"
        case n7 =>
          intro x hx
          have hx6 := fa.small x (List.mem_of_mem_drop hx)
          have e := (hmul x (by lia)).1
          with_reducible refine' TrTo.cast (TrTo.cmp (EvTo.mul ?o1 ?o2 ?o3) (EvTo.mul (EvTo.item ?p1 ?p2 ?p3 r0 ?p4) ?o4 ?o5) CmpOk.leI ?o6) (iu.sq x _)
          case o1 | o2 | o4 => walk_at "my_x"
          case o3 => exact mul_bits e e
          case p1 => walk_at "my_x"
          case p2 => walk_at "my_nat"
          case p3 => decide
          case p4 => exact fun _ _ => rfl
          case o5 => exact (hmul _ (by lia)).2.2
          case o6 => rfl
        case n8 =>
          intro x hx _
          have hx6 := fa.small x (List.mem_of_mem_drop hx)
          have e := (hmul x (by lia)).1
          with_reducible refine' EvTo.mul ?o1 ?o2 ?o3
          case o1 | o2 => walk_at "my_x"
          case o3 => exact mul_bits e e
        case n9 => simp only [List.length_drop]; lia
        case n10 => walk_at "my_nat"
        case m1 =>
          have sq := congrArg (List.map fun y : Nat => PyData.int ((y : Int) * U * U)) fa.sq
          rw [List.map_map] at sq
          rw [← List.map_take]
          refine congrArg PyData.list (Eq.trans ?_ sq)
          refine List.map_congr_left fun x _ => ?_
          show PyData.int _ = PyData.int _
          rw [sq_val]
    -- without
    have hwd : (waysL (FF ls fs) (fitW h ls))[0]? = some ((kWo h fs).getD 0 0) := by
      rw [ways_wo h ls fs hfl (by lia) hkn]
      refine getD_some ?_
      cases h <;> cases fs <;> simp [kWo, kStep] <;> simp at hlen
    walk_at "s_step"
    case s1 =>
      with_reducible refine' Step.assign (d := .int ((((kWo h fs).getD 0 0 : Nat) : Int))) ?k1 ?k2 ?k3 ?k4
      case k2 => walk_at "my_x"
      case k3 => walk_at "my_x"
      case k4 => exact fun _ => rfl
      case k1 =>
        with_reducible refine' EvTo.itemNat (EvL.of (EvTo.user Fy ?m1 ?m2 (.cons ?m3 ?m4 (.cons ?m5 ?m6 .nil)) ⟨FF ls fs, fitW h ls, rfl, ?m7, rfl⟩)) ?m8 hwd ?m9
        case m1 => decide +kernel
        case m2 => lia
        case m3 | m5 => walk_at "my_x"
        case m6 => walk_at "my_x"
        case m8 => walk_at "my_nat"
        case m9 => exact fun _ _ => rfl
        case m7 =>
          refine wy_ok lok.nd hfl (by lia) (fun f hf => (fa.f f hf).2) ?_ ?_
          · rw [← b6, List.length_map, fitL_len]; exact Nat.le_refl _
          · intro r hr
            rw [← b6] at hr
            obtain ⟨r', hr', rfl⟩ := List.mem_map.mp hr
            obtain ⟨l1, l2⟩ := fit_keys ls r' hr'
            exact ⟨Nat.le_trans (List.length_filter_le _ _) l1, fun f hf => l2 f (List.mem_filter.mp hf).1⟩
        case m4 =>
          rw [← b6]
          with_reducible refine' EvTo.cast (EvTo.cmpN (f := fun r : List Str => .list (r.map .str)) (g := fun r : List Str => .list ((r.filter fun f => !(f == midOf h ls)).map .str)) (xs := fitL ls) ?n1 ?n2 ?n3 ?n4 ?n5 ?n6 ?n7 ?n8) ?n9
          case n1 => decide +kernel
          case n2 => walk_at "my_x"
          case n3 => rw [show ((fitL ls).map fun r : List Str => PyData.list (r.map .str)) = fitsD (fitL ls) from rfl]; walk_at "my_x"
          case n4 => exact fun _ _ => rfl
          case n5 => walk_at "my_x"
          case n6 => walk_at "my_x"
          case n8 => rw [fitL_len]; lia
          case n9 => unfold fitsD; rw [List.map_map]; rfl
          case n7 =>
            intro r hr
            obtain ⟨l1, l2⟩ := fit_keys ls r hr
            with_reducible refine' EvTo.cmpIfN (f := fun f : Str => .str f) (g := fun f : Str => .str f) (xs := r) (b := fun f => !(f == midOf h ls)) ?o1 ?o2 ?o3 ?o4 ?o5 ?o6 ?o7 ?o8 ?o9
            case o1 => decide +kernel
            case o2 => walk_at "my_x"
            case o3 => walk_at "my_x"
            case o4 => exact fun _ _ => rfl
            case o5 => walk_at "my_x"
            case o6 => walk_at "my_x"
            case o8 => intro f hf _; walk_at "my_x"
            case o9 => lia
            case o7 =>
              intro f hf
              with_reducible refine' TrTo.cmp ?p1 (EvTo.cast (EvTo.sliceX ?p2 (.some (EvTo.subN ?p3 ?p4 ?p5)) (.some (EvTo.addN ?p6 ?p7)) ?p8) ?p9) (CmpOk.neStr1 (b9.2 f (l2 f hf)) b9.1) ?p10
              case p1 | p2 => walk_at "my_x"
              case p3 | p4 | p6 | p7 => walk_at "my_nat"
              case p5 => exact Nat.le_add_right 1 h
              case p8 => lia
              case p9 =>
                unfold midOf
                rw [show 1 + h - 1 = h by lia, show 1 + h + 1 = h + 2 by lia]
              case p10 => rfl
    -- the squares are right
    with_reducible refine' ExTo.skipIf (TrTo.cmp ?k1 (EvTo.list (ds := [(((kWo h fs).getD 0 0 : Nat) : Int) * U * U, (((kList fs).getD 0 0 - (kWo h fs).getD 0 0 : Nat) : Int) * U * U].map .int) (.cons ?m1 (EvTo.mul (EvTo.mul ?m2 ?m3 ?m4) ?m5 ?m6) (.cons ?n1 (EvTo.mul (EvTo.mul (EvTo.subN (EvTo.itemNat ?n2 ?n3 g0 ?n4) ?n5 hwo) ?n6 ?n7) ?n8 ?n9) .nil)) ?n10) CmpOk.neInts ?k2) ?k3
    case k1 => walk_at "my_x"
    case k2 => rfl
    case m1 | n1 => walk_at "my_x"
    case m2 | n3 | n5 => walk_at "my_nat"
    case n2 => walk_at "my_x"
    case n4 => exact fun _ _ => rfl
    case m3 | m5 | n6 | n8 => walk_at "my_x"
    case m4 => exact (hmul _ (by lia)).2.1
    case m6 => exact (hmul _ (by lia)).2.2
    case n7 => exact (hmul _ (by lia)).2.1
    case n9 => exact (hmul _ (by lia)).2.2
    case n10 => exact Nat.le_of_ble_eq_true rfl
    case k3 =>
      -- inner
      walk_at "s_step"
      case s1 =>
        with_reducible refine' Step.assign (d := .list (natL (kList fs.dropLast))) ?k1 ?k2 ?k3 ?k4
        case k2 => walk_at "my_x"
        case k3 => walk_at "my_x"
        case k4 => exact fun _ => rfl
        case k1 =>
          rw [← ways_in ls fs hfl hkn]
          with_reducible refine' EvTo.user Fy ?m1 ?m2 (.cons ?m3 (EvTo.cast (EvTo.butL ?m4 ?m5) (congrArg PyData.list (fitsD_last _))) (.cons ?m6 ?m7 .nil)) ⟨FF ls fs, (fitL ls).dropLast, rfl, ?m8, rfl⟩
          case m1 => decide +kernel
          case m2 => lia
          case m3 | m6 => walk_at "my_x"
          case m4 => walk_at "my_x"
          case m5 | m7 => walk_at "my_x"
          case m8 =>
            refine wy_ok lok.nd hfl (by lia) (fun f hf => (fa.f f hf).2) ?_ ?_
            · rw [List.length_dropLast, fitL_len]; lia
            · intro r hr
              exact fit_keys ls r ((List.dropLast_sublist _).subset hr)
      have hil : (kList fs.dropLast).length = fs.length + 1 := by
        have e : ∀ xs : List Nat, (kList xs).length = xs.length + 2 := by
          intro xs
          induction xs with
          | nil => rfl
          | cons x xs ih => simp [kList, kStep, ih]
        rw [e, List.length_dropLast]; lia
      have hfr := fa.frs fs.length (Nat.le_refl _)
      have hp0 : (kList fs).getD 0 0 ≠ 0 := by
        obtain ⟨_, q, _⟩ := fa.kk 0 (by lia)
        have := (fa.f _ (getD_mem (xs := fs) (i := 0) (by lia))).1
        intro e
        rw [e, Nat.zero_div] at q
        lia
      refine' ExTo.perm (ρ' := [("many", .own (.int ((2 + 2 * h : Nat) : Int))), ("side", .own (.int (sideI c0))), ("ways", .own (.list (natL (kList fs)))), ("fronts", .own (.list (natL (frK fs fs.length)))), ("inner", .own (.list (natL (kList fs.dropLast))))]) ?r1 ?r2 ?r3
      case r1 =>
        intro p hp
        simp only [List.mem_cons, List.not_mem_nil, or_false] at hp
        rcases hp with rfl | rfl | rfl | rfl | rfl <;> simp only [EF, List.mem_cons, true_or, or_true]
      case r2 => dsimp only [List.map]; decide +kernel
      case r3 =>
        with_reducible refine' ExTo.for (α := Nat) (f := fun i => .int ((i + 1 : Nat) : Int)) (xs := List.range (2 + 2 * h)) (Iv := fun _ => True)
                                  (R := fun i => [("many", .own (.int ((2 + 2 * h : Nat) : Int))), ("side", .own (.int (sideI c0))), ("ways", .own (.list (natL (kList fs)))), ("fronts", .own (.list (natL (frK fs fs.length)))), ("inner", .own (.list (natL (kList fs.dropLast))))])
                                  (ρb := fun i j => [("many", .own (.int ((2 + 2 * h : Nat) : Int))), ("side", .own (.int (sideI c0))), ("ways", .own (.list (natL (kList fs)))), ("fronts", .own (.list (natL (frK fs fs.length)))), ("inner", .own (.list (natL (kList fs.dropLast)))), ("place", .own (.int ((j + 1 : Nat) : Int)))])
                                  ?l1 ?l2 ?l3 trivial ?l5 ?l6 ?l7
        case l1 =>
          rw [show ((List.range (2 + 2 * h)).map fun i : Nat => PyData.int ((i + 1 : Nat) : Int)) = (rangeL ((1 : Nat) : Int) ((2 + 2 * h + 1 : Nat) : Int) 1).map .int by rw [rangeL_one, List.map_map]; rfl]
          with_reducible refine' ItTo.range2 ?m1 ?m2 ?m3 ?m4 ?m5 ?m6 ?m7 ?m8
          case m1 => decide +kernel
          case m2 => exact (Glo.range hG).1
          case m3 => exact (Glo.range hG).2
          case m4 | m5 => walk_at "my_nat"
          case m6 | m7 => walk_at "my_x"
          case m8 =>
            have : ∀ h : Nat, h < 3 → Builtin.Range.small ((1 : Nat) : Int) ((2 + 2 * h + 1 : Nat) : Int) 1 = true := by decide +kernel
            exact this h hh
        case l2 => exact fun _ _ => rfl
        case l3 => exact Wkn.refl _
        case l5 => intro i x hx _; walk_at "my_x"
        case l7 =>
          intro _
          with_reducible refine' ExTo.ret EvTo.boolC ?m1
          case m1 => rfl
        case l6 =>
          intro i j hx _
          have hij : j = i ∧ i < 2 + 2 * h := by
            have h1 := List.getElem?_eq_some_iff.mp hx
            obtain ⟨h2, h3⟩ := h1
            simp at h2 h3
            lia
          obtain ⟨rfl, hj⟩ := hij
          have pl := place_ok (fa.d j (by lia))
          have gp : (kList fs)[j + 1]? = some ((kList fs).getD (j + 1) 0) := getD_some (by lia)
          have gi : (kList fs.dropLast)[j + 1]? = some ((kList fs.dropLast).getD (j + 1) 0) := getD_some (by lia)
          have gf : (frK fs fs.length)[j + 1 - 1]? = some ((frK fs fs.length).getD (j + 1 - 1) 0) := getD_some (by lia)
          have s1 := hsm 1
          have sp := hsm (j + 1)
          have sf := hfr.2 _ (getD_mem (xs := frK fs fs.length) (i := j + 1 - 1) (by lia))
          obtain ⟨t, d, m, up, dn⟩ := pl
          have hnn : (kList fs).getD 1 0 * (kList fs).getD (j + 1) 0 < 10 ^ 12 := by
            have := Nat.mul_lt_mul_of_lt_of_le s1 (Nat.le_of_lt sp) (by decide)
            lia
          have hq : (kList fs.dropLast).getD (j + 1) 0 < 10 ^ 13 := by
            rcases Int.lt_or_le 0 (turnI (j + 1)) with e | e
            · have e1 := (up e).1
              have e2 : turnI (j + 1) = 1 := by lia
              rw [e2, Int.one_mul] at e1
              have := Nat.div_le_self ((kList fs).getD 1 0 * (kList fs).getD (j + 1) 0) ((kList fs).getD 0 0)
              lia
            · have e1 := (dn (by lia)).1
              have e2 : turnI (j + 1) = -1 := by lia
              rw [e2, Int.neg_mul, Int.one_mul, Int.neg_neg] at e1
              have := Nat.div_le_self ((kList fs).getD 1 0 * (kList fs).getD (j + 1) 0) ((kList fs).getD 0 0)
              lia
          generalize (kList fs).getD (j + 1) 0 = kp at *
          generalize (kList fs).getD 1 0 = k1 at *
          generalize (kList fs).getD 0 0 = k0 at *
          generalize (kList fs.dropLast).getD (j + 1) 0 = q at *
          generalize (frK fs fs.length).getD (j + 1 - 1) 0 = r at *
          walk_at "s_step"
          case s1 =>
            with_reducible refine' Step.assign (d := .int (turnI (j + 1))) (EvTo.sub ?m1 (EvTo.mulN (EvTo.modN ?m2 ?m3 ?m4) ?m5 ?m6)) ?k2 ?k3 ?k4
            case m1 | m2 | m3 | m5 => walk_at "my_nat"
            case m4 => decide
            case m6 => exact small_mul (by have := Nat.mod_lt (j + 1) (show 0 < 2 by decide); lia) (by decide)
            case k2 => walk_at "my_x"
            case k3 => walk_at "my_x"
            case k4 => exact fun _ => rfl
          generalize turnI (j + 1) = t1 at *
          have htn : t1.natAbs = 1 := by rcases t with e | e <;> rw [e] <;> rfl
          have hsn : (sideI c0).natAbs = 1 := by rcases hs with e | e <;> rw [e] <;> rfl
          walk_at "s_step"
          case s1 =>
            with_reducible refine' Step.tupSwN (bs := [.own (.int (t1 * (q : Int))), .own (.int (r : Int))]) (.cons ?k1 (.own (EvTo.mul ?m1 (EvTo.itemNat ?m2 ?m3 gi ?m4) ?m5)) (.cons ?k2 (.own (EvTo.itemNat ?m6 (EvTo.subN ?m7 ?m8 ?m9) gf ?m10)) .nil)) ?k6 ?k7 ?k8 ?k9 ?k10
            case k1 | k2 => walk_at "my_x"
            case m1 => walk_at "my_x"
            case m2 | m6 => walk_at "my_x"
            case m3 | m7 | m8 => walk_at "my_nat"
            case m4 | m10 => exact fun _ _ => rfl
            case m5 => exact mul_bits (by rw [htn]; decide) (by rw [Int.natAbs_natCast]; exact Nat.lt_trans hq (by decide))
            case m9 => lia
            case k6 => walk_at "my_x"
            case k8 => decide +kernel
            case k9 => rfl
            case k10 => exact Nat.le_of_ble_eq_true rfl
            case k7 => (dsimp only [List.reverse, List.reverseAux]; walk_at "my_x")
          have ha2 : (sideI c0 * t1).natAbs = 1 := by rw [Int.natAbs_mul, htn, hsn]
          have ha3 : (sideI c0 * t1 * (k1 : Int)).natAbs = k1 := by rw [Int.natAbs_mul, ha2, Int.natAbs_natCast, Nat.one_mul]
          have ha4 : (sideI c0 * t1 * (k1 : Int) * (kp : Int)).natAbs = k1 * kp := by rw [Int.natAbs_mul, ha3, Int.natAbs_natCast]
          have hy : (sideI c0 * (k0 : Int)).natAbs = k0 := by rw [Int.natAbs_mul, hsn, Int.natAbs_natCast, Nat.one_mul]
          have hbig : 10 ^ 12 < big := by unfold big; exact Nat.lt_of_lt_of_le (show 10 ^ 12 < 2 ^ 80 by decide) (Nat.pow_le_pow_right (by decide) (by decide))
          have hx : sideI c0 * t1 * (k1 : Int) * (kp : Int) = sideI c0 * (t1 * ((k1 * kp : Nat) : Int)) := by rw [Int.natCast_mul]; simp only [Int.mul_assoc]
          have hdiv := side_div hs (t1 * ((k1 * kp : Nat) : Int)) (k0 : Int)
          rw [← hx, d, m] at hdiv
          with_reducible refine' ExTo.skipIf (TrTo.cmp (a := .tuple ([t1 * (q : Int), sideI c0 * (r : Int)].map .int)) (b := .tuple ([t1 * (q : Int), sideI c0 * (r : Int)].map .int)) ?k1 ?k2 CmpOk.nePairs ?k3) ?k4
          case k3 => rfl
          case k1 =>
            with_reducible refine' EvTo.cast (EvTo.user Fid ?m1 ?m2 (.cons ?m3 (EvTo.mul (EvTo.mul (EvTo.mul ?n1 ?n2 ?n3) (EvTo.itemNat ?n4 ?n5 g1 ?n6) ?n7) (EvTo.itemNat ?n8 ?n9 gp ?n10) ?n11) (.cons ?m4 (EvTo.mul ?o1 (EvTo.itemNat ?o2 ?o3 g0 ?o4) ?o5) .nil)) ⟨_, _, rfl, ?m5, ?m6, ?m7, rfl⟩) ?m8
            case m1 => decide +kernel
            case m2 => exact hk
            case m3 | m4 => walk_at "my_x"
            case n1 | n2 | o1 => walk_at "my_x"
            case n4 | n8 | o2 => walk_at "my_x"
            case n5 | n9 | o3 => walk_at "my_nat"
            case n6 | n10 | o4 => exact fun _ _ => rfl
            case n3 => exact mul_bits (by rw [hsn]; decide) (by rw [htn]; decide)
            case n7 => exact mul_bits (by rw [ha2]; decide) (by rw [Int.natAbs_natCast]; exact Nat.lt_trans s1 (by decide))
            case n11 => exact mul_bits (by rw [ha3]; exact Nat.lt_trans s1 (by decide)) (by rw [Int.natAbs_natCast]; exact Nat.lt_trans sp (by decide))
            case o5 => exact mul_bits (by rw [hsn]; decide) (by rw [Int.natAbs_natCast]; exact Nat.lt_trans hk0 (by decide))
            case m5 => intro e; rw [e] at hy; exact hp0 hy.symm
            case m6 => rw [ha4]; exact Nat.lt_trans hnn hbig
            case m7 => rw [hy]; exact Nat.lt_trans (Nat.lt_trans hk0 (by decide)) hbig
            case m8 => rw [hdiv.1, hdiv.2]; rfl
          case k2 =>
            with_reducible refine' EvTo.tuple (.cons ?o1 ?o2 (.cons ?p1 (EvTo.mul ?p2 ?p3 ?p4) .nil)) ?p5
            case o1 | p1 => walk_at "my_x"
            case o2 | p2 | p3 => walk_at "my_x"
            case p4 => exact mul_bits (by rw [hsn]; decide) (by rw [Int.natAbs_natCast]; exact Nat.lt_trans sf (by decide))
            case p5 => exact Nat.le_of_ble_eq_true rfl
          case k4 =>
            -- due
            walk_at "s_step"
            case s1 =>
              with_reducible refine' Step.assign (d := .tuple ([((k1 * kp / k0 : Nat) : Int), ((k1 * kp % k0 : Nat) : Int)].map .int)) (EvTo.ite (t := decide (t1 > ((0 : Nat) : Int))) (TrTo.cmp ?m1 ?m2 CmpOk.gtI ?m3) ?m4 ?m5) ?k2 ?k3 ?k4
              case k2 => walk_at "my_x"
              case k3 => walk_at "my_x"
              case k4 => exact fun _ => rfl
              case m1 => walk_at "my_x"
              case m2 => walk_at "my_nat"
              case m3 => rfl
              case m4 =>
                intro e
                obtain ⟨e1, e2⟩ := up (of_decide_eq_true e)
                rw [← e1, ← e2]
                with_reducible refine' EvTo.tuple (.cons ?o1 ?o2 (.cons ?p1 ?p2 .nil)) ?p3
                case o1 | p1 => walk_at "my_x"
                case o2 | p2 => walk_at "my_x"
                case p3 => exact Nat.le_of_ble_eq_true rfl
              case m5 =>
                intro e
                obtain ⟨e1, e2⟩ := dn (of_decide_eq_false e)
                rw [← e1, ← e2]
                with_reducible refine' EvTo.tuple (.cons ?o1 (EvTo.sub (EvTo.neg ?o2) ?o3) (.cons ?p1 (EvTo.sub (EvTo.itemNat ?p2 ?p3 g0 ?p4) ?p5) .nil)) ?p6
                case o1 | p1 => walk_at "my_x"
                case o2 | o3 | p5 => walk_at "my_x"
                case p2 => walk_at "my_x"
                case p3 => walk_at "my_nat"
                case p4 => exact fun _ _ => rfl
                case p6 => exact Nat.le_of_ble_eq_true rfl
            with_reducible refine' ExTo.skipIf (TrTo.cmp (EvTo.user Fh ?m1 ?m2 (.cons ?m3 (EvTo.mulN (EvTo.itemNat ?n4 ?n5 g1 ?n6) (EvTo.itemNat ?n8 ?n9 gp ?n10) ?n11) (.cons ?m4 (EvTo.itemNat ?o2 ?o3 g0 ?o4) .nil)) ⟨k1 * kp, k0, rfl, Nat.pos_of_ne_zero hp0, ?m5, ?m6, rfl⟩) ?k1 (CmpOk.nePairs (ts := [((k1 * kp / k0 : Nat) : Int), ((k1 * kp % k0 : Nat) : Int)])) ?k2) ?k3
            case m1 => decide +kernel
            case m2 => lia
            case m3 | m4 => walk_at "my_x"
            case n4 | n8 | o2 => walk_at "my_x"
            case n5 | n9 | o3 => walk_at "my_nat"
            case n6 | n10 | o4 => exact fun _ _ => rfl
            case n11 => exact small_mul (by lia) (by lia)
            case m5 => exact Nat.le_trans (intBits_le (m := 80) (by lia)) (by decide)
            case m6 => exact Nat.le_trans (intBits_le (m := 80) (by lia)) (by decide)
            case k1 => walk_at "my_x"
            case k2 => rfl
            case k3 =>
              refine' ExTo.nil ⟨?_, trivial⟩
              walk_at "my_x"
end
/-! # law, called -/
section
variable {prog : Program} {w : World} {G : Gl prog w}
structure Fns (G : Gl prog w) : Prop where
  un : FnOk G "_law_unseen" 1 (fun ds d => ds = [] ∧ d = .str unsS)
  st : FnOk G "_law_stock" 1 stRel
  fo : FnOk G "_law_folds" 2 (foRel b1S b3T)
  el : FnOk G "_ellipsis_match" 1 elRel
  wa : FnOk G "_law_wants" 1 waRel
  wy : FnOk G "_law_ways" 1 wyRel
  idm : FnOk G "int_divmod" 27 idRel
  ha : FnOk G "_law_halves" 3 haRel
noncomputable abbrev EE (h c0 : Nat) (ls fs : List Nat) (U : Int) : VEnv :=
  [("half", .own (.int ((1 + h : Nat) : Int))), ("many", .own (.int ((2 + 2 * h : Nat) : Int))), ("side", .own (.int (sideI c0))), ("word", .own (.str (wordS ls))), ("forms", .own (.list (natL fs))), ("folds", .own (.dict (dk (asD (FF ls fs))))),
    ("fits", .own (.list (fitsD (fitL ls)))), ("ways", .own (.list (natL (kList fs)))), ("fronts", .own (.list (natL (frK fs fs.length)))), ("unit", .own (.int U)), ("rests", .own (.list ((restI fs U fs.length).map .int))), ("quotients", .own (.list (natL fs))), ("ended", .own (.bool false))]
theorem law_pre (hG : Glo G) (F : Fns G) (sc : List Int) (hsc : sc.length ≤ 63) :
    ExTo G 27 (fnScope PP iLaw) [("script", .own (.list (sc.map .int)))] lawA (fun o => ∃ h c0 ls fs U u, o = .next (EE h c0 ls fs U) ∧ IsWord h ls ∧ FsA h fs ∧ IsUnit (sideI c0) U u) := by
  refine law_a hG (Nat.le_refl _) F.un F.st F.fo sc hsc fun h c0 ls fs hw _ hfs => ?_
  have fa := fs_a (fs_ok hw.1 hfs)
  refine law_b hG (Nat.le_refl _) F.el F.wa hw (law_c hG (Nat.le_refl _) F.el F.wy hw fa ?_)
  have hc : ∀ j, j < 7 → (cellsL sc)[j]? = some (cellN sc j) := fun j hj => by unfold cellsL; rw [List.getElem?_map, List.getElem?_range hj]; rfl
  refine law_d hG (Nat.le_refl _) F.idm F.ha hw.1 fa (hc 5 (by decide)) (hc 6 (by decide)) (cell_cast sc 5).2 fun U u iu => ?_
  refine ExTo.body (ss' := [_]) rfl ?_
  walk_at "s_asg"
  refine ExTo.nil ?_
  exact ⟨h, c0, ls, fs, U, u, rfl, hw, fa, iu⟩
theorem law_call (hG : Glo G) (F : Fns G) (hZ : Bl G "ZeroDivisionError" (.type "ZeroDivisionError")) (hDi : DefAt G "int_divmod" (fnPars PP iIdm) (fnBody PP iIdm) (fnScope PP iIdm)) (hD : DefAt G "law" (fnPars PP iLaw) (fnBody PP iLaw) (fnScope PP iLaw)) :
    ∃ a, G.mg "law" = some (.ref a) ∧ (∃ o fd, G.hB.get? a = some o ∧ o.data = .func fd) ∧
      ∀ (A : Around) (M : Addr → Prop) (s : Shared) (v : Value) (sc : List Int) (Q : Value → Shared → Prop) (E : Value → Shared → Prop), Ok 28 A → A.frames = some [] →
        (∀ b o, G.hB.get? b = some o → Gr G.T s.heap b o) → (∀ a, M a → ∃ o, s.heap.get? a = some o) → Rp prog w s.heap M (.list (sc.map .int)) v → sc.length ≤ 63 →
        (∀ s', Kp G.T s s' → Q (.bool true) s') → wpAny (model prog w) A (call (.ref a) [v]) Q E s := by
  obtain ⟨hZ1, hZ2⟩ := hZ
  obtain ⟨a, hm, hfd, hcall⟩ := call_body (k := 27) (ps := ["script"]) hD (by decide +kernel) (fun pm c doc vs hl => by obtain ⟨a, rfl⟩ := one_vs hl; rfl)
  refine ⟨a, hm, hfd, fun A M s v sc Q E ho hfr0 hbase hdom hr hsc hQ => ?_⟩
  refine hcall A M s [v] [.list (sc.map .int)] Q E ho hbase hdom (RpL.cons hr RpL.nil) rfl fun cenv s1 c' Wc Q' E' _ _ _ hfr hcs hvc hok hnew kp wn st hq he => ?_
  have hfr1 : (A.deeper cenv).frames = some [cenv] := Around.frames_deeper hfr0
  rw [show fnBody PP iLaw = lawA ++ (fnBody PP iLaw).drop 21 from (List.take_append_drop 21 _).symm]
  refine wpAny_execs_append (law_pre hG F sc hsc (A.deeper cenv) cenv M (fun _ => False) Wc (fun _ => False) s s1 _ _ hok hvc st (fun ρ1 Z1 s2 hp t2 _ => ?_) fun d v s2 hp _ _ => ?_)
  · obtain ⟨h, c0, ls, fs, U, u, hρ, hw, fa, iu⟩ := hp
    cases hρ
    refine wpAny_execs_cons ?_
    have hri := raise_call (k := 26) (ps := ["a", "b"]) hDi (by decide +kernel) (fun pm c doc vs hl => by obtain ⟨a, b, rfl⟩ := two_vs hl; rfl) (hb := rfl) (x := "ZeroDivisionError") (by decide +kernel) hZ1 hZ2 excClass_ZeroDivisionError
    have g0 := restI_get (fs := fs) (U := U) (i := fs.length) (j := 2 + 2 * h) (by have := fa.len; lia)
    have g1 := restI_get (fs := fs) (U := U) (i := fs.length) (j := 2 + 2 * h + 1) (by have := fa.len; lia)
    have k0 := fa.k0
    rw [fa.len] at k0
    rw [k0] at g1
    with_reducible refine' Try_call (X := "ZeroDivisionError") (fn := "int_divmod") (x := "ZeroDivisionError") (y := "ended") (ρ' := EF h c0 ls fs U) (ds := [.int ((((kList fs).getD (2 + 2 * h) 0 : Nat) : Int) * U), .int (((0 : Nat) : Int) * U)]) hok hvc t2 hfr1 hfr ?k1 ?k2 ?k3 ?k4 ?k5 hZ1 hZ2 excClass_ZeroDivisionError ?k6 ?k7 ?k8 ?k9 ?k10
    case k1 =>
      obtain ⟨a2, hm2, hfd2, hc2⟩ := hri
      refine ⟨a2, hm2, hfd2, fun A M s vs Q E env ho hbase hdom hr hfr hkm hfe hdict hE => hc2 A M s vs _ Q E env ho hbase hdom hr rfl ?_ hfr hkm hfe hdict hE⟩
      walk_at "my_args"
      with_reducible refine' TrTo.cast (TrTo.cmp ?m1 ?m2 CmpOk.eqI ?m3) ?m4
      case m1 => walk_at "my_x"
      case m2 => walk_at "my_nat"
      case m3 => rfl
      case m4 => simp
    case k2 => decide +kernel
    case k3 =>
      with_reducible refine' .cons ?m1 (EvTo.item ?m2 ?m3 ?m4 g0 ?m5) (.cons ?n1 (EvTo.item ?n2 ?n3 ?n4 g1 ?n5) .nil)
      case m1 | n1 => walk_at "my_x"
      case m2 | n2 => walk_at "my_x"
      case m3 | n3 => walk_at "my_nat"
      case m4 | n4 => lia
      case m5 | n5 => exact fun _ _ => rfl
    case k4 => exact fun _ => rfl
    case k5 => decide +kernel
    case k6 => kernel_rfl
    case k7 => walk_at "my_x"
    case k8 => walk_at "my_x"
    case k9 => exact fun _ => rfl
    case k10 =>
      intro s3 t3
      refine law_f hG (Nat.le_refl _) F.idm F.ha F.wy hw fa iu (A.deeper cenv) cenv M (fun _ => False) Wc _ s s3 _ _ hok hvc t3 (fun ρ2 Z2 s4 hp2 _ _ => by cases hp2) fun d v s4 hp2 hk4 hr4 => ?_
      cases hp2
      simp only [Rp] at hr4
      subst hr4
      exact hq _ _ (hQ s4 hk4)
  · obtain ⟨h, c0, ls, fs, U, u, hρ, _⟩ := hp
    cases hρ
end
/-! # the top: set and dict -/
section
open PySem.W
variable {prog : Program} {w : World}
theorem ints_are {h : Heap} {M : Addr → Prop} : ∀ {ns : List Int} {vs : List Value}, RpL prog w h M (ns.map .int) vs → IntsAre vs ns
  | [], vs, r => by simp only [List.map_nil, RpL] at r; subst r; exact .nil
  | n :: ns, vs, r => by
    simp only [List.map_cons, RpL, Rp] at r
    obtain ⟨v, rest, rfl, ⟨t, rfl⟩, r2⟩ := r
    exact .cons n t (ints_are r2)
/-- the set of the top, laid -/
noncomputable def SetV (N : Nat) (h : Heap) (v : Value) : Prop := ∃ a n, v = .ref a ∧ N ≤ a ∧ ∀ (prog : Program) (w : World), h.SetOf (intKind prog w) a b1S n
theorem SetV.stab {N : Nat} : Stab N (SetV N) := by
  intro h h' v hk ⟨a, n, h1, h2, h3⟩
  refine ⟨a, n, h1, h2, fun prog w => ?_⟩
  obtain ⟨o, es, ep, t, ho, r⟩ := h3 prog w
  exact ⟨o, es, ep, t, hk _ _ h2 ho, r⟩
/-- the table of the top, laid -/
noncomputable def TabV (N : Nat) (h : Heap) (v : Value) : Prop := ∃ a kvs, v = .ref a ∧ N ≤ a ∧ RelT kvs b3T ∧ ∀ (prog : Program) (w : World), h.DictOf (intKind prog w) a kvs
theorem TabV.stab {N : Nat} : Stab N (TabV N) := by
  intro h h' v hk ⟨a, kvs, h1, h2, h3, h4⟩
  refine ⟨a, kvs, h1, h2, h3, fun prog w => ?_⟩
  obtain ⟨o, es, ep, ho, r⟩ := h4 prog w
  exact ⟨o, es, ep, hk _ _ h2 ho, r⟩
noncomputable def setE : Expr := ((asAsg PP.main.body[12]?).map (·.2.1)).getD (.Constant .none 0 default)
noncomputable def scF : Scope := { kind := .function, names := [("set", .globalImplicit), ("list", .globalImplicit), ("range", .globalImplicit)], isGenerator := false, isCoroutine := false, more := [] }
noncomputable def fakeEnv (c F : Addr) : Env := { mainEnv PP c F with scope := scF }
theorem set_env (c F : Addr) : eval setE (mainEnv PP c F) = eval setE (fakeEnv c F) := by kernel_rfl
noncomputable def setL : List Int := [173, 847, 6150, 6155, 6156, 6157, 8203, 8204, 8205, 8288, 65279]
theorem scF_kind {x : Str} {k : NameKind} (h : scF.names.lookup x = some k) : k = .globalImplicit := by
  have := mem_of_lookup h
  simp only [scF, List.mem_cons, Prod.mk.injEq, List.not_mem_nil, or_false] at this
  rcases this with ⟨_, h⟩ | ⟨_, h⟩ | ⟨_, h⟩ <;> exact h
theorem fake_ok (c F : Addr) : EnvOk scF (fakeEnv c F) where
  kind := rfl
  glob := rfl
  blt := rfl
  kindG := fun x hx => hx
  kindC := fun x hx => hx
  kindN := fun x => rfl
  noDbg := (by decide +kernel : scF.names.lookup ("__debug__" : Str) = none)
  cells := fun x hx => by rcases hx with hx | hx <;> cases scF_kind hx
  noCd := (by decide +kernel : scF.names.lookup ("__classdict__" : Str) = none)
theorem set_eval {A : Around} {s : Shared} {c F : Addr} {mg mb : Str → Option Value} {N : Nat} {Q : Value → Shared → Prop} {E : Value → Shared → Prop} (ho : Ok 0 A) (hg : s.heap.Ns mainGlobals mg) (hb : s.heap.Ns builtinsNs mb) (hl : s.heap.NoLimit)
    (hm : mg "set" = none ∧ mg "list" = none ∧ mg "range" = none) (hmb : mb "set" = some (.type "set") ∧ mb "list" = some (.type "list") ∧ mb "range" = some (.type "range")) (hN : ∀ h' : Heap, (∀ b o, s.heap.get? b = some o → h'.get? b = some o) → N ≤ h'.objs.size)
    (hQ : ∀ v h₁ tk, (∀ b o, s.heap.get? b = some o → h₁.get? b = some o) → SetV N h₁ v → Q v { s with heap := h₁, toks := tk }) :
    wpAny (model PP w) A (eval setE (mainEnv PP c F)) Q E s := by
  rw [set_env]
  let G : Gl PP w := ⟨s.heap, mg, mb, hg, hb, hl, fun _ _ _ _ => False⟩
  have vr : VR G (fakeEnv c F) (fun _ => False) [] s := ⟨fun b o e => .inl e, fun a ha => ha.elim, (fun x b hx => by cases hx), (fun x c hx => by cases hx), List.nodup_nil⟩
  show wpAny (model PP w) A (eval (.Call _ [.BinOp _ _ _ _] [] _) (fakeEnv c F)) Q E s
  refine call_type (G := G) (k := 0) (sc := scF) (ρ := []) (M := fun _ => False) ho (fake_ok c F) vr (by decide +kernel) hm.1 hmb.1 (ds := [.list ((setL ++ rangeL 65024 65040 1).map .int)]) (.cons (fun _ _ => rfl) ?_ .nil) fun vs s1 k1 r1 => ?_
  · rw [List.map_append]
    with_reducible refine' EvTo.catL (EvL.of (EvTo.list ?a1 ?a2)) (EvL.of (EvTo.listRange ?b1 ?b2 ?b3 ?b4 ?b5 ?b6 ?b7 ?b8 ?b9 ?b10 ?b11 ?b12)) ?a3
    case b1 | b4 => decide +kernel
    case b2 => exact hm.2.1
    case b3 => exact hmb.2.1
    case b5 => exact hm.2.2
    case b6 => exact hmb.2.2
    case b7 | b8 => exact EvTo.intC
    case b9 | b10 => exact fun _ _ => rfl
    case b11 => decide +kernel
    case a2 | a3 | b12 => exact Nat.le_of_ble_eq_true rfl
    case a1 =>
      unfold setL
      simp only [List.map_cons, List.map_nil]
      walk_at "my_x"
  · obtain ⟨v, rfl, r⟩ := r1.one
    simp only [Rp] at r
    obtain ⟨l, items, rfl, _, hpl, rr, _⟩ := r
    have h2 : ((setL ++ rangeL 65024 65040 1).map PyData.int).length = 27 := by decide +kernel
    have hsz : items.size = 27 := by
      have h1 := rr.length
      rw [h2] at h1; simpa using h1
    obtain ⟨n0, e0⟩ := hpl
    have hk1 : ∀ b o, s.heap.get? b = some o → s1.heap.get? b = some o := fun b o e => by
      rcases k1.tk b o e with q | ⟨_, _, _, _, q, _⟩
      · exact q
      · exact q.elim
    obtain ⟨hh, tt, hs1⟩ := k1.same
    refine PySem.call_set_list (ns := setL ++ rangeL 65024 65040 1) ho.hh ⟨_, e0, rfl, n0, rfl⟩ (ints_are rr) (by rw [hsz]; decide) fun h' tk hS hk2 => ?_
    rw [show ({ s1 with heap := h', toks := tk } : Shared) = { s with heap := h', toks := tk } by rw [hs1]]
    refine hQ _ h' tk (fun b o e => hk2 b o (Heap.lt_size (hk1 b o e)) (hk1 b o e)) ⟨_, (firstMet (fun i => (setL ++ rangeL 65024 65040 1).getD i 0) items.size).length, rfl, hN _ hk1, fun prog' w' => ?_⟩
    obtain ⟨o, es, ep, t, q1, q2, q3, q4, q5, q6, q7, q8⟩ := hS
    refine ⟨o, es, ep, t, q1, q2, q3, elemsOf_transport q4 rfl rfl, fun k => ?_, q6, q7, q8⟩
    rw [← show (firstMet (fun i => (setL ++ rangeL 65024 65040 1).getD i 0) items.size).any (· == k) = b1S k from ?_]
    · exact q5 k
    · rw [firstMet_any, hsz, show (List.range 27).map (fun i => (setL ++ rangeL 65024 65040 1).getD i 0) = unsL.map fun n : Nat => (n : Int) by decide +kernel, List.any_map]
      rfl
end
section
open PySem.W
variable {w : World}
noncomputable def tabE : Expr := ((asAsg PP.main.body[14]?).map (·.2.1)).getD (.Constant .none 0 default)
noncomputable def tabK : List (Option Expr) := ((asDict tabE).map (·.1)).getD []
noncomputable def tabVs : List Expr := ((asDict tabE).map (·.2.1)).getD []
noncomputable def tabPos : Pos := ((asDict tabE).map (·.2.2)).getD default
theorem tab_is : tabE = .Dict tabK tabVs tabPos := by kernel_rfl
theorem tab_lit : litT tabK tabVs = some b3T := by kernel_rfl
theorem tab_up : upB b3T = true := by kernel_rfl
theorem tab_len : (b3T.length ≤ 100000) ∧ b3T ≠ [] := ⟨by decide +kernel, by decide +kernel⟩
theorem pairs_transport {prog prog' : Program} {w w' : World} {es : List DictEntry} {kvs : List (Int × Value)} (h : Pairs (intKind prog w) es kvs) : Pairs (intKind prog' w') es kvs := by
  induction h with
  | nil => exact .nil
  | cons h1 h2 _ ih => exact .cons h1 h2 ih
theorem dict_transport {prog prog' : Program} {w w' : World} {h : Heap} {a : Addr} {kvs : List (Int × Value)} (hd : h.DictOf (intKind prog w) a kvs) : h.DictOf (intKind prog' w') a kvs := by
  obtain ⟨o, es, ep, q1, q2, q3, q4, q5, q6⟩ := hd
  exact ⟨o, es, ep, q1, q2, q3, q4, pairs_transport q5, q6⟩
theorem tab_eval {A : Around} {s : Shared} {c F : Addr} {N : Nat} {Q : Value → Shared → Prop} {E : Value → Shared → Prop} (hN : N ≤ s.heap.objs.size) (hS : sysModules < s.heap.objs.size)
    (hQ : ∀ v h₁ tk, (∀ b o, s.heap.get? b = some o → h₁.get? b = some o) → TabV N h₁ v → Q v { s with heap := h₁, toks := tk }) :
    wpAny (model PP w) A (eval tabE (mainEnv PP c F)) Q E s := by
  have key := tab_lit
  have k2 := tab_up
  have k3 := tab_len
  unfold TabV at hQ
  rw [tab_is]
  generalize b3T = T at *
  generalize tabK = K at *
  generalize tabVs = V at *
  generalize tabPos = p at *
  generalize mainEnv PP c F = env at *
  generalize PP = prog at *
  exact Dict_int key k2 k3.1 k3.2 hS fun a h' tk kvs hr ha hd hk => hQ _ h' tk hk ⟨a, kvs, rfl, Nat.le_trans hN ha, hr, fun prog' w' => dict_transport hd⟩
end
/-! # the top, statement by statement -/
section
open PySem.W
noncomputable def topSt (i : Nat) : Stmt := (PP.main.body[i]?).getD (.Pass default)
noncomputable def posOf (i : Nat) : Pos := ((asDef PP.main.body[i]?).map (·.2.2.2)).getD default
noncomputable def topBody : List Stmt := PP.main.body
theorem top_body : topBody = [topSt 0, topSt 1, topSt 2, topSt 3, topSt 4, topSt 5, topSt 6, topSt 7, topSt 8, topSt 9, topSt 10, topSt 11, topSt 12, topSt 13, topSt 14, topSt 15, topSt 16, topSt 17, topSt 18, topSt 19, topSt 20, topSt 21, topSt 22, topSt 23] := by kernel_rfl
noncomputable def nmPos (i : Nat) : Pos := (((asAsg PP.main.body[i]?).bind (·.1.head?)).map Expr.pos).getD default
noncomputable def asPos (i : Nat) : Pos := ((asAsg PP.main.body[i]?).map (·.2.2)).getD default
theorem st12 : topSt 12 = .Assign [.Name "b1_set" (nmPos 12)] setE (asPos 12) := by kernel_rfl
theorem st14 : topSt 14 = .Assign [.Name "b3_exceptions" (nmPos 14)] tabE (asPos 14) := by kernel_rfl
theorem sw14 (c F : Addr) : swapsWith tabE (some (.Name "b3_exceptions" (nmPos 14))) (asPos 14).line (mainEnv PP c F) = pure false := by kernel_rfl
noncomputable def topNames : List Str := ["law", "_law_halves", "_law_ways", "_law_wants", "_law_folds", "_law_stock", "_law_unseen", "map_table_b3", "b3_exceptions", "in_table_b1", "b1_set", "int_divmod", "_divmod_pos", "_digits2int", "_int2digits", "_div3n2n", "_div2n1n", "_DIV_LIMIT", "_ellipsis_match", "ELLIPSIS_MARKER"]
noncomputable def topDefs : List (Nat × Str) := [(2, "_ellipsis_match"), (5, "_div2n1n"), (6, "_div3n2n"), (7, "_int2digits"), (8, "_digits2int"), (9, "_divmod_pos"), (10, "int_divmod"), (13, "in_table_b1"), (15, "map_table_b3"), (17, "_law_unseen"), (18, "_law_stock"), (19, "_law_folds"), (20, "_law_wants"), (21, "_law_ways"), (22, "_law_halves"), (23, "law")]
/-- what the top leaves -/
structure TopF (h₀ : Heap) (mg₀ : Str → Option Value) (Pl : Addr) (h : Heap) (mg : Str → Option Value) : Prop where
  g : h.Ns mainGlobals mg
  bmod : h.BuiltinsAt mg Pl
  low : mainGlobals < Pl
  keep : ∀ b o, b ≠ Pl → b ≠ mainGlobals → h₀.get? b = some o → h.get? b = some o
  others : ∀ x, x ∉ topNames → x ≠ "__name__" → mg x = mg₀ x
  defs : ∀ d, d ∈ topDefs → ∃ v lo hi, mg d.2 = some v ∧ DefV (Pl + 1) lo hi d.2 (fnPars PP d.1) (fnBody PP d.1) (fnScope PP d.1) h v
  apart : ∃ z lo hi u v, mg "_int2digits" = some u ∧ mg "_digits2int" = some v ∧ DefV (Pl + 1) lo z "_int2digits" (fnPars PP iI2d) (fnBody PP iI2d) (fnScope PP iI2d) h u ∧ DefV (Pl + 1) z hi "_digits2int" (fnPars PP iD2i) (fnBody PP iD2i) (fnScope PP iD2i) h v
  marker : ∃ t, mg "ELLIPSIS_MARKER" = some (.str "..." t)
  limit : ∃ t, mg "_DIV_LIMIT" = some (.int 4000 t)
  set : ∃ v, mg "b1_set" = some v ∧ SetV (Pl + 1) h v
  tab : ∃ v, mg "b3_exceptions" = some v ∧ TabV (Pl + 1) h v
noncomputable def DV (Pl : Addr) (lo hi : Heap) (i : Nat) (nm : Str) : Str × (Heap → Value → Prop) := (nm, DefV (Pl + 1) lo.objs.size hi.objs.size nm (fnPars PP i) (fnBody PP i) (fnScope PP i))
theorem TopI.defP {M : Model} {A : Around} {E : Value → Shared → Prop} {s : Shared} {c Pl F : Addr} {h₀ : Heap} {mg₀ mg : Str → Option Value} {ps : Array Value} {vals : List (Str × (Heap → Value → Prop))} {names : List Str} {Q : Flow → Shared → Prop} {i : Nat} {nm : Str}
    (X : TopI h₀ mg₀ c Pl s.heap mg ps vals names) (hst : topSt i = .FunctionDef nm (fnPars PP i) (fnBody PP i) [] none [] (fnScope PP i) none nm (posOf i)) (hx : PlainDefTree nm (fnPars PP i) (fnBody PP i) (fnScope PP i) (posOf i))
    (hfree : ∀ x ∈ (fnScope PP i).names, x.2 ≠ .free) (hdoc : docOf (fnBody PP i) = none) (hloc : PP.main.scope.names.lookup nm = some .local)
    (hq : qualnameIn { scope := PP.main.scope, locals := mainGlobals, globals := mainGlobals, cells := [] } nm nm = nm) (hnew : nm ∉ names) (hnb : nm ≠ "__builtins__") (hnf : codeAmong (posOf i) ps.toList = none)
    (k : ∀ h' mg' c' tk, TopI h₀ mg₀ c Pl h' mg' (ps ++ #[rawInt (posOf i).line, rawInt (posOf i).col, .ref c']) (DV Pl s.heap h' i nm :: vals) (nm :: names) → Q .next { s with heap := h', toks := tk }) :
    wpAny M A (exec (topSt i) (mainEnv PP c F)) Q E s := by
  rw [hst]
  exact TopI.def X hx hfree hdoc hloc hq hnew hnb rfl hnf k
variable {w : World}
theorem step14 {A : Around} {s : Shared} {c Pl F : Addr} {h₀ : Heap} {mg₀ mg : Str → Option Value} {ps : Array Value} {vals : List (Str × (Heap → Value → Prop))} {names : List Str} {Q : Flow → Shared → Prop} {E : Value → Shared → Prop}
    (X : TopI h₀ mg₀ c Pl s.heap mg ps vals names) (hnew : ("b3_exceptions" : Str) ∉ names) (hS : sysModules < s.heap.objs.size)
    (k : ∀ h' mg' tk, TopI h₀ mg₀ c Pl h' mg' ps (("b3_exceptions", TabV (Pl + 1)) :: vals) ("b3_exceptions" :: names) → Q .next { s with heap := h', toks := tk }) :
    wpAny (model PP w) A (exec (topSt 14) (mainEnv PP c F)) Q E s := by
  rw [st14]
  have hsw := sw14 c F
  have ev : ∀ Q' : Value → Shared → Prop, (∀ v h₁ tk, (∀ b o, s.heap.get? b = some o → h₁.get? b = some o) → TabV (Pl + 1) h₁ v → Q' v { s with heap := h₁, toks := tk }) → wpAny (model PP w) A (eval tabE (mainEnv PP c F)) Q' E s := by
    intro Q' hQ'
    have hN : Pl + 1 ≤ s.heap.objs.size := X.main.code.lt.2
    have key := @tab_eval w A s c F (Pl + 1) Q' E hN hS
    with_reducible exact key hQ'
  have hl : PP.main.scope.names.lookup ("b3_exceptions" : Str) = some .local := by decide +kernel
  have hk : PP.main.scope.kind = .module := rfl
  have hst : Stab (Pl + 1) (TabV (Pl + 1)) := TabV.stab
  generalize tabE = e at *
  generalize TabV (Pl + 1) = P at *
  generalize PP = prog at *
  exact TopI.assign X hl (by decide) hk hsw hnew hst ev k
theorem top_execs {A : Around} {s : Shared} {c Pl F : Addr} {mg mb : Str → Option Value} {Q : Flow → Shared → Prop} {E : Value → Shared → Prop} (ho : Ok 0 A) (hm : s.heap.Main mg c Pl #[]) (hb : s.heap.Ns builtinsNs mb) (hst : s.heap.Ns cStatics (fun _ => none)) (hsys : ∃ o, s.heap.get? sysModules = some o)
    (hmn : mg "set" = none ∧ mg "list" = none ∧ mg "range" = none) (hmb : mb "set" = some (.type "set") ∧ mb "list" = some (.type "list") ∧ mb "range" = some (.type "range"))
    (k : ∀ h' mg' tk, TopF s.heap mg Pl h' mg' → Q .next { s with heap := h', toks := tk }) : wpAny (model PP w) A (execs topBody (mainEnv PP c F)) Q E s := by
  have hP : mainGlobals < Pl := hm.low.2
  have p0 : builtinsNs ≠ Pl := Nat.ne_of_lt (Nat.lt_trans (by decide) hP)
  have p1 : sysModules ≠ Pl := Nat.ne_of_lt (Nat.lt_trans (by decide) hP)
  have p2 : cStatics ≠ Pl := Nat.ne_of_lt (Nat.lt_trans (by decide) hP)
  rw [top_body]
  have X := TopI.start hm
  -- 0 __name__
  refine wpAny_execs_cons ?_
  refine TopI.setName X ?_ rfl (by kernel_rfl) (by decide +kernel) ?_
  · decide +kernel
  clear X
  intro h0 mg0 tk0 X
  -- 1 ELLIPSIS_MARKER
  refine wpAny_execs_cons ?_
  refine TopI.assignStr (x := "...") X (by decide +kernel) (by decide) rfl (by kernel_rfl) (by decide +kernel) ?_
  clear X
  intro h1 mg1 tk1 X
  -- 2 _ellipsis_match
  refine wpAny_execs_cons ?_
  refine TopI.defP (i := 2) (nm := "_ellipsis_match") X (by kernel_rfl) (fun _ => rfl) (by decide +kernel) (by kernel_rfl) (by decide +kernel) (by kernel_rfl) (by decide +kernel) (by decide) (by kernel_rfl) ?_
  clear X
  intro h2 mg2 c2 tk2 X
  -- 3 __name__
  refine wpAny_execs_cons ?_
  refine TopI.setName X ?_ rfl (by kernel_rfl) (by decide +kernel) ?_
  · decide +kernel
  clear X
  intro h3 mg3 tk3 X
  -- 4 _DIV_LIMIT
  refine wpAny_execs_cons ?_
  refine TopI.assignInt (x := 4000) X (by decide +kernel) (by decide) rfl (by kernel_rfl) (by decide +kernel) ?_
  clear X
  intro h4 mg4 tk4 X
  -- 5 _div2n1n
  refine wpAny_execs_cons ?_
  refine TopI.defP (i := 5) (nm := "_div2n1n") X (by kernel_rfl) (fun _ => rfl) (by decide +kernel) (by kernel_rfl) (by decide +kernel) (by kernel_rfl) (by decide +kernel) (by decide) (by kernel_rfl) ?_
  clear X
  intro h5 mg5 c5 tk5 X
  -- 6 _div3n2n
  refine wpAny_execs_cons ?_
  refine TopI.defP (i := 6) (nm := "_div3n2n") X (by kernel_rfl) (fun _ => rfl) (by decide +kernel) (by kernel_rfl) (by decide +kernel) (by kernel_rfl) (by decide +kernel) (by decide) (by kernel_rfl) ?_
  clear X
  intro h6 mg6 c6 tk6 X
  -- 7 _int2digits
  refine wpAny_execs_cons ?_
  refine TopI.defP (i := 7) (nm := "_int2digits") X (by kernel_rfl) (fun _ => rfl) (by decide +kernel) (by kernel_rfl) (by decide +kernel) (by kernel_rfl) (by decide +kernel) (by decide) (by kernel_rfl) ?_
  clear X
  intro h7 mg7 c7 tk7 X
  -- 8 _digits2int
  refine wpAny_execs_cons ?_
  refine TopI.defP (i := 8) (nm := "_digits2int") X (by kernel_rfl) (fun _ => rfl) (by decide +kernel) (by kernel_rfl) (by decide +kernel) (by kernel_rfl) (by decide +kernel) (by decide) (by kernel_rfl) ?_
  clear X
  intro h8 mg8 c8 tk8 X
  -- 9 _divmod_pos
  refine wpAny_execs_cons ?_
  refine TopI.defP (i := 9) (nm := "_divmod_pos") X (by kernel_rfl) (fun _ => rfl) (by decide +kernel) (by kernel_rfl) (by decide +kernel) (by kernel_rfl) (by decide +kernel) (by decide) (by kernel_rfl) ?_
  clear X
  intro h9 mg9 c9 tk9 X
  -- 10 int_divmod
  refine wpAny_execs_cons ?_
  refine TopI.defP (i := 10) (nm := "int_divmod") X (by kernel_rfl) (fun _ => rfl) (by decide +kernel) (by kernel_rfl) (by decide +kernel) (by kernel_rfl) (by decide +kernel) (by decide) (by kernel_rfl) ?_
  clear X
  intro h10 mg10 c10 tk10 X
  -- 11 __name__
  refine wpAny_execs_cons ?_
  refine TopI.setName X ?_ rfl (by kernel_rfl) (by decide +kernel) ?_
  · decide +kernel
  clear X
  intro h11 mg11 tk11 X
  -- 12 b1_set
  refine wpAny_execs_cons ?_
  rw [st12]
  refine TopI.assign (x := "b1_set") (value := setE) (P := SetV (Pl + 1)) X (by decide +kernel) (by decide) rfl (by kernel_rfl) (by decide +kernel) SetV.stab (fun Q' hQ' => ?_) ?_
  · refine set_eval ho X.main.g (hb.at fun o => X.keep _ o p0 (by decide)) (Heap.NoLimit.at ⟨_, hst, rfl⟩ fun o => X.keep _ o p2 (by decide)) ⟨(X.others _ (by decide +kernel) (by decide)).trans hmn.1, (X.others _ (by decide +kernel) (by decide)).trans hmn.2.1, (X.others _ (by decide +kernel) (by decide)).trans hmn.2.2⟩ hmb (fun h' hk => (X.main.code.keeps hk).lt.2) hQ'
  clear X
  intro h12 mg12 tk12 X
  -- 13 in_table_b1
  refine wpAny_execs_cons ?_
  refine TopI.defP (i := 13) (nm := "in_table_b1") X (by kernel_rfl) (fun _ => rfl) (by decide +kernel) (by kernel_rfl) (by decide +kernel) (by kernel_rfl) (by decide +kernel) (by decide) (by kernel_rfl) ?_
  clear X
  intro h13 mg13 c13 tk13 X
  -- 14 b3_exceptions
  refine wpAny_execs_cons ?_
  obtain ⟨os, hos⟩ := hsys
  have hsysl := Heap.lt_size (X.keep _ _ p1 (by decide) hos)
  with_reducible refine' step14 X ?q1 hsysl ?q2
  case q1 => decide +kernel
  case q2 =>
    clear X
    intro h14 mg14 tk14 X
    -- 15 map_table_b3
    refine wpAny_execs_cons ?_
    refine TopI.defP (i := 15) (nm := "map_table_b3") X (by kernel_rfl) (fun _ => rfl) (by decide +kernel) (by kernel_rfl) (by decide +kernel) (by kernel_rfl) (by decide +kernel) (by decide) (by kernel_rfl) ?_
    clear X
    intro h15 mg15 c15 tk15 X
    -- 16 __name__
    refine wpAny_execs_cons ?_
    refine TopI.setName X ?_ rfl (by kernel_rfl) (by decide +kernel) ?_
    · decide +kernel
    clear X
    intro h16 mg16 tk16 X
    -- 17 _law_unseen
    refine wpAny_execs_cons ?_
    refine TopI.defP (i := 17) (nm := "_law_unseen") X (by kernel_rfl) (fun _ => rfl) (by decide +kernel) (by kernel_rfl) (by decide +kernel) (by kernel_rfl) (by decide +kernel) (by decide) (by kernel_rfl) ?_
    clear X
    intro h17 mg17 c17 tk17 X
    -- 18 _law_stock
    refine wpAny_execs_cons ?_
    refine TopI.defP (i := 18) (nm := "_law_stock") X (by kernel_rfl) (fun _ => rfl) (by decide +kernel) (by kernel_rfl) (by decide +kernel) (by kernel_rfl) (by decide +kernel) (by decide) (by kernel_rfl) ?_
    clear X
    intro h18 mg18 c18 tk18 X
    -- 19 _law_folds
    refine wpAny_execs_cons ?_
    refine TopI.defP (i := 19) (nm := "_law_folds") X (by kernel_rfl) (fun _ => rfl) (by decide +kernel) (by kernel_rfl) (by decide +kernel) (by kernel_rfl) (by decide +kernel) (by decide) (by kernel_rfl) ?_
    clear X
    intro h19 mg19 c19 tk19 X
    -- 20 _law_wants
    refine wpAny_execs_cons ?_
    refine TopI.defP (i := 20) (nm := "_law_wants") X (by kernel_rfl) (fun _ => rfl) (by decide +kernel) (by kernel_rfl) (by decide +kernel) (by kernel_rfl) (by decide +kernel) (by decide) (by kernel_rfl) ?_
    clear X
    intro h20 mg20 c20 tk20 X
    -- 21 _law_ways
    refine wpAny_execs_cons ?_
    refine TopI.defP (i := 21) (nm := "_law_ways") X (by kernel_rfl) (fun _ => rfl) (by decide +kernel) (by kernel_rfl) (by decide +kernel) (by kernel_rfl) (by decide +kernel) (by decide) (by kernel_rfl) ?_
    clear X
    intro h21 mg21 c21 tk21 X
    -- 22 _law_halves
    refine wpAny_execs_cons ?_
    refine TopI.defP (i := 22) (nm := "_law_halves") X (by kernel_rfl) (fun _ => rfl) (by decide +kernel) (by kernel_rfl) (by decide +kernel) (by kernel_rfl) (by decide +kernel) (by decide) (by kernel_rfl) ?_
    clear X
    intro h22 mg22 c22 tk22 X
    -- 23 law
    refine wpAny_execs_cons ?_
    refine TopI.defP (i := 23) (nm := "law") X (by kernel_rfl) (fun _ => rfl) (by decide +kernel) (by kernel_rfl) (by decide +kernel) (by kernel_rfl) (by decide +kernel) (by decide) (by kernel_rfl) ?_
    clear X
    intro h23 mg23 c23 tk23 X
    refine wpAny_execs_nil (k h23 mg23 tk23 ⟨X.main.g, X.main.bmod, hP, X.keep, X.others, ?_, ?_, ?_, ?_, ?_, ?_⟩)
    · intro d hd
      simp only [topDefs, List.mem_cons, List.not_mem_nil, or_false] at hd
      have wrap : ∀ {nm : Str} {i : Nat} {lo hi : Heap}, (∃ v, mg23 (DV Pl lo hi i nm).1 = some v ∧ (DV Pl lo hi i nm).2 h23 v) → ∃ v lo hi, mg23 nm = some v ∧ DefV (Pl + 1) lo hi nm (fnPars PP i) (fnBody PP i) (fnScope PP i) h23 v := fun h => let ⟨v, h1, h2⟩ := h; ⟨v, _, _, h1, h2⟩
      rcases hd with rfl | rfl | rfl | rfl | rfl | rfl | rfl | rfl | rfl | rfl | rfl | rfl | rfl | rfl | rfl | rfl
      · exact wrap (X.got (DV Pl h1 h2 2 "_ellipsis_match") (by walk_at "my_x"))
      · exact wrap (X.got (DV Pl h4 h5 5 "_div2n1n") (by walk_at "my_x"))
      · exact wrap (X.got (DV Pl h5 h6 6 "_div3n2n") (by walk_at "my_x"))
      · exact wrap (X.got (DV Pl h6 h7 7 "_int2digits") (by walk_at "my_x"))
      · exact wrap (X.got (DV Pl h7 h8 8 "_digits2int") (by walk_at "my_x"))
      · exact wrap (X.got (DV Pl h8 h9 9 "_divmod_pos") (by walk_at "my_x"))
      · exact wrap (X.got (DV Pl h9 h10 10 "int_divmod") (by walk_at "my_x"))
      · exact wrap (X.got (DV Pl h12 h13 13 "in_table_b1") (by walk_at "my_x"))
      · exact wrap (X.got (DV Pl h14 h15 15 "map_table_b3") (by walk_at "my_x"))
      · exact wrap (X.got (DV Pl h16 h17 17 "_law_unseen") (by walk_at "my_x"))
      · exact wrap (X.got (DV Pl h17 h18 18 "_law_stock") (by walk_at "my_x"))
      · exact wrap (X.got (DV Pl h18 h19 19 "_law_folds") (by walk_at "my_x"))
      · exact wrap (X.got (DV Pl h19 h20 20 "_law_wants") (by walk_at "my_x"))
      · exact wrap (X.got (DV Pl h20 h21 21 "_law_ways") (by walk_at "my_x"))
      · exact wrap (X.got (DV Pl h21 h22 22 "_law_halves") (by walk_at "my_x"))
      · exact wrap (X.got (DV Pl h22 h23 23 "law") (by walk_at "my_x"))
    · obtain ⟨u, u1, u2⟩ := X.got (DV Pl h6 h7 7 "_int2digits") (by walk_at "my_x")
      obtain ⟨v, v1, v2⟩ := X.got (DV Pl h7 h8 8 "_digits2int") (by walk_at "my_x")
      exact ⟨h7.objs.size, _, _, u, v, u1, v1, u2, v2⟩
    · obtain ⟨v, h1, t, h2⟩ := X.got ("ELLIPSIS_MARKER", StrV "...") (by walk_at "my_x")
      exact ⟨t, by rw [← h2]; exact h1⟩
    · obtain ⟨v, h1, t, h2⟩ := X.got ("_DIV_LIMIT", IntV 4000) (by walk_at "my_x")
      exact ⟨t, by rw [← h2]; exact h1⟩
    · exact X.got ("b1_set", SetV (Pl + 1)) (by walk_at "my_x")
    · exact X.got ("b3_exceptions", TabV (Pl + 1)) (by walk_at "my_x")
end
/-! # the top: where it starts -/
section
open PySem.W
theorem open_is : opening PP = plainProg PP.main.scope.names := by kernel_rfl
theorem behind_is : behindTheImports PP = topBody := by kernel_rfl
theorem fence_is (s : Shared) : fenceModules? PP s = some s := by kernel_rfl
end
/-! # the top, run -/
section
open PySem.W
theorem top_left (w : World) {s : Shared} (e : s.heap = boot_heap w.params) (hg : s.gens = #[]) (hz : s.asleep) :
    ∃ s₁ mg Pl, TopRan PP w s s₁ ∧ (∃ h tk, s₁ = { s with heap := h, toks := tk }) ∧ TopF (boot_heap w.params) ((boot_heap w.params).nsMap mainGlobals) Pl s₁.heap mg ∧ Tope topNames w.params s₁.heap mg := by
  have hb : s.heap.Ns builtinsNs ((boot_heap w.params).nsMap builtinsNs) := e ▸ boot_b _
  have hst : s.heap.Ns cStatics (fun _ => none) := e ▸ boot_s _
  have hsys : ∃ o, s.heap.get? sysModules = some o := e ▸ boot_sys _
  obtain ⟨n, t', s', h1, h2, h3, h', mg', tk, Pl, rfl, X, Y⟩ := top_ends (prog := PP) (w := w) (R := fun s' => ∃ h' mg' tk Pl, s' = { s with heap := h', toks := tk } ∧ TopF (boot_heap w.params) ((boot_heap w.params).nsMap mainGlobals) Pl h' mg' ∧ Tope topNames w.params h' mg') hz
    (top_stub (prog := PP) (w := w) (Q := fun fin s' => ∃ f, fin = .done f ∧ (∃ h' mg' tk Pl, s' = { s with heap := h', toks := tk } ∧ TopF (boot_heap w.params) ((boot_heap w.params).nsMap mainGlobals) Pl h' mg' ∧ Tope topNames w.params h' mg') ∧ s'.gens = #[]) e (by decide +kernel) (by decide +kernel) fun c Pl F h₁ tk hk hPl hm => by
      rw [behind_is]
      have key := @top_execs w (callerA.deeper (mainEnv PP c F)) { s with heap := h₁, toks := tk } c Pl F (s.heap.nsMap mainGlobals) ((boot_heap w.params).nsMap builtinsNs) (fun _ s' => ∃ f, Fin.done (.ret .none) = .done f ∧ (∃ h' mg' tk Pl, s' = { s with heap := h', toks := tk } ∧ TopF (boot_heap w.params) ((boot_heap w.params).nsMap mainGlobals) Pl h' mg' ∧ Tope topNames w.params h' mg') ∧ s'.gens = #[]) (fun _ _ => False)
        ⟨rfl, (by decide : callerA.depth + 1 + 0 < 900), (by decide : callerA.units + 3 + 4 * 0 < 9000)⟩ hm (hb.keeps hk) (hst.keeps hk) (hsys.imp fun o q => hk _ o q)
        (by rw [e]; exact ⟨boot_others _ (by decide), boot_others _ (by decide), boot_others _ (by decide)⟩)
        (by exact ⟨boot_bmap _ _ (by decide), boot_bmap _ _ (by decide), boot_bmap _ _ (by decide)⟩)
      with_reducible refine' key ?g1
      case g1 =>
      intro h' mg' tk' X
      have kp : ∀ b o, b ≠ mainGlobals → (boot_heap w.params).get? b = some o → h'.get? b = some o := fun b o hb q =>
        have q' : s.heap.get? b = some o := e ▸ q
        X.keep b o (Nat.ne_of_lt (Nat.lt_of_lt_of_le (Heap.lt_size q') hPl)) hb (hk b o q')
      exact ⟨_, rfl, ⟨h', mg', tk', Pl, rfl, ⟨X.g, X.bmod, X.low, fun b o _ hb q => kp b o hb q, fun x h1 h2 => e ▸ X.others x h1 h2, X.defs, X.apart, X.marker, X.limit, X.set, X.tab⟩, X.g, kp, fun x h1 h2 => e ▸ X.others x h1 h2⟩, hg⟩)
  exact ⟨_, mg', Pl, topRan_of (names := topNames) (by decide +kernel) (by decide +kernel) (by decide +kernel) e hg Y ⟨h', tk, rfl⟩ ⟨n, t', h1, h2⟩ h3, ⟨h', tk, rfl⟩, X, Y⟩
end
/-! # what the top has left, as the walk wants it -/
section
open PySem.W
theorem code_of {h : Heap} {c' P' : Addr} {name : Str} {ps : Array Value} (hr : h.CodeRec (.ref c') name) (ht : h.TableAt c' P' ps) : CodeO h c' name := by
  obtain ⟨⟨oc, vs, e1, e2, e3, e4⟩, _⟩ := ht
  obtain ⟨c2, o2, vs2, t2, q1, q2, q3, q4⟩ := hr
  cases q1
  rw [e1] at q2
  cases q2
  rw [e3] at q3
  cases q3
  exact ⟨oc, vs, t2, e1, e2, e3, q4⟩
theorem defAt_of {prog : Program} {w : World} {G : Gl prog w} {N lo hi : Nat} {name : Str} {params : Arguments} {body : List Stmt} {scope : Scope} {v : Value} (hm : G.mg name = some v) (d : DefV N lo hi name params body scope G.hB v) : DefAt G name params body scope := by
  obtain ⟨a, c', P', o, pm, doc, rfl, _, _, _, _, _, h7, h8, h9, h10, h11⟩ := d
  exact ⟨a, c', o, pm, doc, hm, h7, h8, code_of h9 h11⟩
theorem tabDef_of {prog : Program} {w : World} {G : Gl prog w} {name qual : Str} {params : Arguments} {body : List Stmt} {scope : Scope} {a c' P' : Addr} {o : Obj} {pm doc : Value} {pos : Pos} {Pl : Addr} (hm : G.mg name = some (.ref a))
    (h7 : G.hB.get? a = some o) (h8 : o.data = .func (Calls.docDef name params body scope pm (.ref c') doc)) (h10 : G.hB.IsCode c' P' #[]) (h11 : G.hB.TableAt c' P' #[]) (hT : G.T P' pos.line pos.col qual) (honly : ∀ l cl q, G.T P' l cl q → l = pos.line ∧ cl = pos.col ∧ q = qual)
    (hbm : G.hB.BuiltinsAt G.mg Pl) : ∀ c'', CodeOf G name params body scope c'' → ∃ P, TabDef G c'' P pos qual := by
  intro c'' ⟨a2, o2, pm2, doc2, q1, q2, q3⟩
  rw [hm] at q1
  cases q1
  rw [h7] at q2
  cases q2
  rw [h8] at q3
  have ec : c' = c'' := by
    have := congrArg (fun d => match d with | Data.func fd => fd.code | _ => .none) q3
    simp only [Calls.docDef, Value.ref.injEq] at this
    exact this
  subst ec
  refine ⟨P', CodeHd.of h10 h11, h11.2, hT, honly, ?_⟩
  obtain ⟨bm, ob, b1, b2, b3, b4, b5, b6, b7⟩ := hbm
  refine ⟨bm, ob, b1, b2, b3, fun q => ?_, b5, b6, b7⟩
  subst q
  rw [h11.2] at b5
  cases b5
  cases b6
noncomputable def i2dP : Pos := inPos (fnBody PP iI2d) 1
noncomputable def d2iP : Pos := inPos (fnBody PP iD2i) 0
/-- the two tables that may grow -/
noncomputable def TT (Pi Pd : Addr) : TabS := fun b l c q => (b = Pi ∧ l = i2dP.line ∧ c = i2dP.col ∧ q = "_int2digits.<locals>.inner") ∨ (b = Pd ∧ l = d2iP.line ∧ c = d2iP.col ∧ q = "_digits2int.<locals>.inner")
theorem left_G (w : World) {h₀ h : Heap} {mg₀ mg mb : Str → Option Value} {Pl : Addr} (X : TopF h₀ mg₀ Pl h mg) (hb : h.Ns builtinsNs mb) (hst : h.Ns cStatics (fun _ => none)) (hmb : ∀ x : Str, x ≠ "__name__" → mb x = bootBuiltins x) (hno : ∀ x : Str, x ∉ startupNames → mg₀ x = none) :
    ∃ G : Gl PP w, G.hB = h ∧ G.mg = mg ∧ (∀ b l c q, G.T b l c q → isCodeTable h b) ∧ Glo G ∧ Fns G ∧ Bl G "ZeroDivisionError" (.type "ZeroDivisionError") ∧
      DefAt G "int_divmod" (fnPars PP iIdm) (fnBody PP iIdm) (fnScope PP iIdm) ∧ DefAt G "law" (fnPars PP iLaw) (fnBody PP iLaw) (fnScope PP iLaw) := by
  obtain ⟨z, lo, hi, u, v, hu, hv, ⟨a, c1, P1, o1, pm1, doc1, rfl, hu2, hu3, hu4, hu5, hu6, hu7, hu8, hu9, hu10, hu11⟩, ⟨b, c2, P2, o2, pm2, doc2, rfl, hv2, hv3, hv4, hv5, hv6, hv7, hv8, hv9, hv10, hv11⟩⟩ := X.apart
  have hne : P1 ≠ P2 := Nat.ne_of_lt (Nat.lt_of_lt_of_le hu6 hv5)
  let G : Gl PP w := ⟨h, mg, mb, X.g, hb, ⟨_, hst, rfl⟩, TT P1 P2⟩
  have D : ∀ i nm, (i, nm) ∈ topDefs → DefAt G nm (fnPars PP i) (fnBody PP i) (fnScope PP i) := fun i nm hi => by
    obtain ⟨v, lo, hi, e, d⟩ := X.defs _ hi
    exact defAt_of (G := G) e d
  have Bx : ∀ (x : Str) (y : Value), x ∉ topNames → x ≠ "__name__" → x ∉ startupNames → bootBuiltins x = some y → Bl G x y := fun x y h1 h2 h3 h4 => ⟨(X.others x h1 h2).trans (hno x h3), (hmb x h2).trans h4⟩
  have hG : Glo G := by
    refine ⟨?_, ?_, ?_, ?_, ?_, ?_, ?_, ?_, ?_, ?_, ?_, X.marker, X.limit⟩ <;> refine Bx _ _ (by decide +kernel) (by decide +kernel) (by decide +kernel) (by rfl)
  have hS : SetAt G b1S := by
    obtain ⟨v, hm, a, n, rfl, _, hs⟩ := X.set
    exact ⟨a, n, hm, hs PP w⟩
  have hT : TabAt G "b3_exceptions" b3T := by
    obtain ⟨v, hm, a, kvs, rfl, ha, hr, hd⟩ := X.tab
    refine ⟨a, kvs, hm, ?_, hd PP w, rel_get hr⟩
    exact beq_eq_false_iff_ne.mpr (Nat.ne_of_gt (Nat.lt_of_lt_of_le (by decide) (Nat.le_trans (Nat.le_succ_of_le (Nat.le_of_lt X.low)) ha)))
  have h1 : ∀ c', CodeOf G "_int2digits" (fnPars PP iI2d) (fnBody PP iI2d) (fnScope PP iI2d) c' → ∃ P, TabDef G c' P (inPos (fnBody PP iI2d) 1) "_int2digits.<locals>.inner" :=
    tabDef_of (G := G) hu hu7 hu8 hu10 hu11 (.inl ⟨rfl, rfl, rfl, rfl⟩) (fun l cl q ht => by
      rcases ht with ⟨_, h1, h2, h3⟩ | ⟨h0, _⟩
      · exact ⟨h1, h2, h3⟩
      · exact absurd h0 hne) X.bmod
  have h2 : ∀ c', CodeOf G "_digits2int" (fnPars PP iD2i) (fnBody PP iD2i) (fnScope PP iD2i) c' → ∃ P, TabDef G c' P (inPos (fnBody PP iD2i) 0) "_digits2int.<locals>.inner" :=
    tabDef_of (G := G) hv hv7 hv8 hv10 hv11 (.inr ⟨rfl, rfl, rfl, rfl⟩) (fun l cl q ht => by
      rcases ht with ⟨h0, _⟩ | ⟨_, h1, h2, h3⟩
      · exact absurd h0.symm hne
      · exact ⟨h1, h2, h3⟩) X.bmod
  have Fi := i2d_fn hG (D _ _ (by decide +kernel)) h1
  have Fd := d2i_fn hG (D _ _ (by decide +kernel)) h2
  have F2 := d2n_fn hG (D _ _ (by decide +kernel))
  have F3 := d3n_fn hG (D _ _ (by decide +kernel)) (D _ _ (by decide +kernel))
  have Fm := dmp_fn hG (D _ _ (by decide +kernel)) F2 Fi Fd
  have Fim := idm_fn hG (D _ _ (by decide +kernel)) Fm
  have Fb1 := b1_fn hG hS (D _ _ (by decide +kernel))
  have Fb3 := b3_fn hG hT (D _ _ (by decide +kernel))
  refine ⟨G, rfl, rfl, fun b l c q ht => ?_, hG, ⟨un_fn hG (D _ _ (by decide +kernel)), st_fn hG (D _ _ (by decide +kernel)), fo_fn hG Fb1 Fb3 (D _ _ (by decide +kernel)), ell_fn hG (D _ _ (by decide +kernel)), wa_fn hG (D _ _ (by decide +kernel)), wy_fn hG (D _ _ (by decide +kernel)), Fim, ha_fn hG (D _ _ (by decide +kernel)) F3⟩,
    Bx _ _ (by decide +kernel) (by decide +kernel) (by decide +kernel) (by rfl), D _ _ (by decide +kernel), D _ _ (by decide +kernel)⟩
  rcases ht with ⟨rfl, _⟩ | ⟨rfl, _⟩
  · exact hu11.isCodeTable
  · exact hv11.isCodeTable
end
/-! # the law -/
section
open PySem.W
theorem law_left (w : World) (s : Shared) (e : s.heap = boot_heap w.params) (hg : s.gens = #[]) (hz : s.asleep) : ∃ s₁ mg, TopRan PP w s s₁ ∧ (∃ h tk, s₁ = { s with heap := h, toks := tk }) ∧ isTheDefsW PP s₁.heap "law" ∧
      ∃ G : Gl PP w, G.hB = s₁.heap ∧ G.mg = mg ∧ (∀ b i c q, G.T b i c q → isCodeTable s₁.heap b) ∧
        ∃ a, mg "law" = some (.ref a) ∧ ∀ (A : Around) (M : Addr → Prop) (s : Shared) (v : Value) (sc : List Int) (Q : Value → Shared → Prop) (E : Value → Shared → Prop), Ok 28 A → A.frames = some [] →
          (∀ b o, G.hB.get? b = some o → Gr G.T s.heap b o) → (∀ a, M a → ∃ o, s.heap.get? a = some o) → Rp PP w s.heap M (.list (sc.map .int)) v → sc.length ≤ 63 →
          (∀ s', Kp G.T s s' → Q (.bool true) s') → wpAny (model PP w) A (PySem.call (.ref a) [v]) Q E s := by
  obtain ⟨s₁, mg, Pl, T, hs, X, Y⟩ := top_left w e hg hz
  obtain ⟨G, hB, hmg, hT, hG, F, hZ, hDi, hD⟩ := left_G w X Y.blt Y.st (fun x hx => boot_bmap _ x hx) fun x hx => boot_others _ hx
  obtain ⟨a, hma, _, hc⟩ := law_call hG F hZ hDi hD
  refine ⟨s₁, mg, T, hs, ?_, G, hB, hmg, hT, a, hmg ▸ hma, hc⟩
  obtain ⟨v, lo, hi, e, a, c', P', o, pm, doc, rfl, _, _, _, _, _, h7, h8, _⟩ := X.defs (iLaw, "law") (by decide +kernel)
  exact ⟨a, o, _, fnPars PP iLaw, fnBody PP iLaw, fnScope PP iLaw, (globalOf_ns X.g _).trans e, h7, h8, by kernel_rfl, rfl, rfl, rfl, rfl, rfl, rfl, rfl, rfl, .inl ⟨by kernel_rfl, rfl⟩, [], by kernel_rfl, .inl ⟨rfl, rfl⟩⟩
end
end Mine
end
open PySem PySem.W PyProof.Rows
set_option maxRecDepth 100000
namespace Mine
theorem said_open : looksOpen PySem.Challenge.rw_rs0224_02.row.prog = true := by
  unfold looksOpen
  refine look_both (look_both (look_both (look_both (look_both ?_ ?_) ?_) ?_) ?_) ?_
  all_goals decide +kernel
theorem said_part : PySem.Challenge.rw_rs0224_02.row.partSaid = true := by
  unfold OpenRow.partSaid
  refine look_both (look_both (look_both (look_both (look_both (look_both (look_both (look_both (look_both (look_both (look_both (look_both (look_both said_open ?_) ?_) ?_) ?_) ?_) ?_) ?_) ?_) ?_) ?_) ?_) ?_) ?_
  all_goals decide +kernel
theorem said_row : PySem.Challenge.rw_rs0224_02.row.wellSaid = true := by
  unfold OpenRow.wellSaid
  refine look_both (look_both said_part ?_) ?_
  all_goals decide +kernel
theorem law_said : PySem.Challenge.rw_rs0224_02.wellSaid = true := by
  unfold OpenLaw.wellSaid
  iterate 17 refine look_both ?_ ?_
  refine look_both said_row ?_
  all_goals decide +kernel
end Mine
set_option maxRecDepth 100000 in
set_option maxHeartbeats 8000000 in
theorem PySem.Challenge.cw_rs0224_02_holds : PySem.Challenge.rw_rs0224_02.Holds :=
  holds_law Mine.law_said fun said => Mine.law_row (l := PySem.Challenge.rw_rs0224_02) said rfl rfl rfl ⟨rfl, rfl, rfl, rfl, rfl, by decide +kernel⟩ (by decide +kernel) Mine.open_is Mine.fence_is Mine.law_left
