import PyProof.Rows.All
import PyProof.Methods
import PyProof.MeetsDict
import PyProof.DictIter
import PyProof.DictDisplay
import PyProof.DictTable
import PyProof.Draws
import PyProof.EqKinds
import PyProof.SliceStr2
import PyProof.ListRange
import PyProof.StrBlockG
import PyProof.Rows.StrNews2
import PyProof.SumAny
import PyProof.Rows.SeqMore
import PyProof.SumWalkG
import PyProof.SetRoads
import Open.Head
import KE.KNest
import KE.KEqDict
import KE.KMulAny
import KE.KRevIter
import OpenK.AllK
import Wide.All
import Lean
import PySem.Challenge.RW_rs0224_01
set_option Elab.async false
set_option linter.all false
set_option compiler.extract_closed false
section
open PySem PyProof.Rows
namespace Mine
section
noncomputable def lid : Nat := 2 ^ 20
section
variable (prog : Program) (w : World)
mutual
noncomputable def Rp (h : Heap) (M : Addr → Prop) : PyData → Value → Prop
  | .none, v => v = .none
  | .bool b, v => v = .bool b
  | .int i, v => ∃ t, v = .int i t
  | .str x, v => ∃ t, v = .str x t
  | .list ds, v => ∃ a items, v = .ref a ∧ ¬ M a ∧ h.PlainList a items ∧ RpL h M ds items.toList ∧ ds.length ≤ lid
  | .tuple ds, v => ∃ a items, v = .ref a ∧ ¬ M a ∧ h.IsTuple a items ∧ RpL h M ds items.toList
  | .dict D, v => ∃ a kvs, v = .ref a ∧ ¬ M a ∧ (a == sysModules) = false ∧ h.DictOf (strKind prog w) a kvs ∧ RpD h M D kvs ∧ D.length ≤ lid
noncomputable def RpL (h : Heap) (M : Addr → Prop) : List PyData → List Value → Prop
  | [], vs => vs = []
  | d :: ds, vs => ∃ v r, vs = v :: r ∧ Rp h M d v ∧ RpL h M ds r
noncomputable def RpD (h : Heap) (M : Addr → Prop) : List (PyData × PyData) → List (Str × Value) → Prop
  | [], kvs => kvs = []
  | kd :: D, kvs => ∃ x v r, kvs = (x, v) :: r ∧ kd.1 = .str x ∧ Rp h M kd.2 v ∧ RpD h M D r
end
end
noncomputable def tabO (vs : Array Value) : Obj := { cls := .none, data := .fields vs }
noncomputable def NT (o : Obj) : Prop := ∀ vs, o ≠ tabO vs
theorem NT.cls {o : Obj} {x : String} (h : o.cls = .type x) : NT o := fun vs e => by rw [e] at h; cases h
theorem NT.cell {o : Obj} {v} (h : o.data = .cell v) : NT o := fun vs e => by rw [e] at h; cases h
theorem NT.dict {o : Obj} {es n} (h : o.data = .dict es n) : NT o := fun vs e => by rw [e] at h; cases h
theorem NT.func {o : Obj} {fd} (h : o.data = .func fd) : NT o := fun vs e => by rw [e] at h; cases h
noncomputable def IsCo (o : Obj) : Prop := o.cls = .type "code" ∧ ∃ vs, o.data = .fields vs
noncomputable def CodeO (h : Heap) (c : Addr) (q : Str) : Prop := ∃ o vs t, h.get? c = some o ∧ o.cls = .type "code" ∧ o.data = .fields vs ∧ vs[1]? = some (.str q t)
theorem IsCo.nt {o : Obj} (h : IsCo o) : NT o := .cls h.1
noncomputable abbrev TabS := Addr → Int → Int → Str → Prop
noncomputable def Gr (T : TabS) (h' : Heap) (b : Addr) (o : Obj) : Prop :=
  h'.get? b = some o ∨ ∃ l c q c2, T b l c q ∧ o = tabO #[] ∧ h'.get? b = some (tabO #[rawInt l, rawInt c, .ref c2]) ∧ CodeO h' c2 q
section
variable {T : TabS}
theorem Gr.nt {h' : Heap} {b : Addr} {o : Obj} (g : Gr T h' b o) (n : NT o) : h'.get? b = some o := by
  rcases g with g | ⟨_, _, _, _, _, e, _⟩
  · exact g
  · exact absurd e (n _)
theorem Gr.al {h' : Heap} {b : Addr} {o : Obj} (g : Gr T h' b o) : ∃ o', h'.get? b = some o' := by
  rcases g with g | ⟨_, _, _, _, _, _, g, _⟩ <;> exact ⟨_, g⟩
theorem CodeO.gr {h h' : Heap} {c : Addr} {q : Str} (x : CodeO h c q) (e : ∀ o, IsCo o → h.get? c = some o → Gr T h' c o) : CodeO h' c q := by
  obtain ⟨o, vs, t, ho, hc, hd, r⟩ := x
  exact ⟨o, vs, t, (e _ ⟨hc, _, hd⟩ ho).nt (.cls hc), hc, hd, r⟩
theorem Gr.trans {h' h'' : Heap} {b : Addr} {o : Obj} (g : Gr T h' b o) (kc : ∀ c o', IsCo o' → h'.get? c = some o' → Gr T h'' c o') (k : ∀ o', h'.get? b = some o' → Gr T h'' b o') : Gr T h'' b o := by
  rcases g with g | ⟨l, c, q, c2, ht, rfl, g, hc⟩
  · exact k o g
  · rcases k _ g with g2 | ⟨_, _, _, _, _, e, _⟩
    · exact .inr ⟨l, c, q, c2, ht, rfl, g2, hc.gr (kc c2)⟩
    · exfalso
      unfold tabO at e
      have := congrArg Obj.data e
      simp at this
end
noncomputable def Agr (M : Addr → Prop) (h h' : Heap) : Prop := ∀ b o, ¬ M b → NT o → h.get? b = some o → h'.get? b = some o
theorem Agr.push {M : Addr → Prop} {h : Heap} {o' : Obj} : Agr M h (h.push o') := fun _ _ _ _ e => Heap.get?_push_of_some _ e
theorem PL.push {h : Heap} {a : Addr} {items : Array Value} {o' : Obj} (x : h.PlainList a items) : (h.push o').PlainList a items := by
  obtain ⟨n, q⟩ := x
  exact ⟨n, Heap.get?_push_of_some _ q⟩
theorem PL.gr {h h' : Heap} {a : Addr} {items : Array Value} (x : h.PlainList a items) (e : ∀ o, NT o → h.get? a = some o → h'.get? a = some o) : h'.PlainList a items := by
  obtain ⟨n, q⟩ := x
  exact ⟨n, e _ (.cls rfl) q⟩
theorem LI.gr {h h' : Heap} {a l : Addr} {i : Nat} (x : h.IsListIter a l i) (e : ∀ o, NT o → h.get? a = some o → h'.get? a = some o) : h'.IsListIter a l i := by
  obtain ⟨o, q, hc, r⟩ := x
  exact ⟨o, e _ (.cls hc) q, hc, r⟩
theorem Cel.gr {h h' : Heap} {c : Addr} {v : Option Value} (x : h.IsCell c v) (e : ∀ o, NT o → h.get? c = some o → h'.get? c = some o) : h'.IsCell c v := by
  obtain ⟨o, q, hd⟩ := x
  exact ⟨o, e _ (.cell hd) q, hd⟩
theorem Nsp.gr {h h' : Heap} {a : Addr} {m : Str → Option Value} (x : h.Ns a m) (e : ∀ o, NT o → h.get? a = some o → h'.get? a = some o) : h'.Ns a m := by
  obtain ⟨o, es, ep, q, hd, r⟩ := x
  exact ⟨o, es, ep, e _ (.dict hd) q, hd, r⟩
section
variable {prog : Program} {w : World}
theorem Tup.gr {h h' : Heap} {a : Addr} {items : Array Value} (x : h.IsTuple a items) (e : ∀ o, NT o → h.get? a = some o → h'.get? a = some o) : h'.IsTuple a items := by
  obtain ⟨o, q, hc, r⟩ := x
  exact ⟨o, e _ (.cls hc) q, hc, r⟩
theorem Dic.gr {K : Type} [DecidableEq K] {knd : KeyKind prog w K} {h h' : Heap} {a : Addr} {kvs : List (K × Value)} (x : h.DictOf knd a kvs) (e : ∀ o, NT o → h.get? a = some o → h'.get? a = some o) : h'.DictOf knd a kvs := by
  obtain ⟨o, es, ep, q, hx, hd, r⟩ := x
  exact ⟨o, es, ep, e _ (.dict hd) q, hx, hd, r⟩
mutual
theorem Rp.agr {h h' : Heap} {M : Addr → Prop} (hk : Agr M h h') : ∀ (d : PyData) (v : Value), Rp prog w h M d v → Rp prog w h' M d v
  | .none, _, r => by simpa only [Rp] using r
  | .bool _, _, r => by simpa only [Rp] using r
  | .int _, _, r => by simpa only [Rp] using r
  | .str _, _, r => by simpa only [Rp] using r
  | .list ds, _, r => by
    simp only [Rp] at r ⊢
    obtain ⟨a, items, e, ha, hl, hr, hb⟩ := r
    exact ⟨a, items, e, ha, PL.gr hl fun o n e => hk a o ha n e, RpL.agr hk ds _ hr, hb⟩
  | .tuple ds, _, r => by
    simp only [Rp] at r ⊢
    obtain ⟨a, items, e, ha, hl, hr⟩ := r
    exact ⟨a, items, e, ha, Tup.gr hl fun o n e => hk a o ha n e, RpL.agr hk ds _ hr⟩
  | .dict D, _, r => by
    simp only [Rp] at r ⊢
    obtain ⟨a, kvs, e, ha, hs, hl, hr, hb⟩ := r
    exact ⟨a, kvs, e, ha, hs, Dic.gr hl fun o n e => hk a o ha n e, RpD.agr hk D _ hr, hb⟩
theorem RpL.agr {h h' : Heap} {M : Addr → Prop} (hk : Agr M h h') : ∀ (ds : List PyData) (vs : List Value), RpL prog w h M ds vs → RpL prog w h' M ds vs
  | [], _, r => by simpa only [RpL] using r
  | d :: ds, _, r => by
    simp only [RpL] at r ⊢
    obtain ⟨v, q, e, h1, h2⟩ := r
    exact ⟨v, q, e, Rp.agr hk d v h1, RpL.agr hk ds q h2⟩
theorem RpD.agr {h h' : Heap} {M : Addr → Prop} (hk : Agr M h h') : ∀ (ds : List (PyData × PyData)) (vs : List (Str × Value)), RpD prog w h M ds vs → RpD prog w h' M ds vs
  | [], _, r => by simpa only [RpD] using r
  | (k, d) :: ds, _, r => by
    simp only [RpD] at r ⊢
    obtain ⟨x, v, q, e, h0, h1, h2⟩ := r
    exact ⟨x, v, q, e, h0, Rp.agr hk d v h1, RpD.agr hk ds q h2⟩
end
mutual
theorem Rp.sub {h : Heap} {M M' : Addr → Prop} (hk : ∀ a o, h.get? a = some o → M' a → M a) : ∀ (d : PyData) (v : Value), Rp prog w h M d v → Rp prog w h M' d v
  | .none, _, r => by simpa only [Rp] using r
  | .bool _, _, r => by simpa only [Rp] using r
  | .int _, _, r => by simpa only [Rp] using r
  | .str _, _, r => by simpa only [Rp] using r
  | .list ds, _, r => by
    simp only [Rp] at r ⊢
    obtain ⟨a, items, e, ha, hl, hr, hb⟩ := r
    exact ⟨a, items, e, fun q => ha (hk a _ hl.choose_spec q), hl, RpL.sub hk ds _ hr, hb⟩
  | .tuple ds, _, r => by
    simp only [Rp] at r ⊢
    obtain ⟨a, items, e, ha, hl, hr⟩ := r
    exact ⟨a, items, e, fun q => ha (hk a _ hl.choose_spec.1 q), hl, RpL.sub hk ds _ hr⟩
  | .dict D, _, r => by
    simp only [Rp] at r ⊢
    obtain ⟨a, kvs, e, ha, hs, hl, hr, hb⟩ := r
    refine ⟨a, kvs, e, fun q => ?_, hs, hl, RpD.sub hk D _ hr, hb⟩
    obtain ⟨o, es, ep, ho, _⟩ := hl
    exact ha (hk a _ ho q)
theorem RpL.sub {h : Heap} {M M' : Addr → Prop} (hk : ∀ a o, h.get? a = some o → M' a → M a) : ∀ (ds : List PyData) (vs : List Value), RpL prog w h M ds vs → RpL prog w h M' ds vs
  | [], _, r => by simpa only [RpL] using r
  | d :: ds, _, r => by
    simp only [RpL] at r ⊢
    obtain ⟨v, q, e, h1, h2⟩ := r
    exact ⟨v, q, e, Rp.sub hk d v h1, RpL.sub hk ds q h2⟩
theorem RpD.sub {h : Heap} {M M' : Addr → Prop} (hk : ∀ a o, h.get? a = some o → M' a → M a) : ∀ (ds : List (PyData × PyData)) (vs : List (Str × Value)), RpD prog w h M ds vs → RpD prog w h M' ds vs
  | [], _, r => by simpa only [RpD] using r
  | (k, d) :: ds, _, r => by
    simp only [RpD] at r ⊢
    obtain ⟨x, v, q, e, h0, h1, h2⟩ := r
    exact ⟨x, v, q, e, h0, Rp.sub hk d v h1, RpD.sub hk ds q h2⟩
end
theorem RpL.length {h : Heap} {M : Addr → Prop} : ∀ {ds : List PyData} {vs : List Value}, RpL prog w h M ds vs → vs.length = ds.length
  | [], _, r => by simp only [RpL] at r; subst r; rfl
  | d :: ds, _, r => by
    simp only [RpL] at r
    obtain ⟨v, q, rfl, _, h2⟩ := r
    simp [RpL.length h2]
theorem RpL.get {h : Heap} {M : Addr → Prop} : ∀ {ds : List PyData} {vs : List Value}, RpL prog w h M ds vs → ∀ {i : Nat} {d : PyData}, ds[i]? = some d → ∃ v, vs[i]? = some v ∧ Rp prog w h M d v
  | d :: ds, _, r, i, d', e => by
    simp only [RpL] at r
    obtain ⟨v, q, rfl, h1, h2⟩ := r
    cases i with
    | zero => simp at e; subst e; exact ⟨v, rfl, h1⟩
    | succ i => simpa using RpL.get h2 (by simpa using e)
theorem RpL.append {h : Heap} {M : Addr → Prop} : ∀ {ds es : List PyData} {vs us : List Value}, RpL prog w h M ds vs → RpL prog w h M es us → RpL prog w h M (ds ++ es) (vs ++ us)
  | [], _, _, _, r, r' => by simp only [RpL] at r; subst r; simpa using r'
  | d :: ds, es, _, us, r, r' => by
    simp only [RpL] at r
    obtain ⟨v, q, rfl, h1, h2⟩ := r
    simp only [List.cons_append, RpL]
    exact ⟨v, q ++ us, rfl, h1, RpL.append h2 r'⟩
theorem RpL.nil {h : Heap} {M : Addr → Prop} : RpL prog w h M [] [] := by simp only [RpL]
theorem RpL.cons {h : Heap} {M : Addr → Prop} {d : PyData} {v : Value} {ds : List PyData} {vs : List Value} (a : Rp prog w h M d v) (b : RpL prog w h M ds vs) : RpL prog w h M (d :: ds) (v :: vs) := by
  simp only [RpL]; exact ⟨v, vs, rfl, a, b⟩
theorem RpL.iff {h : Heap} {M : Addr → Prop} : ∀ {ds : List PyData} {vs : List Value}, vs.length = ds.length → (∀ (i : Nat) (d : PyData) (v : Value), ds[i]? = some d → vs[i]? = some v → Rp prog w h M d v) → RpL prog w h M ds vs := by
  intro ds
  induction ds with
  | nil =>
    intro vs hl _
    rw [List.length_eq_zero_iff.mp hl]
    exact RpL.nil
  | cons d ds ih =>
    intro vs hl hx
    cases vs with
    | nil => cases hl
    | cons v vs => exact RpL.cons (hx 0 d v rfl rfl) (ih (Nat.succ.inj hl) fun i d v e1 e2 => hx (i + 1) d v e1 e2)
theorem RpL.of_get {h : Heap} {M : Addr → Prop} {ds : List PyData} {vs : List Value} (r : RpL prog w h M ds vs) {i : Nat} {d : PyData} {v : Value} (e : ds[i]? = some d) (e' : vs[i]? = some v) : Rp prog w h M d v := by
  obtain ⟨u, hu, hr⟩ := RpL.get r e
  rw [hu] at e'; cases e'; exact hr
end
end
section
structure Kp (T : TabS) (s s' : Shared) : Prop where
  same : ∃ h t, s' = { s with heap := h, toks := t }
  tk : ∀ b o, s.heap.get? b = some o → Gr T s'.heap b o
section
variable {T : TabS}
theorem Kp.code {s s' : Shared} (h : Kp T s s') : ∀ c o, IsCo o → s.heap.get? c = some o → Gr T s'.heap c o := fun c o _ e => h.tk c o e
theorem Kp.nt {s s' : Shared} (h : Kp T s s') : ∀ b o, NT o → s.heap.get? b = some o → s'.heap.get? b = some o := fun b o n e => (h.tk b o e).nt n
theorem Kp.refl {s : Shared} : Kp T s s := ⟨⟨s.heap, s.toks, rfl⟩, fun _ _ e => .inl e⟩
theorem Kp.trans {s s' s'' : Shared} (a : Kp T s s') (b : Kp T s' s'') : Kp T s s'' := by
  have hc := b.code
  obtain ⟨⟨h1, t1, rfl⟩, k1⟩ := a
  obtain ⟨⟨h2, t2, rfl⟩, k2⟩ := b
  exact ⟨⟨h2, t2, rfl⟩, fun b o e => (k1 b o e).trans hc fun o' e' => k2 b o' e'⟩
theorem Kp.tok {s : Shared} (t : Nat) : Kp T s { s with toks := t } := ⟨⟨s.heap, t, rfl⟩, fun _ _ e => .inl e⟩
theorem Kp.mk' {s : Shared} {h : Heap} {t : Nat} (hk : ∀ b o, s.heap.get? b = some o → h.get? b = some o) : Kp T s { s with heap := h, toks := t } := ⟨⟨h, t, rfl⟩, fun b o e => .inl (hk b o e)⟩
theorem Kp.push {s : Shared} (o : Obj) (t : Nat) : Kp T s { s with heap := s.heap.push o, toks := t } := ⟨⟨_, t, rfl⟩, fun _ _ e => .inl (Heap.get?_push_of_some _ e)⟩
theorem Kp.al {s s' : Shared} (h : Kp T s s') {b : Addr} {o : Obj} (e : s.heap.get? b = some o) : ∃ o', s'.heap.get? b = some o' := (h.tk b o e).al
theorem Kp.agr {s s' : Shared} (h : Kp T s s') {M : Addr → Prop} : Agr M s.heap s'.heap := fun b o _ n e => h.nt b o n e
end
structure Gl (prog : Program) (w : World) where
  hB : Heap
  mg : Str → Option Value
  mb : Str → Option Value
  g : hB.Ns mainGlobals mg
  b : hB.Ns builtinsNs mb
  lim : hB.NoLimit
  T : TabS
inductive B where
  | un
  | own (d : PyData)
  | mu (ds : List PyData)
  | mud (D : List (PyData × PyData))
  | is (v : Value)
noncomputable abbrev VEnv := List (Str × B)
structure Ok (k : Nat) (A : Around) : Prop where
  hh : A.handled = none
  depth : A.depth + k < 900
  units : A.units + 4 * k < 9000
theorem Ok.mono {k k' : Nat} {A : Around} (o : Ok k A) (h : k' ≤ k) : Ok k' A := ⟨o.hh, by have := o.depth; lia, by have := o.units; lia⟩
theorem Ok.deeper {k : Nat} {A : Around} (o : Ok (k + 1) A) (env : Env) : Ok k (A.deeper env) :=
  ⟨o.hh, by have := o.depth; show A.depth + 1 + k < 900; lia, by have := o.units; show A.units + 3 + 4 * k < 9000; lia⟩
structure EnvOk (sc : Scope) (env : Env) : Prop where
  kind : env.scope.kind = .function
  glob : env.globals = mainGlobals
  blt : env.builtins = builtinsNs
  kindG : ∀ x, sc.names.lookup x = some .globalImplicit → env.kindOf x = some .globalImplicit
  kindC : ∀ x, (sc.names.lookup x = some .cell ∨ sc.names.lookup x = some .free) → (env.kindOf x = some .cell ∨ env.kindOf x = some .free)
  kindN : ∀ x, (env.kindOf x == some .local) = (sc.names.lookup x == some .local)
  noDbg : env.kindOf "__debug__" = none
  cells : ∀ x, (sc.names.lookup x = some .cell ∨ sc.names.lookup x = some .free) → ∃ c, env.cells.lookup x = some c
  noCd : env.kindOf "__classdict__" = none
theorem EnvOk.kindL {sc : Scope} {env : Env} (h : EnvOk sc env) (x : Str) (hx : sc.names.lookup x = some .local) : env.kindOf x = some .local := by
  have := h.kindN x; rw [hx] at this; simpa using this
theorem EnvOk.dbg {sc : Scope} {env : Env} (h : EnvOk sc env) {x : Str} (hx : env.kindOf x ≠ none) : (x == ("__debug__" : Str)) = false := by
  cases e : x == ("__debug__" : Str) with
  | false => rfl
  | true => exact absurd (by rw [beq_iff_eq.mp e]; exact h.noDbg) hx
theorem EnvOk.cd {sc : Scope} {env : Env} (h : EnvOk sc env) {x : Str} (hx : env.kindOf x ≠ none) : (x == ("__classdict__" : Str)) = false := by
  cases e : x == ("__classdict__" : Str) with
  | false => rfl
  | true => exact absurd (by rw [beq_iff_eq.mp e]; exact h.noCd) hx
noncomputable def Acc (env : Env) (h : Heap) (x : Str) (v : Value) : Prop :=
  (env.kindOf x = some .local ∧ ∃ m, h.Ns env.locals m ∧ m x = some v) ∨
  ((env.kindOf x = some .cell ∨ env.kindOf x = some .free) ∧ ∃ c, env.cells.lookup x = some c ∧ h.IsCell c (some v))
theorem Acc.keeps {env : Env} {h h' : Heap} {x : Str} {v : Value} (a : Acc env h x v) (hk : ∀ b o, NT o → h.get? b = some o → h'.get? b = some o) : Acc env h' x v := by
  rcases a with ⟨a, m, b, c⟩ | ⟨a, c, b, d⟩
  · exact .inl ⟨a, m, Nsp.gr b (hk _), c⟩
  · exact .inr ⟨a, c, b, Cel.gr d (hk _)⟩
section
variable {prog : Program} {w : World}
noncomputable def ER (prog : Program) (w : World) (env : Env) (h : Heap) (M : Addr → Prop) (x : Str) : B → Prop
  | .un => True
  | .is v => Acc env h x v
  | .own d => ∃ v, Acc env h x v ∧ Rp prog w h M d v
  | .mu ds => ∃ a items, Acc env h x (.ref a) ∧ M a ∧ h.PlainList a items ∧ RpL prog w h M ds items.toList ∧ ds.length ≤ lid
  | .mud D => ∃ a kvs, Acc env h x (.ref a) ∧ M a ∧ a ≠ env.locals ∧ (a == sysModules) = false ∧ h.DictOf (strKind prog w) a kvs ∧ RpD prog w h M D kvs ∧ D.length ≤ lid
theorem ER.keeps {env : Env} {h h' : Heap} {M : Addr → Prop} {x : Str} {b : B} (r : ER prog w env h M x b) (hk : ∀ b o, NT o → h.get? b = some o → h'.get? b = some o) : ER prog w env h' M x b := by
  cases b with
  | un => trivial
  | is v => exact Acc.keeps r hk
  | own d => obtain ⟨v, a, r⟩ := r; exact ⟨v, a.keeps hk, Rp.agr (fun b o _ => hk b o) _ _ r⟩
  | mu ds => obtain ⟨a, items, h1, h2, h3, h4, h5⟩ := r; exact ⟨a, items, h1.keeps hk, h2, PL.gr h3 (hk _), RpL.agr (fun b o _ => hk b o) _ _ h4, h5⟩
  | mud D => obtain ⟨a, kvs, h1, h2, hl, h2', h3, h4, h5⟩ := r; exact ⟨a, kvs, h1.keeps hk, h2, hl, h2', Dic.gr h3 (hk _), RpD.agr (fun b o _ => hk b o) _ _ h4, h5⟩
structure VR (G : Gl prog w) (env : Env) (M : Addr → Prop) (ρ : VEnv) (s : Shared) : Prop where
  base : ∀ b o, G.hB.get? b = some o → Gr G.T s.heap b o
  dom : ∀ a, M a → ∃ o, s.heap.get? a = some o
  ent : ∀ x b, (x, b) ∈ ρ → ER prog w env s.heap M x b
  cel : ∀ x c, env.cells.lookup x = some c → M c
  nd : (ρ.map (·.1)).Nodup
theorem VR.bnt {G : Gl prog w} {env : Env} {M : Addr → Prop} {ρ : VEnv} {s : Shared} (v : VR G env M ρ s) : ∀ b o, NT o → G.hB.get? b = some o → s.heap.get? b = some o := fun b o n e => (v.base b o e).nt n
theorem VR.keeps {G : Gl prog w} {env : Env} {M : Addr → Prop} {ρ : VEnv} {s s' : Shared} (v : VR G env M ρ s) (k : Kp G.T s s') : VR G env M ρ s' :=
  ⟨fun b o e => (v.base b o e).trans k.code (k.tk b), fun a ha => let ⟨o, e⟩ := v.dom a ha; k.al e, fun x b hx => (v.ent x b hx).keeps k.nt, v.cel, v.nd⟩
noncomputable def EvTo (G : Gl prog w) (k : Nat) (sc : Scope) (ρ : VEnv) (e : Expr) (d : PyData) : Prop :=
  ∀ (A : Around) (env : Env) (M : Addr → Prop) (s : Shared) (Q : Value → Shared → Prop) (E : Value → Shared → Prop), Ok k A → EnvOk sc env → VR G env M ρ s →
    (∀ v s', Kp G.T s s' → Rp prog w s'.heap M d v → Q v s') → wpAny (model prog w) A (eval e env) Q E s
noncomputable def TrTo (G : Gl prog w) (k : Nat) (sc : Scope) (ρ : VEnv) (e : Expr) (b : Bool) : Prop :=
  ∀ (A : Around) (env : Env) (M : Addr → Prop) (s : Shared) (Q : Bool → Shared → Prop) (E : Value → Shared → Prop), Ok k A → EnvOk sc env → VR G env M ρ s →
    (∀ s', Kp G.T s s' → Q b s') → wpAny (model prog w) A (isTrue e env (eval e env)) Q E s
noncomputable def NotStar (e : Expr) : Prop := ∀ rest env, starEach (e :: rest) env = (false, eval e env) :: starEach rest env
inductive EvAll (G : Gl prog w) (k : Nat) (sc : Scope) (ρ : VEnv) : List Expr → List PyData → Prop
  | nil : EvAll G k sc ρ [] []
  | cons {e es d ds} : NotStar e → EvTo G k sc ρ e d → EvAll G k sc ρ es ds → EvAll G k sc ρ (e :: es) (d :: ds)
variable {G : Gl prog w} {k : Nat} {sc : Scope} {ρ : VEnv}
theorem backTo_cons {pos : Pos} {e : Expr} {rest : List Expr} {env : Env} (h : NotStar e) : backTo pos (starEach (e :: rest) env) = (false, eval e env) :: backTo pos (starEach rest env) := by
  rw [h]; rfl
theorem EvAll.run : ∀ {es : List Expr} {ds : List PyData}, EvAll G k sc ρ es ds → ∀ {A : Around} {env : Env} {M : Addr → Prop} {s : Shared} {Q : List Value → Shared → Prop} {E : Value → Shared → Prop} {pos : Pos},
    Ok k A → EnvOk sc env → VR G env M ρ s → (∀ vs s', Kp G.T s s' → RpL prog w s'.heap M ds vs → Q vs s') → wpAny (model prog w) A (spliced (backTo pos (starEach es env))) Q E s := by
  intro es ds h
  induction h with
  | nil => intro A env M s Q E pos _ _ _ hQ; exact Calls.spliced_nil (hQ [] s Kp.refl RpL.nil)
  | cons hn he _ ih =>
    intro A env M s Q E pos ho hv hr hQ
    rw [backTo_cons hn]
    refine Calls.spliced_cons (he A env M s _ _ ho hv hr fun v s1 k1 r1 => ih ho hv (hr.keeps k1) fun vs s2 k2 r2 => hQ _ _ (k1.trans k2) (RpL.cons (Rp.agr k2.agr _ _ r1) r2))
theorem noStar_any : ∀ {es : List Expr} {ds : List PyData}, EvAll G k sc ρ es ds → ∀ (pos : Pos) (env : Env), (backTo pos (starEach es env)).any (·.1) = false := by
  intro es ds h
  induction h with
  | nil => intro pos env; rfl
  | cons hn _ _ ih => intro pos env; rw [backTo_cons hn]; simp [ih pos env]
theorem EvAll.args : ∀ {es : List Expr} {ds : List PyData}, EvAll G k sc ρ es ds → ∀ {A : Around} {env : Env} {M : Addr → Prop} {s : Shared} {Q : Args → Shared → Prop} {E : Value → Shared → Prop} {pos : Pos} {f : Value},
    Ok k A → EnvOk sc env → VR G env M ρ s → (∀ vs s', Kp G.T s s' → RpL prog w s'.heap M ds vs → Q ⟨vs, []⟩ s') → wpAny (model prog w) A (evalArgs f true (backTo pos (starEach es env)) []) Q E s := by
  intro es ds h A env M s Q E pos f ho hv hr hQ
  cases h with
  | nil => exact evalArgs_nil3 (hQ [] s Kp.refl RpL.nil)
  | cons hn he hr' =>
    have := EvAll.run (pos := pos) (E := E) (EvAll.cons hn he hr') ho hv hr hQ
    rw [backTo_cons hn] at this ⊢
    exact Calls.evalArgs_plain this
noncomputable def FnOk (G : Gl prog w) (name : Str) (need : Nat) (f : List PyData → PyData → Prop) : Prop :=
  ∃ a, G.mg name = some (.ref a) ∧ (∃ o fd, G.hB.get? a = some o ∧ o.data = .func fd) ∧
    ∀ (A : Around) (M : Addr → Prop) (s : Shared) (vs : List Value) (ds : List PyData) (d : PyData) (Q : Value → Shared → Prop) (E : Value → Shared → Prop), Ok need A →
      (∀ b o, G.hB.get? b = some o → Gr G.T s.heap b o) → (∀ a, M a → ∃ o, s.heap.get? a = some o) → RpL prog w s.heap M ds vs → f ds d →
      (∀ v s', Kp G.T s s' → Rp prog w s'.heap M d v → Q v s') → wpAny (model prog w) A (call (.ref a) vs) Q E s
theorem EvTo.user {f : List PyData → PyData → Prop} {need : Nat} {x : Str} {p pos : Pos} {es : List Expr} {ds : List PyData} {d : PyData} (F : FnOk G x need f)
    (hx : sc.names.lookup x = some .globalImplicit) (hk : need ≤ k) (ha : EvAll G k sc ρ es ds) (hf : f ds d) : EvTo G k sc ρ (.Call (.Name x p) es [] pos) d := by
  intro A env M s Q E ho hv hr hQ
  obtain ⟨a, hm, ⟨o, fd, hg, hd⟩, hcall⟩ := F
  have hgx := hv.kindG x hx
  refine Call_Name rfl (Calls.Name_function_global hv.kind hgx (Calls.loadGlobal_global (hv.glob ▸ Nsp.gr G.g (hr.bnt _)) hm ?_) (hv.dbg (by rw [hgx]; simp)))
  refine Calls.callWith_function (o := o) (fd := fd) (ha.args ho hv hr fun vs s1 k1 r1 => ⟨⟨k1.nt _ _ (.func hd) (hr.bnt _ _ (.func hd) hg), hd⟩, ?_⟩)
  have hr1 := hr.keeps k1
  exact hcall A M s1 vs ds d Q E (ho.mono hk) hr1.base hr1.dom r1 hf fun v s2 k2 r2 => hQ v s2 (k1.trans k2) r2
theorem EvTo.blt {x : Str} {id : String} {p pos : Pos} {es : List Expr} {ds : List PyData} {d : PyData}
    (hx : sc.names.lookup x = some .globalImplicit) (hm : G.mg x = none) (hb : G.mb x = some (.builtin id)) (ha : EvAll G k sc ρ es ds)
    (hc : ∀ (A : Around) (M : Addr → Prop) (s : Shared) (vs : List Value) (Q : Value → Shared → Prop) (E : Value → Shared → Prop), Ok k A → (∀ a, M a → ∃ o, s.heap.get? a = some o) → RpL prog w s.heap M ds vs →
      (∀ b o, G.hB.get? b = some o → Gr G.T s.heap b o) →
      (∀ v s', Kp G.T s s' → Rp prog w s'.heap M d v → Q v s') → wpAny (model prog w) A (call (.builtin id) vs) Q E s) : EvTo G k sc ρ (.Call (.Name x p) es [] pos) d := by
  intro A env M s Q E ho hv hr hQ
  have hgx := hv.kindG x hx
  refine Call_Name rfl (Calls.Name_function_global hv.kind hgx (Calls.loadGlobal_builtin (hv.glob ▸ Nsp.gr G.g (hr.bnt _)) hm (hv.blt ▸ Nsp.gr G.b (hr.bnt _)) hb ?_) (hv.dbg (by rw [hgx]; simp)))
  refine Calls.callWith_builtin (noStar_any ha pos env) (ha.args ho hv hr fun vs s1 k1 r1 => ?_)
  have hr1 := hr.keeps k1
  exact hc A M s1 vs Q E ho hr1.dom r1 hr1.base fun v s2 k2 r2 => hQ v s2 (k1.trans k2) r2
theorem EvTo.var {x : Str} {pos : Pos} {d : PyData} (h : (x, .own d) ∈ ρ) : EvTo G k sc ρ (.Name x pos) d := by
  intro A env M s Q E ho hv hr hQ
  obtain ⟨v, a, r⟩ := hr.ent _ _ h
  have q := hQ v s Kp.refl r
  rcases a with ⟨hl, m, hn, hm⟩ | ⟨hl, c, hc, hi⟩
  · exact wpAny_Name (wpAny_loadName_local hv.kind hl hn hm q) (hv.dbg (by rw [hl]; simp))
  · rcases hl with hl | hl
    · exact wpAny_Name (wpAny_loadName_cell hv.kind hl hc hi q) (hv.dbg (by rw [hl]; simp))
    · exact wpAny_Name (wpAny_loadName_free hv.kind hl hc hi q (hv.cd (by rw [hl]; simp))) (hv.dbg (by rw [hl]; simp))
theorem EvTo.global {x : Str} {pos : Pos} {d : PyData} {v : Value} (hx : sc.names.lookup x = some .globalImplicit) (hm : G.mg x = some v) (hd : ∀ h M, Rp prog w h M d v) : EvTo G k sc ρ (.Name x pos) d := by
  intro A env M s Q E ho hv hr hQ
  have hgx := hv.kindG x hx
  exact Calls.Name_function_global hv.kind hgx (Calls.loadGlobal_global (hv.glob ▸ Nsp.gr G.g (hr.bnt _)) hm (hQ v s Kp.refl (hd _ _))) (hv.dbg (by rw [hgx]; simp))
theorem EvTo.intC {i : Int} {n : Nat} {pos : Pos} : EvTo G k sc ρ (.Constant (.int i) n pos) (.int i) := by
  intro A env M s Q E ho hv hr hQ
  exact wpAny_Constant_int (hQ _ _ (Kp.tok _) (by simp [Rp]))
theorem EvTo.strC {x : Str} {n : Nat} {pos : Pos} : EvTo G k sc ρ (.Constant (.str x) n pos) (.str x) := by
  intro A env M s Q E ho hv hr hQ
  exact Calls.Constant_str (hQ _ _ (Kp.tok _) (by simp [Rp]))
theorem EvTo.boolC {b : Bool} {n : Nat} {pos : Pos} : EvTo G k sc ρ (.Constant (.bool b) n pos) (.bool b) := by
  intro A env M s Q E ho hv hr hQ
  exact wpAny_pure (hQ _ _ Kp.refl (by simp [Rp]))
theorem EvTo.noneC {n : Nat} {pos : Pos} : EvTo G k sc ρ (.Constant .none n pos) .none := by
  intro A env M s Q E ho hv hr hQ
  exact wpAny_pure (hQ _ _ Kp.refl (by simp [Rp]))
theorem EvTo.bin {op : Operator} {l r : Expr} {pos : Pos} {a b d : PyData} (ha : EvTo G k sc ρ l a) (hb : EvTo G k sc ρ r b)
    (hop : ∀ (A : Around) (M : Addr → Prop) (s : Shared) (u v : Value) (Q : Value → Shared → Prop) (E : Value → Shared → Prop), Ok k A → (∀ a, M a → ∃ o, s.heap.get? a = some o) → Rp prog w s.heap M a u → Rp prog w s.heap M b v →
      (∀ b o, G.hB.get? b = some o → Gr G.T s.heap b o) →
      (∀ x s', Kp G.T s s' → Rp prog w s'.heap M d x → Q x s') → wpAny (model prog w) A (binaryOp op u v) Q E s) : EvTo G k sc ρ (.BinOp l op r pos) d := by
  intro A env M s Q E ho hv hr hQ
  refine wpAny_BinOp (ha A env M s _ _ ho hv hr fun u s1 k1 r1 => hb A env M s1 _ _ ho hv (hr.keeps k1) fun v s2 k2 r2 => ?_)
  exact hop A M s2 u v Q E ho (hr.keeps (k1.trans k2)).dom (Rp.agr k2.agr _ _ r1) r2 (hr.keeps (k1.trans k2)).base fun x s3 k3 r3 => hQ x s3 ((k1.trans k2).trans k3) r3
theorem EvTo.binInt {op : Operator} {l r : Expr} {pos : Pos} {a b c : Int} (ha : EvTo G k sc ρ l (.int a)) (hb : EvTo G k sc ρ r (.int b))
    (hop : ∀ (A : Around) (s : Shared) (t u : Tok) (Q : Value → Shared → Prop) (E : Value → Shared → Prop), A.handled = .none → (∀ b o, G.hB.get? b = some o → Gr G.T s.heap b o) →
      Q (.int c s.toks) { s with toks := s.toks + 1 } → wpAny (model prog w) A (binaryOp op (.int a t) (.int b u)) Q E s) : EvTo G k sc ρ (.BinOp l op r pos) (.int c) :=
  EvTo.bin ha hb fun A M s u v Q E ho _ r1 r2 hb hQ => by
    simp only [Rp] at r1 r2
    obtain ⟨t, rfl⟩ := r1
    obtain ⟨t', rfl⟩ := r2
    exact hop A s t t' Q E ho.hh hb (hQ _ _ (Kp.tok _) (by simp [Rp]))
theorem EvTo.add {l r : Expr} {pos : Pos} {a b : Int} (ha : EvTo G k sc ρ l (.int a)) (hb : EvTo G k sc ρ r (.int b)) : EvTo G k sc ρ (.BinOp l .Add r pos) (.int (a + b)) :=
  EvTo.binInt ha hb fun _ _ _ _ _ _ _ _ h => PyProof.Rows.add_int h
theorem EvTo.sub {l r : Expr} {pos : Pos} {a b : Int} (ha : EvTo G k sc ρ l (.int a)) (hb : EvTo G k sc ρ r (.int b)) : EvTo G k sc ρ (.BinOp l .Sub r pos) (.int (a - b)) :=
  EvTo.binInt ha hb fun _ _ _ _ _ _ _ _ h => PyProof.Rows.sub_int h
theorem EvTo.mul {l r : Expr} {pos : Pos} {a b : Int} (ha : EvTo G k sc ρ l (.int a)) (hb : EvTo G k sc ρ r (.int b)) (hm : IntMulOk a b) : EvTo G k sc ρ (.BinOp l .Mult r pos) (.int (a * b)) :=
  EvTo.binInt ha hb fun _ _ _ _ _ _ _ _ h => PyProof.Rows.mul_int h hm
theorem EvTo.fdiv {l r : Expr} {pos : Pos} {a b : Int} (ha : EvTo G k sc ρ l (.int a)) (hb : EvTo G k sc ρ r (.int b)) (h0 : b ≠ 0) (hs : b.natAbs.log2 < 9000) : EvTo G k sc ρ (.BinOp l .FloorDiv r pos) (.int (a.fdiv b)) :=
  EvTo.binInt ha hb fun _ _ _ _ _ _ _ _ h => PyProof.Rows.floordiv_int h0 h (Or.inl (PyProof.noPylong_of_log2 hs))
theorem EvTo.fmod {l r : Expr} {pos : Pos} {a b : Int} (ha : EvTo G k sc ρ l (.int a)) (hb : EvTo G k sc ρ r (.int b)) (h0 : b ≠ 0) : EvTo G k sc ρ (.BinOp l .Mod r pos) (.int (a.fmod b)) :=
  EvTo.binInt ha hb fun _ _ _ _ _ _ _ _ h => PyProof.Rows.mod_int' h0 h
theorem EvTo.pow {l r : Expr} {pos : Pos} {a b : Int} (ha : EvTo G k sc ρ l (.int a)) (hb : EvTo G k sc ρ r (.int b)) (h0 : 0 ≤ b) (hs : (Builtin.Int.intBits a : Int) * b ≤ 2 ^ 27) : EvTo G k sc ρ (.BinOp l .Pow r pos) (.int (a ^ b.toNat)) :=
  EvTo.binInt ha hb fun _ _ _ _ _ _ _ _ h => PyProof.Rows.pow_int h0 hs h
theorem EvTo.lsh {l r : Expr} {pos : Pos} {a b : Int} (ha : EvTo G k sc ρ l (.int a)) (hb : EvTo G k sc ρ r (.int b)) (h0 : 0 ≤ b) (hs : (Builtin.Int.intBits a : Int) + b ≤ 2 ^ 27) : EvTo G k sc ρ (.BinOp l .LShift r pos) (.int (a * 2 ^ b.toNat)) :=
  EvTo.binInt ha hb fun _ _ _ _ _ _ _ _ h => PyProof.Rows.lshift_int h0 hs h
theorem EvTo.rsh {l r : Expr} {pos : Pos} {a b : Int} (ha : EvTo G k sc ρ l (.int a)) (hb : EvTo G k sc ρ r (.int b)) (h0 : 0 ≤ b) : EvTo G k sc ρ (.BinOp l .RShift r pos) (.int (a.fdiv (2 ^ b.toNat))) :=
  EvTo.binInt ha hb fun _ _ _ _ _ _ _ _ h => PyProof.Rows.rshift_int h0 h
theorem EvTo.bxor {l r : Expr} {pos : Pos} {a b : Int} (ha : EvTo G k sc ρ l (.int a)) (hb : EvTo G k sc ρ r (.int b)) : EvTo G k sc ρ (.BinOp l .BitXor r pos) (.int (Builtin.bitXor a b)) :=
  EvTo.binInt ha hb fun _ _ _ _ _ _ _ _ h => PyProof.Rows.xor_int h
end
end
section
section
variable {prog : Program} {w : World} {G : Gl prog w} {k : Nat} {sc : Scope} {ρ : VEnv}
mutual
theorem Rp.reads {h : Heap} {M : Addr → Prop} : ∀ (d : PyData) (v : Value), d.canLay0 = true → Rp prog w h M d v → ∃ as, Reads h v d as
  | .none, v, _, r => by simp only [Rp] at r; subst r; exact ⟨[], .none⟩
  | .bool b, v, _, r => by simp only [Rp] at r; subst r; exact ⟨[], .bool b⟩
  | .int i, v, _, r => by simp only [Rp] at r; obtain ⟨t, rfl⟩ := r; exact ⟨[], .int i t⟩
  | .str x, v, _, r => by simp only [Rp] at r; obtain ⟨t, rfl⟩ := r; exact ⟨[], .str x t⟩
  | .list ds, v, hc, r => by
    simp only [Rp] at r
    obtain ⟨a, items, rfl, _, hl, hr, _⟩ := r
    obtain ⟨as, hs⟩ := RpL.reads ds _ (by simpa [PyData.canLay0] using hc) hr
    obtain ⟨o, h1, h2, n, h3⟩ := hl.isList
    exact ⟨_, .list h1 h2 h3 hs⟩
  | .tuple ds, v, hc, r => by
    simp only [Rp] at r
    obtain ⟨a, items, rfl, _, hl, hr⟩ := r
    obtain ⟨as, hs⟩ := RpL.reads ds _ (by simpa [PyData.canLay0] using hc) hr
    obtain ⟨o, h1, h2, n, h3⟩ := hl
    exact ⟨_, .tuple h1 h2 h3 hs⟩
  | .dict D, v, hc, _ => by simp [PyData.canLay0] at hc
theorem RpL.reads {h : Heap} {M : Addr → Prop} : ∀ (ds : List PyData) (vs : List Value), PyData.canLayAll0 ds = true → RpL prog w h M ds vs → ∃ as, ReadsAll h vs ds as
  | [], vs, _, r => by simp only [RpL] at r; subst r; exact ⟨[], .nil⟩
  | d :: ds, vs, hc, r => by
    simp only [RpL] at r
    obtain ⟨v, q, rfl, h1, h2⟩ := r
    rw [PyData.canLayAll0, Bool.and_eq_true] at hc
    obtain ⟨as, r1⟩ := Rp.reads d v hc.1 h1
    obtain ⟨bs, r2⟩ := RpL.reads ds q hc.2 h2
    exact ⟨_, .cons r1 r2⟩
end
theorem EvTo.neg {e : Expr} {pos : Pos} {a : Int} (ha : EvTo G k sc ρ e (.int a)) : EvTo G k sc ρ (.UnaryOp .USub e pos) (.int (-a)) := by
  intro A env M s Q E ho hv hr hQ
  refine UnaryOp_ (ha A env M s _ _ ho hv hr fun v s1 k1 r1 => ?_)
  simp only [Rp] at r1
  obtain ⟨t, rfl⟩ := r1
  exact PyProof.Rows.neg_int (hQ _ _ (k1.trans (Kp.tok _)) (by simp [Rp]))
theorem EvTo.inv {e : Expr} {pos : Pos} {a : Int} (ha : EvTo G k sc ρ e (.int a)) : EvTo G k sc ρ (.UnaryOp .Invert e pos) (.int (Builtin.bitNot a)) := by
  intro A env M s Q E ho hv hr hQ
  refine UnaryOp_ (ha A env M s _ _ ho hv hr fun v s1 k1 r1 => ?_)
  simp only [Rp] at r1
  obtain ⟨t, rfl⟩ := r1
  exact PyProof.Rows.invert_int (hQ _ _ (k1.trans (Kp.tok _)) (by simp [Rp]))
noncomputable def TruD : PyData → Bool
  | .bool b => b
  | .int i => i != 0
  | .list ds => !ds.isEmpty
  | .none => false
  | .str x => !(x.length == 0)
  | .tuple ds => !ds.isEmpty
  | .dict D => !D.isEmpty
noncomputable def Truthable : PyData → Prop
  | .bool _ | .int _ | .list _ | .none => True
  | _ => False
theorem truthy_rp {A : Around} {M : Addr → Prop} {s : Shared} {d : PyData} {v : Value} {Q : Bool → Shared → Prop} {E : Value → Shared → Prop} (hk : Truthable d)
    (r : Rp prog w s.heap M d v) (hQ : ∀ s', Kp G.T s s' → Q (TruD d) s') : wpAny (model prog w) A (truthy v) Q E s := by
  cases d with
  | none => simp only [Rp] at r; subst r; exact truthy_none (hQ _ Kp.refl)
  | bool b => simp only [Rp] at r; subst r; exact wpAny_truthy_bool (hQ _ Kp.refl)
  | int i => simp only [Rp] at r; obtain ⟨t, rfl⟩ := r; exact PyProof.Rows.truthy_int (hQ _ Kp.refl)
  | list ds =>
    simp only [Rp] at r
    obtain ⟨a, items, rfl, _, hl, hr, hb⟩ := r
    have hlen := hr.length
    have hsz : items.size = ds.length := by rw [← hlen]; simp
    refine wpAny_truthy_list hl.isList (by rw [hsz]; unfold lid at hb; lia) ?_
    have q := hQ _ (Kp.tok (s.toks + 1 + 1))
    have e : (decide ((items.size : Int) ≠ 0)) = TruD (.list ds) := by
      rw [hsz]; cases ds <;> simp [TruD]; lia
    first
      | (rw [e]; exact q)
      | (have e' : (!items.isEmpty) = TruD (.list ds) := by
           simp only [TruD]; congr 1
           have : items.isEmpty = items.toList.isEmpty := by simp
           cases ds with
           | nil => simp at hlen; simp [hlen]
           | cons d ds => cases hi : items.toList <;> simp_all
         rw [e']; exact q)
  | str x => exact hk.elim
  | tuple x => exact hk.elim
  | dict x => exact hk.elim
theorem TrTo.of {e : Expr} {d : PyData} (he : EvTo G k sc ρ e d) (hk : Truthable d)
    (hp : ∀ env whole, isTrue e env whole = (do let v ← whole; standAt e.pos; holding [v] (truthy v))) : TrTo G k sc ρ e (TruD d) := by
  intro A env M s Q E ho hv hr hQ
  exact isTrue_plain (he A env M s _ _ ho hv hr fun v s1 k1 r1 => truthy_rp hk r1 fun s2 k2 => hQ s2 (k1.trans k2)) (hp _ _)
theorem TrTo.not {e : Expr} {pos : Pos} {b : Bool} (he : TrTo G k sc ρ e b) : TrTo G k sc ρ (.UnaryOp .Not e pos) (!b) := by
  intro A env M s Q E ho hv hr hQ
  exact isTrue_not (he A env M s _ _ ho hv hr fun s1 k1 => hQ s1 k1)
theorem TrTo.or_nil {pos : Pos} : TrTo G k sc ρ (.BoolOp .Or [] pos) false := by
  intro A env M s Q E ho hv hr hQ
  exact isTrue_or_nil (hQ _ Kp.refl)
theorem TrTo.and_cons {e : Expr} {es : List Expr} {pos : Pos} {b c : Bool} (he : TrTo G k sc ρ e b) (hr' : b = true → TrTo G k sc ρ (.BoolOp .And es pos) c) (hc : b = false → c = false) :
    TrTo G k sc ρ (.BoolOp .And (e :: es) pos) c := by
  intro A env M s Q E ho hv hr hQ
  refine isTrue_and (he A env M s _ _ ho hv hr fun s1 k1 => ?_)
  cases b with
  | true => exact hr' rfl A env M s1 Q E ho hv (hr.keeps k1) fun s2 k2 => hQ s2 (k1.trans k2)
  | false => simp only [Bool.false_eq_true, if_false]; rw [← hc rfl]; exact hQ s1 k1
theorem TrTo.or_cons {e : Expr} {es : List Expr} {pos : Pos} {b c : Bool} (he : TrTo G k sc ρ e b) (hr' : b = false → TrTo G k sc ρ (.BoolOp .Or es pos) c) (hc : b = true → c = true) :
    TrTo G k sc ρ (.BoolOp .Or (e :: es) pos) c := by
  intro A env M s Q E ho hv hr hQ
  refine isTrue_or (he A env M s _ _ ho hv hr fun s1 k1 => ?_)
  cases b with
  | false => exact hr' rfl A env M s1 Q E ho hv (hr.keeps k1) fun s2 k2 => hQ s2 (k1.trans k2)
  | true => simp only [if_true]; rw [← hc rfl]; exact hQ s1 k1
noncomputable def CmpOk (G : Gl prog w) (k : Nat) (op : CmpOp) (a b : PyData) (c : Bool) : Prop :=
  ∀ (A : Around) (M : Addr → Prop) (s : Shared) (u v : Value) (Q : Value → Shared → Prop) (E : Value → Shared → Prop), Ok k A → Rp prog w s.heap M a u → Rp prog w s.heap M b v →
    (∀ s', Kp G.T s s' → Q (.bool c) s') → wpAny (model prog w) A (compareOp op u v) Q E s
theorem EvTo.cmp {l r : Expr} {op : CmpOp} {pos : Pos} {a b : PyData} {c : Bool} (ha : EvTo G k sc ρ l a) (hb : EvTo G k sc ρ r b) (hop : CmpOk G k op a b c) (hm : behindInMarks op r = false) :
    EvTo G k sc ρ (.Compare l [op] [r] pos) (.bool c) := by
  intro A env M s Q E ho hv hr hQ
  refine wpAny_Compare1 (ha A env M s _ _ ho hv hr fun u s1 k1 r1 => hb A env M s1 _ _ ho hv (hr.keeps k1) fun v s2 k2 r2 => ?_) hm
  exact hop A M s2 u v Q E ho (Rp.agr k2.agr _ _ r1) r2 fun s3 k3 => hQ _ s3 ((k1.trans k2).trans k3) (by simp [Rp])
theorem TrTo.cmp {l r : Expr} {op : CmpOp} {pos : Pos} {a b : PyData} {c : Bool} (ha : EvTo G k sc ρ l a) (hb : EvTo G k sc ρ r b) (hop : CmpOk G k op a b c) (hm : behindInMarks op r = false) :
    TrTo G k sc ρ (.Compare l [op] [r] pos) c := by
  intro A env M s Q E ho hv hr hQ
  refine wpAny_isTrue_Compare1 (ha A env M s _ _ ho hv hr fun u s1 k1 r1 => hb A env M s1 _ _ ho hv (hr.keeps k1) fun v s2 k2 r2 => ?_) hm
  exact hop A M s2 u v _ E ho (Rp.agr k2.agr _ _ r1) r2 fun s3 k3 => wpAny_truthy_bool (hQ s3 ((k1.trans k2).trans k3))
section
variable {i j : Int} {x y : Str}
theorem CmpOk.ints {op : CmpOp} {c : Bool} (h : ∀ (A : Around) (s : Shared) (t u : Tok) (Q : Value → Shared → Prop) (E : Value → Shared → Prop), Q (.bool c) s → wpAny (model prog w) A (compareOp op (.int i t) (.int j u)) Q E s) : CmpOk G k op (.int i) (.int j) c := by
  intro A M s u v Q E ho r1 r2 hQ
  simp only [Rp] at r1 r2
  obtain ⟨t, rfl⟩ := r1
  obtain ⟨t', rfl⟩ := r2
  exact h A s t t' Q E (hQ _ Kp.refl)
theorem CmpOk.eqI : CmpOk G k .Eq (.int i) (.int j) (i == j) := .ints fun _ _ _ _ _ _ h => PyProof.Rows.eq_int h
theorem CmpOk.neI : CmpOk G k .NotEq (.int i) (.int j) (i != j) := .ints fun _ _ _ _ _ _ h => PyProof.Rows.ne_int h
theorem CmpOk.ltI : CmpOk G k .Lt (.int i) (.int j) (decide (i < j)) := .ints fun _ _ _ _ _ _ h => PyProof.Rows.lt_int h
theorem CmpOk.leI : CmpOk G k .LtE (.int i) (.int j) (decide (i ≤ j)) := .ints fun _ _ _ _ _ _ h => PyProof.Rows.le_int h
theorem CmpOk.gtI : CmpOk G k .Gt (.int i) (.int j) (decide (i > j)) := .ints fun _ _ _ _ _ _ h => PyProof.Rows.gt_int h
theorem CmpOk.geI : CmpOk G k .GtE (.int i) (.int j) (decide (i ≥ j)) := .ints fun _ _ _ _ _ _ h => PyProof.Rows.ge_int h
theorem CmpOk.strs {op : CmpOp} {c : Bool} (h : ∀ (A : Around) (s : Shared) (t u : Tok) (Q : Value → Shared → Prop) (E : Value → Shared → Prop), Q (.bool c) s → wpAny (model prog w) A (compareOp op (.str x t) (.str y u)) Q E s) : CmpOk G k op (.str x) (.str y) c := by
  intro A M s u v Q E ho r1 r2 hQ
  simp only [Rp] at r1 r2
  obtain ⟨t, rfl⟩ := r1
  obtain ⟨t', rfl⟩ := r2
  exact h A s t t' Q E (hQ _ Kp.refl)
theorem CmpOk.eqS : CmpOk G k .Eq (.str x) (.str y) (x == y) := .strs fun _ _ _ _ _ _ h => PyProof.Rows.eq_str h
theorem CmpOk.inS : CmpOk G k .In (.str x) (.str y) (!(Builtin.Str.occurrences y x 0 y.length 1).isEmpty) := .strs fun _ _ _ _ _ _ h => PyProof.Rows.in_str h
theorem CmpOk.ninS : CmpOk G k .NotIn (.str x) (.str y) (!(!(Builtin.Str.occurrences y x 0 y.length 1).isEmpty)) := .strs fun _ _ _ _ _ _ h => PyProof.Rows.notIn_str h
theorem CmpOk.isB {a b : Bool} : CmpOk G k .Is (.bool a) (.bool b) (a == b) := by
  intro A M s u v Q E ho r1 r2 hQ
  simp only [Rp] at r1 r2
  subst r1; subst r2
  exact is_bool (hQ _ Kp.refl)
theorem CmpOk.isnB {a b : Bool} : CmpOk G k .IsNot (.bool a) (.bool b) (a != b) := by
  intro A M s u v Q E ho r1 r2 hQ
  simp only [Rp] at r1 r2
  subst r1; subst r2
  exact isnot_bool (hQ _ Kp.refl)
theorem CmpOk.data {op : CmpOp} {a b : PyData} {c : Bool} (ha : a.canLay0 = true) (hb : b.canLay0 = true)
    (h : ∀ (A : Around) (s : Shared) (u v : Value) (as bs : List Addr) (Q : Value → Shared → Prop) (E : Value → Shared → Prop), Ok k A → Reads s.heap u a as → Reads s.heap v b bs → Q (.bool c) s → wpAny (model prog w) A (compareOp op u v) Q E s) : CmpOk G k op a b c := by
  intro A M s u v Q E ho r1 r2 hQ
  obtain ⟨as, r1⟩ := Rp.reads _ _ ha r1
  obtain ⟨bs, r2⟩ := Rp.reads _ _ hb r2
  exact h A s u v as bs Q E ho r1 r2 (hQ _ Kp.refl)
theorem CmpOk.eqD {a b : PyData} (ha : a.canLay0 = true) (hb : b.canLay0 = true) (hd : a.depth ≤ 64) : CmpOk G k .Eq a b (PyData.eqv a b) :=
  .data ha hb fun A s u v as bs Q E ho r1 r2 h => SeqAt.compareEq_reads r1 r2 ha hb (by have := ho.units; have : cLine = 9900 := rfl; have := Nat.min_le_left a.depth b.depth; lia) h
theorem CmpOk.neD {a b : PyData} (ha : a.canLay0 = true) (hb : b.canLay0 = true) (hd : a.depth ≤ 64) : CmpOk G k .NotEq a b (!PyData.eqv a b) :=
  .data ha hb fun A s u v as bs Q E ho r1 r2 h => SeqAt.compareNe_reads r1 r2 ha hb (by have := ho.units; have : cLine = 9900 := rfl; have := Nat.min_le_left a.depth b.depth; lia) h
end
end
end
section
section
variable {prog : Program} {w : World} {G : Gl prog w} {k : Nat} {sc : Scope} {ρ : VEnv}
theorem lid_le : lid ≤ sizeLine := by decide
theorem fresh_none {h : Heap} {a : Addr} (ha : h.objs.size ≤ a) : h.get? a = none := by
  cases e : h.get? a with
  | none => rfl
  | some o => exact absurd (Heap.lt_size e) (Nat.not_lt.mpr ha)
theorem not_M {s : Shared} {M : Addr → Prop} (hd : ∀ a, M a → ∃ o, s.heap.get? a = some o) {a : Addr} (ha : s.heap.get? a = none) : ¬ M a := fun h => by
  obtain ⟨o, e⟩ := hd a h; rw [ha] at e; cases e
theorem EvTo.list {es : List Expr} {pos : Pos} {ds : List PyData} (ha : EvAll G k sc ρ es ds) (hl : ds.length ≤ lid) : EvTo G k sc ρ (.List es pos) (.list ds) := by
  intro A env M s Q E ho hv hr hQ
  refine List_ (ha.run ho hv hr fun vs s1 k1 r1 => ?_)
  have hlen := r1.length
  refine wpAny_newObj_type (hQ _ _ (k1.trans (Kp.push _ _)) ?_) (by show vs.toArray.size ≤ sizeLine; rw [List.size_toArray, hlen]; exact Nat.le_trans hl lid_le)
  simp only [Rp]
  refine ⟨_, vs.toArray, rfl, not_M (hr.keeps k1).dom (fresh_none (Nat.le_refl _)), ⟨0, Heap.get?_push_size _ rfl⟩, RpL.agr Agr.push _ _ r1, hl⟩
theorem EvTo.tuple {es : List Expr} {n : Nat} {pos : Pos} {ds : List PyData} (ha : EvAll G k sc ρ es ds) (hl : ds.length ≤ lid := by decide) : EvTo G k sc ρ (.Tuple es n pos) (.tuple ds) := by
  intro A env M s Q E ho hv hr hQ
  refine Tuple_ (ha.run ho hv hr fun vs s1 k1 r1 => ?_)
  have hlen := r1.length
  refine wpAny_newObj_type (hQ _ _ (k1.trans (Kp.push _ _)) ?_) (by show vs.toArray.size ≤ sizeLine; rw [List.size_toArray, hlen]; exact Nat.le_trans hl lid_le)
  simp only [Rp]
  refine ⟨_, vs.toArray, rfl, not_M (hr.keeps k1).dom (fresh_none (Nat.le_refl _)), ⟨_, Heap.get?_push_size _ rfl, rfl, _, rfl⟩, RpL.agr Agr.push _ _ r1⟩
noncomputable def EvL (G : Gl prog w) (k : Nat) (sc : Scope) (ρ : VEnv) (e : Expr) (ds : List PyData) : Prop :=
  ∀ (A : Around) (env : Env) (M : Addr → Prop) (s : Shared) (Q : Value → Shared → Prop) (E : Value → Shared → Prop), Ok k A → EnvOk sc env → VR G env M ρ s →
    (∀ a items s', Kp G.T s s' → s'.heap.PlainList a items → RpL prog w s'.heap M ds items.toList → ds.length ≤ lid → Q (.ref a) s') → wpAny (model prog w) A (eval e env) Q E s
theorem EvL.of {e : Expr} {ds : List PyData} (h : EvTo G k sc ρ e (.list ds)) : EvL G k sc ρ e ds := by
  intro A env M s Q E ho hv hr hQ
  refine h A env M s Q E ho hv hr fun v s1 k1 r1 => ?_
  simp only [Rp] at r1
  obtain ⟨a, items, rfl, _, h1, h2, h3⟩ := r1
  exact hQ a items s1 k1 h1 h2 h3
theorem Acc.name {A : Around} {env : Env} {s : Shared} {x : Str} {pos : Pos} {v : Value} {Q : Value → Shared → Prop} {E : Value → Shared → Prop} (hv : EnvOk sc env) (a : Acc env s.heap x v) (q : Q v s) :
    wpAny (model prog w) A (eval (.Name x pos) env) Q E s := by
  rcases a with ⟨hl, m, hn, hm⟩ | ⟨hl, c, hc, hi⟩
  · exact wpAny_Name (wpAny_loadName_local hv.kind hl hn hm q) (hv.dbg (by rw [hl]; simp))
  · rcases hl with hl | hl
    · exact wpAny_Name (wpAny_loadName_cell hv.kind hl hc hi q) (hv.dbg (by rw [hl]; simp))
    · exact wpAny_Name (wpAny_loadName_free hv.kind hl hc hi q (hv.cd (by rw [hl]; simp))) (hv.dbg (by rw [hl]; simp))
theorem EvL.mu {x : Str} {pos : Pos} {ds : List PyData} (h : (x, .mu ds) ∈ ρ) : EvL G k sc ρ (.Name x pos) ds := by
  intro A env M s Q E ho hv hr hQ
  obtain ⟨a, items, ha, _, hl, hr', hb⟩ := hr.ent _ _ h
  exact ha.name hv (hQ a items s Kp.refl hl hr' hb)
theorem EvTo.item {e i : Expr} {pos : Pos} {ds : List PyData} {n : Int} {d : PyData} (he : EvL G k sc ρ e ds) (hi : EvTo G k sc ρ i (.int n)) (h0 : 0 ≤ n) (hd : ds[n.toNat]? = some d)
    (hs : ∀ o i', subscripted i false o i' = operate [o, i'] (getItem o i')) : EvTo G k sc ρ (.Subscript e i pos) d := by
  intro A env M s Q E ho hv hr hQ
  refine Subscript_ (he A env M s _ _ ho hv hr fun a items s1 k1 hl r1 hb => hi A env M s1 _ _ ho hv (hr.keeps k1) fun v s2 k2 r2 => ?_)
  simp only [Rp] at r2
  obtain ⟨t, rfl⟩ := r2
  have r1' := RpL.agr k2.agr _ _ r1
  obtain ⟨u, hu, ru⟩ := r1'.get hd
  have hl' : s2.heap.PlainList a items := PL.gr hl (k2.nt _)
  have hlt : n.toNat < ds.length := (List.getElem?_eq_some_iff.mp hd).1
  refine tail_any (T := "list") hl'.isList.typeIs slot_list_getitem.lookup (wpAny_getItem_list hl'.isList h0 (by unfold lid at hb; lia) (by simpa using hu) (hQ u s2 (k1.trans k2) ru)) (hs _ _)
theorem EvTo.itemN {e i : Expr} {pos : Pos} {ds : List PyData} {n : Int} {d : PyData} (he : EvL G k sc ρ e ds) (hi : EvTo G k sc ρ i (.int n)) (h0 : n < 0) (h1 : -(ds.length : Int) ≤ n) (hd : ds[(n + ds.length).toNat]? = some d)
    (hs : ∀ o i', subscripted i false o i' = operate [o, i'] (getItem o i')) : EvTo G k sc ρ (.Subscript e i pos) d := by
  intro A env M s Q E ho hv hr hQ
  refine Subscript_ (he A env M s _ _ ho hv hr fun a items s1 k1 hl r1 hb => hi A env M s1 _ _ ho hv (hr.keeps k1) fun v s2 k2 r2 => ?_)
  simp only [Rp] at r2
  obtain ⟨t, rfl⟩ := r2
  have r1' := RpL.agr k2.agr _ _ r1
  obtain ⟨u, hu, ru⟩ := r1'.get hd
  have hlen : items.size = ds.length := by have := r1.length; simpa using this
  have hl' : s2.heap.PlainList a items := PL.gr hl (k2.nt _)
  refine tail_any (T := "list") hl'.isList.typeIs slot_list_getitem.lookup (wpAny_getItem_list_neg hl'.isList h0 (by rw [hlen]; exact h1) (by unfold lid at hb; lia) (by rw [hlen]; simpa using hu) (hQ u s2 (k1.trans k2) ru)) (hs _ _)
theorem EvTo.itemT {e i : Expr} {pos : Pos} {ds : List PyData} {n : Int} {j : Nat} {d : PyData} (he : EvTo G k sc ρ e (.tuple ds)) (hi : EvTo G k sc ρ i (.int n)) (hlo : -(2 ^ 63) ≤ n) (hhi : n < 2 ^ 63)
    (hj : seqIndex? n ds.length = some j) (hd : ds[j]? = some d) (hs : ∀ o i', subscripted i false o i' = operate [o, i'] (getItem o i')) : EvTo G k sc ρ (.Subscript e i pos) d := by
  intro A env M s Q E ho hv hr hQ
  refine Subscript_ (he A env M s _ _ ho hv hr fun v0 s1 k1 r1 => hi A env M s1 _ _ ho hv (hr.keeps k1) fun v s2 k2 r2 => ?_)
  simp only [Rp] at r2
  obtain ⟨t, rfl⟩ := r2
  have r1 := Rp.agr k2.agr _ _ r1
  simp only [Rp] at r1
  obtain ⟨a, items, rfl, _, hl, r1⟩ := r1
  obtain ⟨u, hu, ru⟩ := r1.get hd
  have hlen : items.size = ds.length := by have := r1.length; simpa using this
  exact tail_any (T := "tuple") hl.typeIs slot_tuple_getitem.lookup (PyProof.Rows.getItem_tuple hl hlo hhi (by rw [hlen]; exact hj) (by simpa using hu) (hQ u s2 (k1.trans k2) ru)) (hs _ _)
theorem EvTo.itemS {e i : Expr} {pos : Pos} {x : Str} {n : Int} (he : EvTo G k sc ρ e (.str x)) (hi : EvTo G k sc ρ i (.int n)) (hf : fitsSsize n = true) (hin : (Txt.charAt x n).isSome = true)
    (hs : ∀ o i', subscripted i false o i' = operate [o, i'] (getItem o i')) : EvTo G k sc ρ (.Subscript e i pos) (.str (Txt.item x n)) := by
  intro A env M s Q E ho hv hr hQ
  refine Subscript_ (he A env M s _ _ ho hv hr fun v0 s1 k1 r1 => hi A env M s1 _ _ ho hv (hr.keeps k1) fun v s2 k2 r2 => ?_)
  simp only [Rp] at r1 r2
  obtain ⟨t, rfl⟩ := r2
  obtain ⟨t', rfl⟩ := r1
  exact tail_any (T := "str") (typeIs_str _ _ _) F.slot_str_getitem.lookup (SB.getItem hf hin (hQ _ _ ((k1.trans k2).trans (Kp.tok _)) (by simp [Rp]))) (hs _ _)
inductive PartTo (G : Gl prog w) (k : Nat) (sc : Scope) (ρ : VEnv) : Option Expr → Option Int → Prop
  | none : PartTo G k sc ρ none none
  | some {e n} : EvTo G k sc ρ e (.int n) → PartTo G k sc ρ (some e) (some n)
theorem PartTo.run {x : Option Expr} {n : Option Int} (h : PartTo G k sc ρ x n) {A : Around} {env : Env} {M : Addr → Prop} {s : Shared} {Q : Value → Shared → Prop} {E : Value → Shared → Prop} (ho : Ok k A) (hv : EnvOk sc env) (hr : VR G env M ρ s)
    (hQ : ∀ v s', Kp G.T s s' → IsPart v n → Q v s') : wpAny (model prog w) A (evalPart x env) Q E s := by
  cases h with
  | none => exact wpAny_pure (hQ _ _ Kp.refl .none)
  | some he =>
    refine he A env M s Q E ho hv hr fun v s1 k1 r1 => ?_
    simp only [Rp] at r1
    obtain ⟨t, rfl⟩ := r1
    exact hQ _ _ k1 (.int _ _)
theorem sub_slice_ops (l u st : Option Expr) (p : Pos) (o i : Value) : ∃ ops, subscripted (.Slice l u st p) false o i = operate ops (getItem o i) := by
  cases st with
  | none => exact ⟨[i, o], rfl⟩
  | some e => exact ⟨[o, i], rfl⟩
theorem slicePick_map {items : Array Value} {lo hi st : Option Int} : (slicePick items lo hi st).toList = (sliceRange (sliceBounds lo hi st items.size).1 (sliceBounds lo hi st items.size).2.1 (sliceBounds lo hi st items.size).2.2).filterMap (items.toList[·]?) := by
  unfold slicePick; simp
noncomputable def pickL (ds : List PyData) (lo hi st : Option Int) : List PyData := (sliceRange (sliceBounds lo hi st ds.length).1 (sliceBounds lo hi st ds.length).2.1 (sliceBounds lo hi st ds.length).2.2).filterMap (ds[·]?)
theorem RpL.picks {h : Heap} {M : Addr → Prop} {ds : List PyData} {vs : List Value} (r : RpL prog w h M ds vs) : ∀ (is : List Nat), RpL prog w h M (is.filterMap (ds[·]?)) (is.filterMap (vs[·]?))
  | [] => RpL.nil
  | i :: is => by
    have ih := RpL.picks r is
    cases hd : ds[i]? with
    | none =>
      have hv : vs[i]? = none := by rw [List.getElem?_eq_none_iff] at hd ⊢; rw [r.length]; exact hd
      simpa [hd, hv] using ih
    | some d =>
      obtain ⟨v, hv, hr⟩ := r.get hd
      simp only [List.filterMap_cons, hd, hv]
      exact RpL.cons hr ih
theorem pickL_length_le (ds : List PyData) (lo hi st : Option Int) : (pickL ds lo hi st).length ≤ ds.length := by
  have h := slicePick_size_le (ds.map fun _ => Value.none).toArray lo hi st
  have e : (pickL ds lo hi st).length = (slicePick (ds.map fun _ => Value.none).toArray lo hi st).size := by
    rw [show (slicePick (ds.map fun _ => Value.none).toArray lo hi st).size = (slicePick (ds.map fun _ => Value.none).toArray lo hi st).toList.length by simp, slicePick_map]
    simp only [pickL, List.size_toArray, List.length_map]
    generalize sliceRange _ _ _ = is
    induction is with
    | nil => rfl
    | cons i is ih =>
      simp only [List.filterMap_cons]
      cases hd : ds[i]? with
      | none => simp [hd, ih]
      | some d => simp [hd, ih]
  rw [e]; simpa using h
theorem EvTo.sliceL {e : Expr} {l u st : Option Expr} {p pos : Pos} {ds : List PyData} {lo hi step : Option Int} (he : EvL G k sc ρ e ds) (hl : PartTo G k sc ρ l lo) (hu : PartTo G k sc ρ u hi) (hst : PartTo G k sc ρ st step)
    (h0 : step ≠ some 0) : EvTo G k sc ρ (.Subscript e (.Slice l u st p) pos) (.list (pickL ds lo hi step)) := by
  intro A env M s Q E ho hv hr hQ
  refine Subscript_ (he A env M s _ _ ho hv hr fun a items s1 k1 hl1 r1 hb => wpAny_Slice (hl.run ho hv (hr.keeps k1) fun vl s2 k2 p2 => hu.run ho hv (hr.keeps (k1.trans k2)) fun vu s3 k3 p3 => hst.run ho hv (hr.keeps ((k1.trans k2).trans k3)) fun vst s4 k4 p4 => ?_))
  have k14 := (k2.trans k3).trans k4
  have hl4 : s4.heap.PlainList a items := PL.gr hl1 (k14.nt _)
  have hlen : items.size = ds.length := by have := r1.length; simpa using this
  obtain ⟨ops, hs⟩ := sub_slice_ops l u st p (.ref a) (.ref s4.heap.objs.size)
  have hp : (s4.heap.push { cls := .type "slice", data := .fields #[vl, vu, vst] }).PlainList a items := PL.push hl4
  refine tail_any (T := "list") (ops := ops) hp.isList.typeIs slot_list_getitem.lookup (wpAny_getItem_list_slice hp.isList (Heap.IsSliceOf.new ..) p2 p3 p4 h0 ?_ (by rw [hlen]; exact Nat.le_trans hb lid_le)) hs
  refine hQ _ _ ((k1.trans k14).trans ((Kp.push _ _).trans (Kp.push _ _))) ?_
  simp only [Rp]
  have kk : Agr M s1.heap ((s4.heap.push { cls := .type "slice", data := .fields #[vl, vu, vst] }).push { cls := .type "list", data := .seq (slicePick items lo hi step) }) :=
    fun b o _ n e => Heap.get?_push_of_some _ (Heap.get?_push_of_some _ (k14.nt _ _ n e))
  refine ⟨_, slicePick items lo hi step, rfl, ?_, ⟨0, Heap.get?_push_size _ rfl⟩, ?_, Nat.le_trans (pickL_length_le ..) hb⟩
  · exact not_M ((hr.keeps (k1.trans k14)).dom) (fresh_none (by simp only [Heap.size_push]; lia))
  · rw [slicePick_map, hlen]
    exact RpL.picks (RpL.agr kk _ _ r1) _
theorem EvTo.lenL {e : Expr} {p pos : Pos} {x : Str} {ds : List PyData} (hx : sc.names.lookup x = some .globalImplicit) (hm : G.mg x = none) (hb : G.mb x = some (.builtin "len")) (he : EvL G k sc ρ e ds) (hn : NotStar e) :
    EvTo G k sc ρ (.Call (.Name x p) [e] [] pos) (.int ds.length) := by
  intro A env M s Q E ho hv hr hQ
  have hgx := hv.kindG x hx
  refine Call_Name rfl (Calls.Name_function_global hv.kind hgx (Calls.loadGlobal_builtin (hv.glob ▸ Nsp.gr G.g (hr.bnt _)) hm (hv.blt ▸ Nsp.gr G.b (hr.bnt _)) hb ?_) (hv.dbg (by rw [hgx]; simp)))
  rw [backTo_cons hn]
  refine Calls.callWith_builtin rfl (Calls.evalArgs_plain (Calls.spliced_cons (he A env M s _ _ ho hv hr fun a items s1 k1 hl1 r1 hb1 => Calls.spliced_nil ?_)))
  have hlen : items.size = ds.length := by have := r1.length; simpa using this
  refine PyProof.Rows.len_list hl1.isList (by rw [hlen]; unfold lid at hb1; lia) (hQ _ _ (k1.trans (Kp.tok _)) ?_)
  simp only [Rp, hlen]; exact ⟨_, rfl⟩
theorem EvTo.lenS {e : Expr} {p pos : Pos} {x : Str} {y : Str} (hx : sc.names.lookup x = some .globalImplicit) (hm : G.mg x = none) (hb : G.mb x = some (.builtin "len")) (he : EvTo G k sc ρ e (.str y)) (hn : NotStar e) (hy : y.length < 2 ^ 62) :
    EvTo G k sc ρ (.Call (.Name x p) [e] [] pos) (.int y.length) :=
  EvTo.blt hx hm hb (.cons hn he .nil) fun A M s vs Q E ho hd r _ hQ => by
    obtain ⟨v, hv, r1⟩ := r.get (i := 0) rfl
    have hlen := r.length
    obtain ⟨v', rfl⟩ : ∃ v', vs = [v'] := by
      cases vs with
      | nil => simp at hlen
      | cons a t => cases t with
        | nil => exact ⟨a, rfl⟩
        | cons b t => simp at hlen
    simp at hv; subst hv
    simp only [Rp] at r1
    obtain ⟨t, rfl⟩ := r1
    exact PyProof.Rows.len_str (by lia) (hQ _ _ (Kp.tok _) (by simp [Rp]))
theorem RpL.one {h : Heap} {M : Addr → Prop} {d : PyData} {vs : List Value} (r : RpL prog w h M [d] vs) : ∃ v, vs = [v] ∧ Rp prog w h M d v := by
  simp only [RpL] at r
  obtain ⟨v, q, rfl, r1, rfl⟩ := r
  exact ⟨v, rfl, r1⟩
theorem RpL.two {h : Heap} {M : Addr → Prop} {d e : PyData} {vs : List Value} (r : RpL prog w h M [d, e] vs) : ∃ u v, vs = [u, v] ∧ Rp prog w h M d u ∧ Rp prog w h M e v := by
  simp only [RpL] at r
  obtain ⟨v, q, rfl, r1, u, q', rfl, r2, rfl⟩ := r
  exact ⟨v, u, rfl, r1, r2⟩
theorem EvTo.divmod {e1 e2 : Expr} {p pos : Pos} {x : Str} {a b : Int} (hx : sc.names.lookup x = some .globalImplicit) (hm : G.mg x = none) (hb : G.mb x = some (.builtin "divmod")) (h1 : EvTo G k sc ρ e1 (.int a)) (h2 : EvTo G k sc ρ e2 (.int b))
    (n1 : NotStar e1) (n2 : NotStar e2) (h0 : b ≠ 0) (hs : b.natAbs.log2 < 9000) : EvTo G k sc ρ (.Call (.Name x p) [e1, e2] [] pos) (.tuple [.int (a.fdiv b), .int (a.fmod b)]) :=
  EvTo.blt hx hm hb (.cons n1 h1 (.cons n2 h2 .nil)) fun A M s vs Q E ho hd r _ hQ => by
    obtain ⟨u, v, rfl, r1, r2⟩ := r.two
    simp only [Rp] at r1 r2
    obtain ⟨t, rfl⟩ := r1
    obtain ⟨t', rfl⟩ := r2
    refine PyProof.Rows.divmod_int h0 (hQ _ _ (Kp.push _ _) ?_) (Or.inl (PyProof.noPylong_of_log2 hs))
    simp only [Rp, RpL]
    exact ⟨_, _, rfl, not_M hd (fresh_none (Nat.le_refl _)), ⟨_, Heap.get?_push_size _ rfl, rfl, _, rfl⟩, _, _, rfl, ⟨_, rfl⟩, _, _, rfl, ⟨_, rfl⟩, rfl⟩
theorem EvTo.ord {e : Expr} {p pos : Pos} {x : Str} {c : Nat} (hx : sc.names.lookup x = some .globalImplicit) (hm : G.mg x = none) (hb : G.mb x = some (.builtin "ord")) (h1 : EvTo G k sc ρ e (.str ⟨#[c]⟩)) (n1 : NotStar e) :
    EvTo G k sc ρ (.Call (.Name x p) [e] [] pos) (.int c) :=
  EvTo.blt hx hm hb (.cons n1 h1 .nil) fun A M s vs Q E ho hd r _ hQ => by
    obtain ⟨u, rfl, r1⟩ := r.one
    simp only [Rp] at r1
    obtain ⟨t, rfl⟩ := r1
    exact P.ord_of_char (hQ _ _ (Kp.tok _) (by simp [Rp]))
theorem EvTo.chr {e : Expr} {p pos : Pos} {x : Str} {i : Int} (hx : sc.names.lookup x = some .globalImplicit) (hm : G.mg x = none) (hb : G.mb x = some (.builtin "chr")) (h1 : EvTo G k sc ρ e (.int i)) (n1 : NotStar e) (h0 : 0 ≤ i) (hi : i ≤ 1114111) :
    EvTo G k sc ρ (.Call (.Name x p) [e] [] pos) (.str ⟨#[i.toNat]⟩) :=
  EvTo.blt hx hm hb (.cons n1 h1 .nil) fun A M s vs Q E ho hd r _ hQ => by
    obtain ⟨u, rfl, r1⟩ := r.one
    simp only [Rp] at r1
    obtain ⟨t, rfl⟩ := r1
    exact PyProof.Rows.chr_of_range h0 hi (hQ _ _ (Kp.tok _) (by simp [Rp]))
theorem EvTo.cat {l r : Expr} {pos : Pos} {x y : Str} (ha : EvTo G k sc ρ l (.str x)) (hb : EvTo G k sc ρ r (.str y)) (hsz : x.length + y.length ≤ sizeLine) : EvTo G k sc ρ (.BinOp l .Add r pos) (.str (x ++ y)) :=
  EvTo.bin ha hb fun A M s u v Q E ho _ r1 r2 _ hQ => by
    simp only [Rp] at r1 r2
    obtain ⟨t, rfl⟩ := r1
    obtain ⟨t', rfl⟩ := r2
    exact PyProof.Rows.add_str (fun t' tk => hQ _ _ (Kp.tok tk) (by simp [Rp])) hsz
end
end
section
section
variable {prog : Program} {w : World} {G : Gl prog w} {k : Nat} {sc : Scope} {ρ : VEnv}
theorem notCo {o : Obj} {n : String} (h : o.cls = .type n) (hn : n ≠ "code") : ¬ IsCo o := fun ic => hn (by have := h.symm.trans ic.1; cases this; rfl)
theorem notCoD {o : Obj} {es n} (h : o.data = .dict es n) : ¬ IsCo o := fun ⟨_, vs, e⟩ => by rw [h] at e; cases e
theorem notCoC {o : Obj} {v} (h : o.data = .cell v) : ¬ IsCo o := fun ⟨_, vs, e⟩ => by rw [h] at e; cases e
theorem notCoS {o : Obj} {xs n} (h : o.data = .seq xs n) : ¬ IsCo o := fun ⟨_, vs, e⟩ => by rw [h] at e; cases e
structure KB (T : TabS) (own : Addr → Prop) (s s' : Shared) : Prop where
  same : ∃ h t, s' = { s with heap := h, toks := t }
  tk : ∀ b o, ¬ own b → s.heap.get? b = some o → Gr T s'.heap b o
  co : ∀ b o, IsCo o → s.heap.get? b = some o → s'.heap.get? b = some o
theorem KB.code {T : TabS} {own : Addr → Prop} {s s' : Shared} (h : KB T own s s') : ∀ c o, IsCo o → s.heap.get? c = some o → Gr T s'.heap c o := fun c o i e => .inl (h.co c o i e)
theorem KB.of {T : TabS} {own : Addr → Prop} {s s' : Shared} (h : Kp T s s') : KB T own s s' := ⟨h.same, fun b o _ e => h.tk b o e, fun b o i e => h.nt b o i.nt e⟩
theorem KB.nt {T : TabS} {own : Addr → Prop} {s s' : Shared} (h : KB T own s s') (b : Addr) (o : Obj) (hb : ¬ own b) (n : NT o) (e : s.heap.get? b = some o) : s'.heap.get? b = some o := (h.tk b o hb e).nt n
theorem KB.agr {T : TabS} {own M : Addr → Prop} {s s' : Shared} (h : KB T own s s') (hM : ∀ b, own b → M b) : Agr M s.heap s'.heap := fun b o hb n e => h.nt b o (fun q => hb (hM b q)) n e
theorem KB.trans {T : TabS} {own : Addr → Prop} {s s' s'' : Shared} (a : KB T own s s') (b : KB T own s' s'') : KB T own s s'' := by
  have hc := b.code
  obtain ⟨⟨h1, t1, rfl⟩, k1, c1⟩ := a
  obtain ⟨⟨h2, t2, rfl⟩, k2, c2⟩ := b
  exact ⟨⟨h2, t2, rfl⟩, fun b o hb e => (k1 b o hb e).trans hc fun o' e' => k2 b o' hb e', fun b o i e => c2 b o i (c1 b o i e)⟩
theorem KB.mk' {T : TabS} {own : Addr → Prop} {s s' : Shared} (h : ∃ h t, s' = { s with heap := h, toks := t }) (k : ∀ b o, ¬ own b → s.heap.get? b = some o → s'.heap.get? b = some o)
    (hn : ∀ b o, own b → s.heap.get? b = some o → ¬ IsCo o) : KB T own s s' := ⟨h, fun b o hb e => .inl (k b o hb e), fun b o i e => by
  rcases Classical.em (own b) with q | q
  · exact absurd i (hn b o q e)
  · exact k b o q e⟩
structure Wk (prog : Program) (w : World) (T : TabS) (A : Around) (I : Addr) (own F M : Addr → Prop) (h0 : Heap) (tgt : Expr) (ds : List PyData) (Co : Nat → Heap → Prop) : Prop where
  frame : ∀ i h h', Co i h → (∀ b o, own b → h.get? b = some o → Gr T h' b o) → Co i h'
  alive : ∀ i h, Co i h → ∀ b, own b → ∃ o, h.get? b = some o
  item : ∀ i d (M' : Addr → Prop) (s : Shared) (Q : Value → Shared → Prop) (E : Value → Shared → Prop), ds[i]? = some d → Co i s.heap → Agr F h0 s.heap → (∀ b o, h0.get? b = some o → M' b → M b) → (∀ a, M' a → ∃ o, s.heap.get? a = some o) →
    (∀ v s', KB T own s s' → Co (i + 1) s'.heap → Rp prog w s'.heap M' d v → Q v s') →
    wpAny (model prog w) A (pyNext (.ref I)) (fun r s1 => match r with | none => False | some v => wpAny (model prog w) A (letOwnedTupleGo tgt (.ref I) v) (fun _ s2 => Q v s2) E s1) E s
  done : ∀ (s : Shared) (Q : Shared → Prop) (E : Value → Shared → Prop), Co ds.length s.heap → Agr F h0 s.heap → (∀ s', KB T own s s' → Q s') →
    wpAny (model prog w) A (pyNext (.ref I)) (fun r s1 => match r with | none => Q s1 | some _ => False) E s
  self : ∀ i (s : Shared) (Q : Value → Shared → Prop) (E : Value → Shared → Prop), Co i s.heap → Agr F h0 s.heap → Q (.ref I) s → wpAny (model prog w) A (pyIter (.ref I)) Q E s
theorem letGo_plain {A : Around} {tgt : Expr} {I : Addr} {v : Value} {s : Shared} {o : Obj} {n : String} {Q : Unit → Shared → Prop} {E : Value → Shared → Prop} (ho : s.heap.get? I = some o) (hc : o.cls = .type n)
    (hn : (["enumerate", "zip", "dict_itemiterator", "dict_reverseitemiterator", "odict_iterator", "itertools.zip_longest", "itertools.pairwise"] : List String).contains n = false) (h : Q () s) :
    wpAny (model prog w) A (letOwnedTupleGo tgt (.ref I) v) Q E s := by
  have key : ∀ a, v = .ref a → wpAny (model prog w) A (do
      let o ← load I
      match o.cls, o.data with
      | .type n, .fields vs =>
        if ["enumerate", "zip", "dict_itemiterator", "dict_reverseitemiterator", "odict_iterator", "itertools.zip_longest", "itertools.pairwise"].contains n && vs[0]? == some (rawInt a) then
          rule "for.unpacks-the-owned-tuple"
          updateField I 0 .none
      | _, _ => pure ()) Q E s := by
    intro a _
    refine wpAny_bind (wpAny_load ho ?_)
    obtain ⟨c, dd, dt, sl⟩ := o
    simp only at hc
    subst hc
    cases dt <;> first | exact wpAny_pure h | (simp only [hn, Bool.false_and, Bool.false_eq_true, if_false]; exact wpAny_pure h)
  unfold letOwnedTupleGo
  cases tgt <;> first | exact wpAny_pure h | (cases v <;> first | exact wpAny_pure h | exact key _ rfl)
theorem Wk.ofWalks {T : TabS} {A : Around} {I : Addr} {fp : List Addr} {n : Nat} {P : Nat → Value → Prop} {St Co : Nat → Heap → Prop} {F M : Addr → Prop} {h0 : Heap} {tgt : Expr} {ds : List PyData}
    (W : Walks prog w A I fp [I] n P St) (hn : ds.length = n) (hFM : ∀ b, F b → M b)
    (hSt : ∀ i h, Co i h → Agr F h0 h → St i h) (hCo : ∀ i h, St i h → Co i h) (hfr : ∀ i h h', Co i h → (∀ b o, b ∈ [I] → h.get? b = some o → Gr T h' b o) → Co i h')
    (hP : ∀ i v d, P i v → ds[i]? = some d → Rp prog w h0 M d v) (hI : ∀ i h, Co i h → ∃ o n, h.get? I = some o ∧ o.cls = .type n ∧ (["enumerate", "zip", "dict_itemiterator", "dict_reverseitemiterator", "odict_iterator", "itertools.zip_longest", "itertools.pairwise"] : List String).contains n = false ∧ n ≠ "code")
    (hw : ∀ b o, b ∈ [I] → h0.get? b = some o → False) :
    Wk prog w T A I (· ∈ [I]) F M h0 tgt ds Co :=
  have noCo : ∀ {i h}, Co i h → ∀ b o, b ∈ [I] → h.get? b = some o → ¬ IsCo o := by
    intro i h hc b o hb e ic
    rw [List.mem_singleton.mp hb] at e
    obtain ⟨o', n, ho, hcl, _, hne⟩ := hI i h hc
    rw [e] at ho; cases ho
    exact notCo hcl hne ic
  { frame := hfr
    alive := fun i h hc b hb => by rw [List.mem_singleton.mp hb]; obtain ⟨o, _, ho, _⟩ := hI i h hc; exact ⟨o, ho⟩
    item := by
      intro i d M' s Q E hd hc ha hM hdom hQ
      have hlt : i < n := by rw [← hn]; exact (List.getElem?_eq_some_iff.mp hd).1
      refine W.item i s _ _ hlt (hSt i _ hc ha) fun v h' tk hp hst hk => ?_
      have hc' := hCo _ _ hst
      obtain ⟨o, nm, ho, hcl, hnm, _⟩ := hI _ _ hc'
      refine letGo_plain ho hcl hnm (hQ v _ (.mk' ⟨_, _, rfl⟩ (fun b o hb e => hk b o hb e) (noCo hc)) hc' ?_)
      have r0 := hP i v d hp hd
      have r1 : Rp prog w h0 (fun b => M b ∨ M' b) d v := Rp.sub (fun a o e q => q.elim id (hM a o e)) _ _ r0
      have r2 : Rp prog w h' (fun b => M b ∨ M' b) d v := Rp.agr (fun b o hb n e => hk b o (fun q => hw b o q e) (ha b o (fun q => hb (.inl (hFM b q))) n e)) _ _ r1
      exact Rp.sub (fun a o e q => .inr q) _ _ r2
    done := by
      intro s Q E hc ha hQ
      exact W.done s _ _ (hn ▸ hSt _ _ hc ha) fun h' tk hk => hQ _ (.mk' ⟨_, _, rfl⟩ (fun b o hb e => hk b o hb e) (noCo hc))
    self := fun i s Q E hc ha hQ => W.self i s Q E (hSt _ _ hc ha) hQ }
noncomputable def ItTo (G : Gl prog w) (k : Nat) (sc : Scope) (ρ : VEnv) (tgt : Expr) (cf : Bool) (e : Expr) (ds : List PyData) : Prop :=
  ∀ (A : Around) (env : Env) (M : Addr → Prop) (s : Shared) (Q : Value → Shared → Prop) (E : Value → Shared → Prop), Ok k A → EnvOk sc env → VR G env M ρ s →
    (∀ I own Co h0 s', Kp G.T s s' → Wk prog w G.T A I own (fun b => cf = true ∧ M b) M h0 tgt ds Co → Co 0 s'.heap → (∀ b o, s.heap.get? b = some o → Gr G.T h0 b o) → (∀ b o, h0.get? b = some o → Gr G.T s'.heap b o) →
      (∀ b, own b → h0.get? b = none ∧ ∃ o, s'.heap.get? b = some o) → Q (.ref I) s') →
    wpAny (model prog w) A (eval e env) (fun x s1 => wpAny (model prog w) A (pyIter x) Q E s1) E s
theorem it_list {A : Around} {M : Addr → Prop} {cf : Bool} {tgt : Expr} {ds : List PyData} {s : Shared} {a : Addr} {items : Array Value} {Q : Value → Shared → Prop} {E : Value → Shared → Prop} (hh : A.handled = none)
    (hl : s.heap.PlainList a items) (hr : RpL prog w s.heap M ds items.toList) (hcf : cf = true → ¬ M a)
    (hQ : ∀ I own Co h0 s', Kp G.T s s' → Wk prog w G.T A I own (fun b => cf = true ∧ M b) M h0 tgt ds Co → Co 0 s'.heap → (∀ b o, s.heap.get? b = some o → Gr G.T h0 b o) → (∀ b o, h0.get? b = some o → Gr G.T s'.heap b o) →
      (∀ b, own b → h0.get? b = none ∧ ∃ o, s'.heap.get? b = some o) → Q (.ref I) s') : wpAny (model prog w) A (pyIter (.ref a)) Q E s := by
  refine wpAny_pyIter_list hl.isList ?_
  have hlen : ds.length = items.size := by have := hr.length; simpa using this.symm
  have hal : a < s.heap.objs.size := by obtain ⟨_, e⟩ := hl; exact Heap.lt_size e
  refine hQ s.heap.objs.size (· ∈ [s.heap.objs.size]) (fun i h => h.IsListIter s.heap.objs.size a i) s.heap _ (Kp.push _ _) ?_ ⟨_, Heap.get?_push_size _ rfl, rfl, rfl⟩ (fun _ _ e => .inl e) (fun _ _ e => .inl (Heap.get?_push_of_some _ e)) ?_
  · refine Wk.ofWalks (Walks.list hh s.heap.objs.size a (Nat.ne_of_lt hal) items) hlen (fun b hb => hb.2) ?_ (fun i h st => st.1) ?_ ?_ ?_ ?_
    · intro i h hc ha
      exact ⟨hc, (PL.gr hl fun o n e => ha a o (fun q => hcf q.1 q.2) n e).isList⟩
    · intro i h h' hc hk; exact LI.gr hc fun o n e => (hk _ o (by simp) e).nt n
    · intro i v d hp hd
      exact hr.of_get hd (by simpa using hp)
    · intro i h hc
      obtain ⟨o, ho, hcl, _⟩ := hc
      exact ⟨o, _, ho, hcl, by decide, by decide⟩
    · intro b o hb e
      simp at hb; subst hb; exact absurd (Heap.lt_size e) (Nat.lt_irrefl _)
  · intro b hb
    simp at hb; subst hb
    exact ⟨fresh_none (Nat.le_refl _), _, Heap.get?_push_size _ rfl⟩
theorem ItTo.list {tgt : Expr} {cf : Bool} {e : Expr} {ds : List PyData} (he : EvTo G k sc ρ e (.list ds)) : ItTo G k sc ρ tgt cf e ds := by
  intro A env M s Q E ho hv hr hQ
  refine he A env M s _ _ ho hv hr fun v s1 k1 r1 => ?_
  simp only [Rp] at r1
  obtain ⟨a, items, rfl, hM, hl, r1, hb⟩ := r1
  exact it_list ho.hh hl r1 (fun _ => hM) fun I own Co h0 s2 k2 W hc h1 h2 h3 => hQ I own Co h0 s2 (k1.trans k2) W hc (fun b o e => (k1.tk b o e).trans (fun c o' _ e' => h1 c o' e') (h1 b)) h2 h3
theorem ItTo.tuple {tgt : Expr} {cf : Bool} {e : Expr} {ds : List PyData} (he : EvTo G k sc ρ e (.tuple ds)) : ItTo G k sc ρ tgt cf e ds := by
  intro A env M s Q E ho hv hr hQ
  refine he A env M s _ _ ho hv hr fun v s1 k1 r1 => ?_
  simp only [Rp] at r1
  obtain ⟨a, items, rfl, hM, hl, hrr⟩ := r1
  refine wpAny_pyIter_tuple hl ?_
  have hlen : ds.length = items.size := by have := hrr.length; simpa using this.symm
  have hal : a < s1.heap.objs.size := by obtain ⟨_, e, _⟩ := hl; exact Heap.lt_size e
  refine hQ s1.heap.objs.size (· ∈ [s1.heap.objs.size]) (fun i h => h.IsTupleIter s1.heap.objs.size a i) s1.heap _ (k1.trans (Kp.push _ _)) ?_ ⟨_, Heap.get?_push_size _ rfl, rfl, rfl⟩ (fun b o e => k1.tk b o e) (fun _ _ e => .inl (Heap.get?_push_of_some _ e)) ?_
  · refine Wk.ofWalks (Walks.tuple ho.hh s1.heap.objs.size a (Nat.ne_of_lt hal) items) hlen (fun b hb => hb.2) ?_ (fun i h st => st.1) ?_ ?_ ?_ ?_
    · intro i h hc ha
      exact ⟨hc, Tup.gr hl fun o n e => ha a o (fun q => hM q.2) n e⟩
    · intro i h h' hc hk; obtain ⟨o, ho, hcl, r⟩ := hc; exact ⟨o, (hk _ o (by simp) ho).nt (.cls hcl), hcl, r⟩
    · intro i v d hp hd
      exact hrr.of_get hd (by simpa using hp)
    · intro i h hc
      obtain ⟨o, ho, hcl, _⟩ := hc
      exact ⟨o, _, ho, hcl, by decide, by decide⟩
    · intro b o hb e
      simp at hb; subst hb; exact absurd (Heap.lt_size e) (Nat.lt_irrefl _)
  · intro b hb
    simp at hb; subst hb
    exact ⟨fresh_none (Nat.le_refl _), _, Heap.get?_push_size _ rfl⟩
noncomputable def signs (x : Str) : List PyData := x.cps.toList.map fun c => .str ⟨#[c]⟩
theorem ItTo.str {tgt : Expr} {cf : Bool} {e : Expr} {x : Str} (he : EvTo G k sc ρ e (.str x)) : ItTo G k sc ρ tgt cf e (signs x) := by
  intro A env M s Q E ho hv hr hQ
  refine he A env M s _ _ ho hv hr fun v s1 k1 r1 => ?_
  simp only [Rp] at r1
  obtain ⟨t, rfl⟩ := r1
  have hlen : (signs x).length = x.cps.size := by simp [signs]
  have hPs : ∀ i v d, SignAt x i v → (signs x)[i]? = some d → Rp prog w s1.heap M d v := by
    rintro i v d ⟨c, u, hc, rfl⟩ hd
    simp only [signs, List.getElem?_map, Array.getElem?_toList, hc, Option.map_some, Option.some.injEq] at hd
    subst hd
    simp [Rp]
  have own1 : ∀ (o : Obj), o.isFreed = false → ∀ b, b ∈ [s1.heap.objs.size] → s1.heap.get? b = none ∧ ∃ o', (s1.heap.push o).get? b = some o' := by
    intro o hf b hb
    simp at hb; subst hb
    exact ⟨fresh_none (Nat.le_refl _), _, Heap.get?_push_size _ hf⟩
  have hw : ∀ b o, b ∈ [s1.heap.objs.size] → s1.heap.get? b = some o → False := by
    intro b o hb e
    simp at hb; subst hb; exact absurd (Heap.lt_size e) (Nat.lt_irrefl _)
  cases ha : x.cps.all (· < 128)
  · refine wpAny_pyIter_wide ha ?_
    refine hQ s1.heap.objs.size (· ∈ [s1.heap.objs.size]) (fun i h => h.IsStrIter s1.heap.objs.size "str_iterator" x t i) s1.heap _ (k1.trans (Kp.push _ _)) ?_ ⟨_, Heap.get?_push_size _ rfl, rfl, rfl⟩ (fun b o e => k1.tk b o e) (fun _ _ e => .inl (Heap.get?_push_of_some _ e)) (own1 _ rfl)
    refine Wk.ofWalks (Walks.strWide ho.hh s1.heap.objs.size x t) hlen (fun b hb => hb.2) (fun _ _ hc _ => hc) (fun i h st => st) ?_ hPs ?_ hw
    · intro i h h' hc hk; obtain ⟨o, ho, hcl, r⟩ := hc; exact ⟨o, (hk _ o (by simp) ho).nt (.cls hcl), hcl, r⟩
    · intro i h hc
      obtain ⟨o, ho, hcl, _⟩ := hc
      exact ⟨o, _, ho, hcl, by decide, by decide⟩
  · refine wpAny_pyIter_ascii ha ?_
    refine hQ s1.heap.objs.size (· ∈ [s1.heap.objs.size]) (fun i h => h.IsStrIter s1.heap.objs.size "str_ascii_iterator" x t i) s1.heap _ (k1.trans (Kp.push _ _)) ?_ ⟨_, Heap.get?_push_size _ rfl, rfl, rfl⟩ (fun b o e => k1.tk b o e) (fun _ _ e => .inl (Heap.get?_push_of_some _ e)) (own1 _ rfl)
    refine Wk.ofWalks (Walks.strAscii ho.hh s1.heap.objs.size x t) hlen (fun b hb => hb.2) (fun _ _ hc _ => hc) (fun i h st => st) ?_ hPs ?_ hw
    · intro i h h' hc hk; obtain ⟨o, ho, hcl, r⟩ := hc; exact ⟨o, (hk _ o (by simp) ho).nt (.cls hcl), hcl, r⟩
    · intro i h hc
      obtain ⟨o, ho, hcl, _⟩ := hc
      exact ⟨o, _, ho, hcl, by decide, by decide⟩
theorem call_type {A : Around} {env : Env} {M : Addr → Prop} {s : Shared} {Q : Value → Shared → Prop} {E : Value → Shared → Prop} {x : Str} {T : String} {p pos : Pos} {es : List Expr} {ds : List PyData} (ho : Ok k A) (hv : EnvOk sc env) (hr : VR G env M ρ s)
    (hx : sc.names.lookup x = some .globalImplicit) (hm : G.mg x = none) (hb : G.mb x = some (.type T)) (ha : EvAll G k sc ρ es ds)
    (hc : ∀ vs s', Kp G.T s s' → RpL prog w s'.heap M ds vs → wpAny (model prog w) A (call (.type T) vs) Q E s') : wpAny (model prog w) A (eval (.Call (.Name x p) es [] pos) env) Q E s := by
  have hgx := hv.kindG x hx
  refine Call_Name rfl (Calls.Name_function_global hv.kind hgx (Calls.loadGlobal_builtin (hv.glob ▸ Nsp.gr G.g (hr.bnt _)) hm (hv.blt ▸ Nsp.gr G.b (hr.bnt _)) hb ?_) (hv.dbg (by rw [hgx]; simp)))
  exact PySem.callWith_type (noStar_any ha pos env) (ha.args ho hv hr fun vs s1 k1 r1 => hc vs s1 k1 r1)
noncomputable def rangeL (a b c : Int) : List Int := (List.range (Builtin.Range.rangeSize a b c).toNat).map fun i : Nat => a + (i : Int) * c
theorem it_range {A : Around} {M : Addr → Prop} {cf : Bool} {tgt : Expr} {s : Shared} {r : Addr} {a b c : Int} {t u v : Tok} {Q : Value → Shared → Prop} {E : Value → Shared → Prop} (hh : A.handled = none)
    (hr : IsRange s.heap r a b c t u v) (hs : Builtin.Range.small a b c = true)
    (hQ : ∀ I own Co h0 s', Kp G.T s s' → Wk prog w G.T A I own (fun b => cf = true ∧ M b) M h0 tgt ((rangeL a b c).map .int) Co → Co 0 s'.heap → (∀ b o, s.heap.get? b = some o → Gr G.T h0 b o) → (∀ b o, h0.get? b = some o → Gr G.T s'.heap b o) →
      (∀ b, own b → h0.get? b = none ∧ ∃ o, s'.heap.get? b = some o) → Q (.ref I) s') : wpAny (model prog w) A (pyIter (.ref r)) Q E s := by
  refine wpAny_pyIter_range hr hs ?_
  have h0 : 0 ≤ Builtin.Range.rangeSize a b c := by
    unfold Builtin.Range.rangeSize
    split <;> split <;> first | lia | (have := Int.ediv_nonneg (a := b - a - 1) (b := c) (by lia) (by lia); lia) | (have := Int.ediv_nonneg (a := a - b - 1) (b := -c) (by lia) (by lia); lia)
  refine hQ s.heap.objs.size (· ∈ [s.heap.objs.size]) (fun i h => IsRangeIter h s.heap.objs.size (a + (i : Nat) * c) (((Builtin.Range.rangeSize a b c).toNat : Int) - (i : Nat)) c) s.heap _ (Kp.push _ _) ?_ ?_ (fun _ _ e => .inl e) (fun _ _ e => .inl (Heap.get?_push_of_some _ e)) ?_
  · refine Wk.ofWalks (Walks.range hh s.heap.objs.size a c (Builtin.Range.rangeSize a b c).toNat) (by simp [rangeL]) (fun b hb => hb.2) (fun _ _ hc _ => hc) (fun i h st => st) ?_ ?_ ?_ ?_
    · intro i h h' hc hk; exact (hk _ _ (by simp) hc).nt (.cls rfl)
    · rintro i v d ⟨t, rfl⟩ hd
      simp only [rangeL, List.map_map, List.getElem?_map] at hd
      cases hi : (List.range (Builtin.Range.rangeSize a b c).toNat)[i]? with
      | none => rw [hi] at hd; simp at hd
      | some j =>
        rw [hi] at hd
        have hj : j = i := by have := List.getElem?_eq_some_iff.mp hi; obtain ⟨h1, h2⟩ := this; simpa using h2.symm
        subst hj
        simp at hd; subst hd
        simp [Rp]
    · intro i h hc; exact ⟨_, _, hc, rfl, by decide, by decide⟩
    · intro b o hb e
      simp at hb; subst hb; exact absurd (Heap.lt_size e) (Nat.lt_irrefl _)
  · have e1 : a + ((0 : Nat) : Int) * c = a := by simp
    have e2 : ((Builtin.Range.rangeSize a b c).toNat : Int) - ((0 : Nat) : Int) = Builtin.Range.rangeSize a b c := by rw [Int.toNat_of_nonneg h0]; simp
    show IsRangeIter _ _ _ _ _
    rw [e1, e2]
    exact Heap.get?_push_size _ rfl
  · intro b hb
    simp at hb; subst hb
    exact ⟨fresh_none (Nat.le_refl _), _, Heap.get?_push_size _ rfl⟩
theorem ItTo.range1 {tgt : Expr} {cf : Bool} {x : Str} {p pos : Pos} {e : Expr} {n : Int} (hx : sc.names.lookup x = some .globalImplicit) (hm : G.mg x = none) (hb : G.mb x = some (.type "range")) (he : EvTo G k sc ρ e (.int n)) (hn : NotStar e)
    (hs : Builtin.Range.small 0 n 1 = true) : ItTo G k sc ρ tgt cf (.Call (.Name x p) [e] [] pos) ((rangeL 0 n 1).map .int) := by
  intro A env M s Q E ho hv hr hQ
  refine call_type ho hv hr hx hm hb (.cons hn he .nil) fun vs s1 k1 r1 => ?_
  obtain ⟨v, rfl, r⟩ := r1.one
  simp only [Rp] at r
  obtain ⟨t, rfl⟩ := r
  refine call_range_1 (it_range ho.hh (IsRange.new ..) hs fun I own Co h0 s2 k2 W hc h1 h2 h3 => hQ I own Co h0 s2 ((k1.trans (Kp.push _ _)).trans k2) W hc (fun b o e => ((k1.tk b o e).trans (fun c o' _ e' => h1 c o' (Heap.get?_push_of_some _ e')) fun o' e' => h1 b o' (Heap.get?_push_of_some _ e'))) h2 h3)
theorem ItTo.range2 {tgt : Expr} {cf : Bool} {x : Str} {p pos : Pos} {e1 e2 : Expr} {a b : Int} (hx : sc.names.lookup x = some .globalImplicit) (hm : G.mg x = none) (hb : G.mb x = some (.type "range")) (h1 : EvTo G k sc ρ e1 (.int a)) (h2 : EvTo G k sc ρ e2 (.int b))
    (n1 : NotStar e1) (n2 : NotStar e2) (hs : Builtin.Range.small a b 1 = true) : ItTo G k sc ρ tgt cf (.Call (.Name x p) [e1, e2] [] pos) ((rangeL a b 1).map .int) := by
  intro A env M s Q E ho hv hr hQ
  refine call_type ho hv hr hx hm hb (.cons n1 h1 (.cons n2 h2 .nil)) fun vs s1 k1 r1 => ?_
  obtain ⟨u, v, rfl, r, r'⟩ := r1.two
  simp only [Rp] at r r'
  obtain ⟨t, rfl⟩ := r
  obtain ⟨t', rfl⟩ := r'
  refine call_range_2 (it_range ho.hh (IsRange.new ..) hs fun I own Co h0 s2 k2 W hc h1 h2 h3 => hQ I own Co h0 s2 ((k1.trans (Kp.push _ _)).trans k2) W hc (fun b o e => ((k1.tk b o e).trans (fun c o' _ e' => h1 c o' (Heap.get?_push_of_some _ e')) fun o' e' => h1 b o' (Heap.get?_push_of_some _ e'))) h2 h3)
theorem RpL.three {h : Heap} {M : Addr → Prop} {d e f : PyData} {vs : List Value} (r : RpL prog w h M [d, e, f] vs) : ∃ u v x, vs = [u, v, x] ∧ Rp prog w h M d u ∧ Rp prog w h M e v ∧ Rp prog w h M f x := by
  simp only [RpL] at r
  obtain ⟨v, q, rfl, r1, u, q', rfl, r2, x, q'', rfl, r3, rfl⟩ := r
  exact ⟨v, u, x, rfl, r1, r2, r3⟩
theorem ItTo.range3 {tgt : Expr} {cf : Bool} {x : Str} {p pos : Pos} {e1 e2 e3 : Expr} {a b c : Int} (hx : sc.names.lookup x = some .globalImplicit) (hm : G.mg x = none) (hb : G.mb x = some (.type "range")) (h1 : EvTo G k sc ρ e1 (.int a)) (h2 : EvTo G k sc ρ e2 (.int b)) (h3 : EvTo G k sc ρ e3 (.int c))
    (n1 : NotStar e1) (n2 : NotStar e2) (n3 : NotStar e3) (hc0 : c ≠ 0) (hp : c.natAbs < 1073741824) (hs : Builtin.Range.small a b c = true) : ItTo G k sc ρ tgt cf (.Call (.Name x p) [e1, e2, e3] [] pos) ((rangeL a b c).map .int) := by
  intro A env M s Q E ho hv hr hQ
  refine call_type ho hv hr hx hm hb (.cons n1 h1 (.cons n2 h2 (.cons n3 h3 .nil))) fun vs s1 k1 r1 => ?_
  obtain ⟨u, v, z, rfl, r, r', r''⟩ := r1.three
  simp only [Rp] at r r' r''
  obtain ⟨t, rfl⟩ := r
  obtain ⟨t', rfl⟩ := r'
  obtain ⟨t'', rfl⟩ := r''
  refine call_range_3 hc0 (it_range ho.hh (IsRange.new ..) hs fun I own Co h0 s2 k2 W hc h1 h2 h3 => hQ I own Co h0 s2 ((k1.trans (Kp.push _ _)).trans k2) W hc (fun b o e => ((k1.tk b o e).trans (fun c o' _ e' => h1 c o' (Heap.get?_push_of_some _ e')) fun o' e' => h1 b o' (Heap.get?_push_of_some _ e'))) h2 h3) (Or.inl (PyProof.noPylong_small hp))
end
end
section
section
variable {prog : Program} {w : World} {G : Gl prog w} {k : Nat} {sc : Scope} {ρ : VEnv}
noncomputable def enumD : Nat → List PyData → List PyData
  | _, [] => []
  | i, d :: ds => .tuple [.int i, d] :: enumD (i + 1) ds
theorem enumD_length : ∀ (i : Nat) (ds : List PyData), (enumD i ds).length = ds.length
  | _, [] => rfl
  | i, _ :: ds => by simp [enumD, enumD_length (i + 1) ds]
theorem enumD_get : ∀ (n : Nat) (ds : List PyData) (i : Nat), (enumD n ds)[i]? = ds[i]?.map fun d => .tuple [.int ((n + i : Nat) : Int), d]
  | _, [], i => by simp [enumD]
  | n, d :: ds, 0 => by simp [enumD]
  | n, d :: ds, i + 1 => by
    simp only [enumD, List.getElem?_cons_succ, enumD_get (n + 1) ds i]
    have : n + 1 + i = n + (i + 1) := by lia
    rw [this]
theorem Wk.ofWalksT {T : TabS} {A : Around} {I it : Addr} {fp : List Addr} {n : Nat} {P : Nat → Value → Prop} {St Co : Nat → Heap → Prop} {Mid : Nat → Addr → Heap → Prop} {F M : Addr → Prop} {h0 : Heap} {elts : List Expr} {kk : Nat} {pos : Pos} {ds : List PyData}
    (W : WalksT prog w A I fp [I, it] n (fun i vals => ∃ t x, P i x ∧ vals = #[.int i t, x]) St Mid) (hn : ds.length = n) (hFM : ∀ b, F b → M b)
    (hSt : ∀ i h, Co i h → Agr F h0 h → St i h) (hCo : ∀ i h, St i h → Co i h) (hfr : ∀ i h h', Co i h → (∀ b o, b ∈ [I, it] → h.get? b = some o → Gr T h' b o) → Co i h')
    (hP : ∀ i v d, P i v → ds[i]? = some d → Rp prog w h0 M d v) (hw : ∀ b o, b ∈ [I, it] → h0.get? b = some o → False) (hal : ∀ i h, Co i h → ∀ b, b ∈ [I, it] → ∃ o, h.get? b = some o ∧ ¬ IsCo o) :
    Wk prog w T A I (· ∈ [I, it]) F M h0 (.Tuple elts kk pos) (enumD 0 ds) Co :=
  have noCo : ∀ {i h}, Co i h → ∀ b o, b ∈ [I, it] → h.get? b = some o → ¬ IsCo o := by
    intro i h hc b o hb e
    obtain ⟨o', ho, hn⟩ := hal i h hc b hb
    rw [e] at ho; cases ho; exact hn
  { frame := hfr
    alive := fun i h hc b hb => let ⟨o, ho, _⟩ := hal i h hc b hb; ⟨o, ho⟩
    item := by
      intro i d M' s Q E hd hc ha hM hdom hQ
      rw [enumD_get] at hd
      cases hdi : ds[i]? with
      | none => rw [hdi] at hd; simp at hd
      | some d' =>
      rw [hdi] at hd
      simp at hd; subst hd
      have hlt : i < n := by rw [← hn]; exact (List.getElem?_eq_some_iff.mp hdi).1
      refine W.item i s _ _ hlt (hSt i _ hc ha) fun T' vals h' tk hp hT htup hmid hk => ?_
      obtain ⟨t, x, hp, rfl⟩ := hp
      have hap := W.apart i T' h' hmid
      refine W.go elts kk pos i T' _ _ _ hmid fun h'' hst hk2 => hQ _ _ (.mk' ⟨_, _, rfl⟩ (fun b o hb e => hk2 b o hb (hk b o hb e)) (noCo hc)) (hCo _ _ hst) ?_
      have r0 := hP i x d' hp hdi
      have r1 : Rp prog w h0 (fun b => M b ∨ M' b) d' x := Rp.sub (fun a o e q => q.elim id (hM a o e)) _ _ r0
      have r2 : Rp prog w h'' (fun b => M b ∨ M' b) d' x := Rp.agr (fun b o hb n e => hk2 b o (fun q => hw b o q e) (hk b o (fun q => hw b o q e) (ha b o (fun q => hb (.inl (hFM b q))) n e))) _ _ r1
      have r3 : Rp prog w h'' M' d' x := Rp.sub (fun a o e q => .inr q) _ _ r2
      simp only [Rp, RpL]
      exact ⟨T', #[.int i t, x], rfl, fun q => by obtain ⟨o, e⟩ := hdom T' q; exact absurd (Heap.lt_size e) (Nat.not_lt.mpr hT), Tup.gr htup fun o _ e => hk2 T' o hap e, _, _, rfl, ⟨_, rfl⟩, _, _, rfl, r3, rfl⟩
    done := by
      intro s Q E hc ha hQ
      rw [enumD_length] at hc
      exact W.done s _ _ (hn ▸ hSt _ _ hc ha) fun h' tk hk => hQ _ (.mk' ⟨_, _, rfl⟩ (fun b o hb e => hk b o hb e) (noCo hc))
    self := fun i s Q E hc ha hQ => W.self i s Q E (hSt _ _ hc ha) hQ }
theorem Ok.in1 {k : Nat} {A : Around} (o : Ok k A) : A.in1.handled = none := o.hh
theorem ItTo.enumL {x : Str} {p pos : Pos} {cf : Bool} {e : Expr} {ds : List PyData} {elts : List Expr} {kk : Nat} {tp : Pos} (hx : sc.names.lookup x = some .globalImplicit) (hm : G.mg x = none) (hb : G.mb x = some (.type "enumerate")) (he : EvTo G k sc ρ e (.list ds)) (hn : NotStar e) :
    ItTo G k sc ρ (.Tuple elts kk tp) cf (.Call (.Name x p) [e] [] pos) (enumD 0 ds) := by
  intro A env M s Q E ho hv hr hQ
  refine call_type ho hv hr hx hm hb (.cons hn he .nil) fun vs s1 k1 r1 => ?_
  obtain ⟨v, rfl, r⟩ := r1.one
  simp only [Rp] at r
  obtain ⟨a, items, rfl, hM, hl, rr, hbd⟩ := r
  refine call_enumerate_list hl.isList fun h' hen hit hsz hk => ?_
  have hlen : ds.length = items.size := by have := rr.length; simpa using this.symm
  have hal : a < s1.heap.objs.size := by obtain ⟨_, e⟩ := hl; exact Heap.lt_size e
  refine wpAny_pyIter_enum hen ?_
  refine hQ (s1.heap.objs.size + 1) (· ∈ [s1.heap.objs.size + 1, s1.heap.objs.size]) (fun i h => (∃ old, IsEnum h (s1.heap.objs.size + 1) s1.heap.objs.size i old) ∧ h.IsListIter s1.heap.objs.size a i) s1.heap _ (k1.trans (Kp.mk' (t := s1.toks) hk)) ?_ ⟨⟨_, hen⟩, hit⟩ (fun b o e => k1.tk b o e) (fun b o e => .inl (hk b o e)) ?_
  · have hne : s1.heap.objs.size + 1 ≠ s1.heap.objs.size := Nat.succ_ne_self _
    have W := WalksT.enumerateD (Draws.list (prog := prog) (w := w) (A := A.in1) ho.in1 s1.heap.objs.size a (Nat.ne_of_lt hal) items) (s1.heap.objs.size + 1) hne (by
      intro hm; rcases List.mem_cons.mp hm with h | h
      · exact hne h
      · have := List.mem_singleton.mp h; rw [← this] at hal; exact Nat.not_succ_lt_self hal) (by simp)
    refine Wk.ofWalksT (fp := _) W hlen (fun b hb => hb.2) ?_ (fun i h st => ⟨st.1, st.2.1⟩) ?_ ?_ ?_ ?_
    · intro i h hc ha
      exact ⟨hc.1, hc.2, (PL.gr hl fun o n e => ha a o (fun q => hM q.2) n e).isList⟩
    · rintro i h h2 ⟨⟨old, hc⟩, hc2⟩ hk
      exact ⟨⟨old, (hk _ _ (by simp) hc).nt (.cls rfl)⟩, LI.gr hc2 fun o n e => (hk _ o (by simp) e).nt n⟩
    · intro i v d hp hd
      exact rr.of_get hd (by simpa using hp)
    · intro b o hb e
      have hlt := Heap.lt_size e
      rcases List.mem_cons.mp hb with h | h
      · subst h; exact Nat.not_succ_lt_self hlt
      · have := List.mem_singleton.mp h; subst this; exact Nat.lt_irrefl _ hlt
    · rintro i h ⟨⟨old, hc⟩, hc2⟩ b hb
      rcases List.mem_cons.mp hb with q | q
      · subst q; exact ⟨_, hc, notCo rfl (by decide)⟩
      · rw [List.mem_singleton.mp q]; obtain ⟨o, ho, hcl, _⟩ := hc2; exact ⟨o, ho, notCo hcl (by decide)⟩
  · intro b hb
    rcases List.mem_cons.mp hb with h | h
    · subst h; exact ⟨fresh_none (Nat.le_succ _), _, hen⟩
    · have := List.mem_singleton.mp h; subst this
      obtain ⟨o, ho, _⟩ := hit
      exact ⟨fresh_none (Nat.le_refl _), o, ho⟩
theorem ItTo.enumS {x : Str} {p pos : Pos} {cf : Bool} {e : Expr} {y : Str} {elts : List Expr} {kk : Nat} {tp : Pos} (hx : sc.names.lookup x = some .globalImplicit) (hm : G.mg x = none) (hb : G.mb x = some (.type "enumerate")) (he : EvTo G k sc ρ e (.str y)) (hn : NotStar e) :
    ItTo G k sc ρ (.Tuple elts kk tp) cf (.Call (.Name x p) [e] [] pos) (enumD 0 (signs y)) := by
  intro A env M s Q E ho hv hr hQ
  refine call_type ho hv hr hx hm hb (.cons hn he .nil) fun vs s1 k1 r1 => ?_
  obtain ⟨v, rfl, r⟩ := r1.one
  simp only [Rp] at r
  obtain ⟨t, rfl⟩ := r
  refine call_enumerate_str fun h' hen hit hsz hk => ?_
  have hlen : (signs y).length = y.cps.size := by simp [signs]
  refine wpAny_pyIter_enum hen ?_
  refine hQ (s1.heap.objs.size + 1) (· ∈ [s1.heap.objs.size + 1, s1.heap.objs.size]) (fun i h => (∃ old, IsEnum h (s1.heap.objs.size + 1) s1.heap.objs.size i old) ∧ h.IsStrIter s1.heap.objs.size (strIterType y) y t i) s1.heap _ (k1.trans (Kp.mk' (t := s1.toks) hk)) ?_ ⟨⟨_, hen⟩, hit⟩ (fun b o e => k1.tk b o e) (fun b o e => .inl (hk b o e)) ?_
  · have hne : s1.heap.objs.size + 1 ≠ s1.heap.objs.size := Nat.succ_ne_self _
    have hef : s1.heap.objs.size + 1 ∉ [s1.heap.objs.size] := by simp
    have hPs : ∀ (i : Nat) (v : Value) (d : PyData), (∃ c u, y.cps[i]? = some c ∧ v = .str ⟨#[c]⟩ u) → (signs y)[i]? = some d → Rp prog w s1.heap M d v := by
      rintro i v d ⟨c, u, hc, rfl⟩ hd
      simp only [signs, List.getElem?_map, Array.getElem?_toList, hc, Option.map_some, Option.some.injEq] at hd
      subst hd
      simp [Rp]
    have hw : ∀ b o, b ∈ [s1.heap.objs.size + 1, s1.heap.objs.size] → s1.heap.get? b = some o → False := by
      intro b o hb e
      have hlt := Heap.lt_size e
      rcases List.mem_cons.mp hb with h | h
      · subst h; exact Nat.not_succ_lt_self hlt
      · have := List.mem_singleton.mp h; subst this; exact Nat.lt_irrefl _ hlt
    cases ha : y.cps.all (· < 128)
    · have hty : strIterType y = "str_iterator" := by unfold strIterType; simp [ha]
      rw [hty]
      have W := WalksT.enumerateD (Draws.strWide (prog := prog) (w := w) (A := A.in1) ho.in1 s1.heap.objs.size y t) (s1.heap.objs.size + 1) hne hef (by simp)
      refine Wk.ofWalksT (fp := _) W hlen (fun b hb => hb.2) (fun i h hc ha => ⟨hc.1, hc.2⟩) (fun i h st => ⟨st.1, st.2⟩) ?_ hPs hw ?_
      · rintro i h h2 ⟨⟨old, hc⟩, hc2⟩ hk
        exact ⟨⟨old, (hk _ _ (by simp) hc).nt (.cls rfl)⟩, let ⟨o, ho, hcl, r⟩ := hc2; ⟨o, (hk _ o (by simp) ho).nt (.cls hcl), hcl, r⟩⟩
      · rintro i h ⟨⟨old, hc⟩, hc2⟩ b hb
        rcases List.mem_cons.mp hb with q | q
        · subst q; exact ⟨_, hc, notCo rfl (by decide)⟩
        · rw [List.mem_singleton.mp q]; obtain ⟨o, ho, hcl, _⟩ := hc2; exact ⟨o, ho, notCo hcl (by decide)⟩
    · have hty : strIterType y = "str_ascii_iterator" := by unfold strIterType; simp [ha]
      rw [hty]
      have W := WalksT.enumerateD (Draws.strAscii (prog := prog) (w := w) (A := A.in1) ho.in1 s1.heap.objs.size y t) (s1.heap.objs.size + 1) hne hef (by simp)
      refine Wk.ofWalksT (fp := _) W hlen (fun b hb => hb.2) (fun i h hc ha => ⟨hc.1, hc.2⟩) (fun i h st => ⟨st.1, st.2⟩) ?_ hPs hw ?_
      · rintro i h h2 ⟨⟨old, hc⟩, hc2⟩ hk
        exact ⟨⟨old, (hk _ _ (by simp) hc).nt (.cls rfl)⟩, let ⟨o, ho, hcl, r⟩ := hc2; ⟨o, (hk _ o (by simp) ho).nt (.cls hcl), hcl, r⟩⟩
      · rintro i h ⟨⟨old, hc⟩, hc2⟩ b hb
        rcases List.mem_cons.mp hb with q | q
        · subst q; exact ⟨_, hc, notCo rfl (by decide)⟩
        · rw [List.mem_singleton.mp q]; obtain ⟨o, ho, hcl, _⟩ := hc2; exact ⟨o, ho, notCo hcl (by decide)⟩
  · intro b hb
    rcases List.mem_cons.mp hb with h | h
    · subst h; exact ⟨fresh_none (Nat.le_succ _), _, hen⟩
    · have := List.mem_singleton.mp h; subst this
      obtain ⟨o, ho, _⟩ := hit
      exact ⟨fresh_none (Nat.le_refl _), o, ho⟩
theorem ItTo.rev {tgt : Expr} {x : Str} {p pos : Pos} {cf : Bool} {e : Expr} {ds : List PyData} (hx : sc.names.lookup x = some .globalImplicit) (hm : G.mg x = none) (hb : G.mb x = some (.type "reversed")) (he : EvTo G k sc ρ e (.list ds)) (hn : NotStar e) :
    ItTo G k sc ρ tgt cf (.Call (.Name x p) [e] [] pos) ds.reverse := by
  intro A env M s Q E ho hv hr hQ
  refine call_type ho hv hr hx hm hb (.cons hn he .nil) fun vs s1 k1 r1 => ?_
  obtain ⟨v, rfl, r⟩ := r1.one
  simp only [Rp] at r
  obtain ⟨a, items, rfl, hM, hl, rr, hbd⟩ := r
  refine call_reversed_list hl.isList ?_
  have hlen : ds.length = items.size := by have := rr.length; simpa using this.symm
  have hal : a < s1.heap.objs.size := by obtain ⟨_, e⟩ := hl; exact Heap.lt_size e
  have hit : (s1.heap.push (revObj a ((items.size : Int) - 1))).IsRevIter s1.heap.objs.size a ((items.size : Int) - 1 - ((0 : Nat) : Int)) := by
    rw [show (items.size : Int) - 1 - ((0 : Nat) : Int) = (items.size : Int) - 1 by simp]
    exact ⟨_, Heap.get?_push_size _ rfl, rfl, rfl⟩
  refine wpAny_pyIter_revIter hit ?_
  refine hQ s1.heap.objs.size (· ∈ [s1.heap.objs.size]) (fun i h => i ≤ items.size ∧ h.IsRevIter s1.heap.objs.size a ((items.size : Int) - 1 - (i : Int))) s1.heap _ (k1.trans (Kp.push _ _)) ?_ ⟨Nat.zero_le _, hit⟩ (fun b o e => k1.tk b o e) (fun _ _ e => .inl (Heap.get?_push_of_some _ e)) ?_
  · refine Wk.ofWalks (Walks.listRev ho.hh s1.heap.objs.size a (Nat.ne_of_lt hal) items) (by rw [List.length_reverse]; exact hlen) (fun b hb => hb.2) ?_ (fun i h st => ⟨st.1, st.2.1⟩) ?_ ?_ ?_ ?_
    · intro i h hc ha
      exact ⟨hc.1, hc.2, (PL.gr hl fun o n e => ha a o (fun q => hM q.2) n e).isList⟩
    · intro i h h' hc hk; exact ⟨hc.1, let ⟨o, ho, hcl, r⟩ := hc.2; ⟨o, (hk _ o (by simp) ho).nt (.cls hcl), hcl, r⟩⟩
    · intro i v d hp hd
      have hi : i < ds.length := by have := (List.getElem?_eq_some_iff.mp hd).1; simpa using this
      rw [List.getElem?_reverse hi] at hd
      rw [← hlen] at hp
      exact rr.of_get hd (by simpa using hp)
    · intro i h hc
      obtain ⟨o, ho, hcl, _⟩ := hc.2
      exact ⟨o, _, ho, hcl, by decide, by decide⟩
    · intro b o hb e
      simp at hb; subst hb; exact absurd (Heap.lt_size e) (Nat.lt_irrefl _)
  · intro b hb
    simp at hb; subst hb
    exact ⟨fresh_none (Nat.le_refl _), _, Heap.get?_push_size _ rfl⟩
theorem RpD.get {h : Heap} {M : Addr → Prop} : ∀ {D : List (PyData × PyData)} {kvs : List (Str × Value)}, RpD prog w h M D kvs → ∀ {i : Nat} {kd : PyData × PyData}, D[i]? = some kd → ∃ x v, kvs[i]? = some (x, v) ∧ kd.1 = .str x ∧ Rp prog w h M kd.2 v
  | d :: ds, _, r, i, d', e => by
    simp only [RpD] at r
    obtain ⟨x, v, q, rfl, h0, h1, h2⟩ := r
    cases i with
    | zero => simp at e; subst e; exact ⟨x, v, rfl, h0, h1⟩
    | succ i => simpa using RpD.get h2 (by simpa using e)
theorem RpD.length {h : Heap} {M : Addr → Prop} : ∀ {D : List (PyData × PyData)} {kvs : List (Str × Value)}, RpD prog w h M D kvs → kvs.length = D.length
  | [], _, r => by simp only [RpD] at r; subst r; rfl
  | d :: ds, _, r => by
    simp only [RpD] at r
    obtain ⟨x, v, q, rfl, h0, h1, h2⟩ := r
    simp [RpD.length h2]
theorem letGo_str {A : Around} {tgt : Expr} {I : Addr} {x : Str} {t : Tok} {s : Shared} {Q : Unit → Shared → Prop} {E : Value → Shared → Prop} (h : Q () s) : wpAny (model prog w) A (letOwnedTupleGo tgt (.ref I) (.str x t)) Q E s := by
  unfold letOwnedTupleGo
  cases tgt <;> exact wpAny_pure h
theorem ItTo.dict {tgt : Expr} {cf : Bool} {e : Expr} {D : List (PyData × PyData)} (he : EvTo G k sc ρ e (.dict D)) : ItTo G k sc ρ tgt cf e (D.map (·.1)) := by
  intro A env M s Q E ho hv hr hQ
  refine he A env M s _ _ ho hv hr fun v s1 k1 r1 => ?_
  simp only [Rp] at r1
  obtain ⟨a, kvs, rfl, hM, hsm, hd, rr, hbd⟩ := r1
  obtain ⟨ep, hda⟩ := hd.dictAt
  refine wpAny_pyIter_dict hsm hda ?_
  have hlen := rr.length
  have hal : a < s1.heap.objs.size := hda.lt_size
  refine hQ s1.heap.objs.size (· = s1.heap.objs.size) (fun i h => h.IsKeyIter s1.heap.objs.size a i kvs.length ep) s1.heap _ (k1.trans (Kp.push _ _)) ?_ ⟨_, Heap.get?_push_size _ rfl, rfl, rfl⟩ (fun b o e => k1.tk b o e) (fun _ _ e => .inl (Heap.get?_push_of_some _ e)) ?_
  · have hda' : ∀ {h : Heap}, Agr (fun b => cf = true ∧ M b) s1.heap h → h.DictAt (strKind prog w) a kvs ep := by
      intro h ha
      obtain ⟨o, es, ho, r⟩ := hda
      exact ⟨o, es, ha a o (fun q => hM q.2) (.dict r.2.1) ho, r⟩
    have nc : ∀ {h : Heap} {i : Nat}, h.IsKeyIter s1.heap.objs.size a i kvs.length ep → ∀ b o, b = s1.heap.objs.size → h.get? b = some o → ¬ IsCo o := by
      intro h i hc b o hb e
      obtain ⟨o', ho', hcl, _⟩ := hc
      rw [hb, ho'] at e; cases e
      exact notCo hcl (by decide)
    refine ⟨?_, ?_, ?_, ?_, ?_⟩
    · intro i h h' hc hk; obtain ⟨o, ho, hcl, r⟩ := hc; exact ⟨o, (hk _ o rfl ho).nt (.cls hcl), hcl, r⟩
    · intro i h hc b hb; subst hb; obtain ⟨o, ho, r⟩ := hc; exact ⟨o, ho⟩
    · intro i d M' s2 Q' E' hd2 hc ha hM' hdom hQ'
      simp only [List.getElem?_map] at hd2
      cases hdi : D[i]? with
      | none => rw [hdi] at hd2; simp at hd2
      | some kd =>
        rw [hdi] at hd2
        simp at hd2; subst hd2
        obtain ⟨x, v, hxv, hk1, _⟩ := rr.get hdi
        refine wpAny_pyNext_dict_item hc (hda' ha) hxv fun key h' hkey hc' hs => ?_
        obtain ⟨t, rfl⟩ := Value.isStrOf_shape hkey
        refine letGo_str (hQ' _ _ (.mk' ⟨_, _, rfl⟩ (fun b o hb e => hs.extBut b o hb e) (nc hc)) hc' ?_)
        rw [hk1]; simp [Rp]
    · intro s2 Q' E' hc ha hQ'
      refine wpAny_pyNext_dict_end ho.hh hc (hda' ha) ?_ fun h' hs => hQ' _ (.mk' ⟨_, _, rfl⟩ (fun b o hb e => hs b o hb e) (nc hc))
      rw [List.getElem?_eq_none_iff]; simp [hlen]
    · intro i s2 Q' E' hc ha hQ'
      obtain ⟨o, ho', hcl, hdt⟩ := id hc
      have hT := hc.typeIs
      refine wpAny_pyIter_slot hT F.slot_dict_keyiterator_iter (wpAny_call_entry F.slot_dict_keyiterator_iter hT F.entry_dict_keyiterator_iter ?_ (F.args_dict_keyiterator_iter_1 _))
      show wpAny _ _ (ret (.ref _)) _ _ s2
      exact wpAny_pure ⟨_, rfl, "dict_keyiterator", _, hT, F.slot_dict_keyiterator_next.lookup, hQ'⟩
  · intro b hb
    subst hb
    exact ⟨fresh_none (Nat.le_refl _), _, Heap.get?_push_size _ rfl⟩
end
end
section
section
variable {prog : Program} {w : World} {G : Gl prog w} {k : Nat} {sc : Scope} {ρ : VEnv}
structure FE (sc : Scope) (env : Env) (Wc : Addr → Prop) (h : Heap) : Prop where
  loc : ∃ m, h.Ns env.locals m
  wl : Wc env.locals
  cel : ∀ x, sc.names.lookup x = some .cell → env.kindOf x = some .cell ∧ ∃ c vo, env.cells.lookup x = some c ∧ h.IsCell c vo ∧ Wc c ∧ c ≠ env.locals ∧ ∀ y, env.cells.lookup y = some c → y = x
  wdata : ∀ a o, Wc a → h.get? a = some o → a = env.locals ∨ (∃ v, o.data = .cell v)
theorem FE.nt {env : Env} {Wc : Addr → Prop} {h : Heap} (f : FE sc env Wc h) {a : Addr} {o : Obj} (ha : Wc a) (e : h.get? a = some o) : NT o := by
  obtain ⟨m, om, es, ep, hom, hdm, _⟩ := f.loc
  rcases f.wdata a o ha e with q | ⟨v, q⟩
  · subst q; rw [hom] at e; cases e; exact .dict hdm
  · exact .cell q
theorem FE.noCo {env : Env} {Wc : Addr → Prop} {h : Heap} (f : FE sc env Wc h) : ∀ a o, Wc a → h.get? a = some o → ¬ IsCo o := by
  intro a o ha e
  obtain ⟨m, om, es, ep, hom, hdm, _⟩ := f.loc
  rcases f.wdata a o ha e with q | ⟨v, q⟩
  · subst q; rw [hom] at e; cases e; exact notCoD hdm
  · exact notCoC q
theorem FE.keeps {env : Env} {Wc : Addr → Prop} {h h' : Heap} (f : FE sc env Wc h) (hk : ∀ b o, NT o → h.get? b = some o → h'.get? b = some o) (hW : ∀ a, Wc a → ∃ o, h.get? a = some o) : FE sc env Wc h' := by
  refine ⟨let ⟨m, hm⟩ := f.loc; ⟨m, Nsp.gr hm (hk _)⟩, f.wl, fun x hx => let ⟨a, c, vo, h1, h2, r⟩ := f.cel x hx; ⟨a, c, vo, h1, Cel.gr h2 (hk _), r⟩, fun a o ha e => ?_⟩
  obtain ⟨o', e'⟩ := hW a ha
  obtain ⟨m, om, es, ep, hom, hdm, _⟩ := f.loc
  have nt : NT o' := by
    rcases f.wdata a o' ha e' with q | ⟨v, q⟩
    · subst q; rw [hom] at e'; cases e'; exact .dict hdm
    · exact .cell q
  have := hk a o' nt e'
  rw [this] at e; cases e
  exact f.wdata a o ha e'
noncomputable def OwnName (sc : Scope) (x : Str) : Prop := sc.names.lookup x = some .local ∨ sc.names.lookup x = some .cell
theorem FE.store (G : Gl prog w) {A : Around} {env : Env} {Wc : Addr → Prop} {s : Shared} {x : Str} {v : Value} {Q : Unit → Shared → Prop} {E : Value → Shared → Prop} (f : FE sc env Wc s.heap) (hv : EnvOk sc env) (hx : OwnName sc x)
    (hW : ∀ a, Wc a → ∃ o, s.heap.get? a = some o)
    (h : ∀ s', FE sc env Wc s'.heap → KB G.T Wc s s' → (∀ a, Wc a → ∃ o, s'.heap.get? a = some o) → Acc env s'.heap x v → (∀ y u, y ≠ x → Acc env s.heap y u → Acc env s'.heap y u) → Q () s') :
    wpAny (model prog w) A (storeName env x v) Q E s := by
  rcases hx with hx | hx
  · have hl := hv.kindL x hx
    obtain ⟨m, hm⟩ := f.loc
    obtain ⟨oL, es, ep, hoL, hdL, rL⟩ := id hm
    refine wpAny_storeName_local hl hm (fun h' hn hs => ?_) (by rw [hv.kind]; rfl)
    obtain ⟨oL', es', ep', hoL', hdL', rL'⟩ := id hn
    have hk : ∀ b o, b ≠ env.locals → s.heap.get? b = some o → h'.get? b = some o := fun b o hb e => (hs.2 b hb).trans e
    refine h _ ⟨⟨_, hn⟩, f.wl, fun y hy => ?_, fun a o ha e => ?_⟩ (.mk' ⟨h', _, rfl⟩ (fun b o hb e => hk b o (fun q => hb (q ▸ f.wl)) e) f.noCo) (fun a ha => ?_) (.inl ⟨hl, _, hn, by simp⟩) fun y u hy hacc => ?_
    · obtain ⟨a, c, vo, h1, h2, h3, h4, h5⟩ := f.cel y hy
      exact ⟨a, c, vo, h1, Cel.gr h2 fun o _ e => hk _ o h4 e, h3, h4, h5⟩
    · by_cases he : a = env.locals
      · exact .inl he
      · exact f.wdata a o ha (by rw [← hs.2 a he]; exact e)
    · by_cases he : a = env.locals
      · subst he; exact ⟨_, hoL'⟩
      · obtain ⟨o, e⟩ := hW a ha; exact ⟨o, hk a o he e⟩
    · rcases hacc with ⟨hly, m', hm', hv'⟩ | ⟨hky, c, hc, hi⟩
      · refine .inl ⟨hly, _, hn, ?_⟩
        simp only [if_neg hy]
        rw [← hv']
        obtain ⟨o1, e1, p1, ho1, hd1, k1, n1⟩ := hm'
        obtain ⟨k2, n2⟩ := rL
        rw [hoL] at ho1; cases ho1
        rw [hdL] at hd1; cases hd1
        rw [← n1 y, ← n2 y]
      · refine .inr ⟨hky, c, hc, Cel.gr hi fun o _ e => hk _ o ?_ e⟩
        rintro rfl
        obtain ⟨o, ho, hd⟩ := hi
        rw [hoL] at ho; cases ho
        rw [hdL] at hd; cases hd
  · obtain ⟨hkc, c, vo, hc, hi, hwc, hcl, huniq⟩ := f.cel x hx
    refine wpAny_storeName_cell hv.kind hkc hc hi fun h' hi' hs => ?_
    have hk : ∀ b o, b ≠ c → s.heap.get? b = some o → h'.get? b = some o := fun b o hb e => (hs.2 b hb).trans e
    obtain ⟨m, hm⟩ := f.loc
    obtain ⟨oc, hoc, hdc⟩ := id hi
    obtain ⟨oc', hoc', hdc'⟩ := id hi'
    refine h { s with heap := h' } ⟨⟨m, hm.at' fun o e => hk _ o (Ne.symm hcl) e⟩, f.wl, fun y hy => ?_, fun a o ha e => ?_⟩ (.mk' ⟨h', s.toks, rfl⟩ (fun b o hb e => hk b o (fun q => hb (q ▸ hwc)) e) f.noCo) (fun a ha => ?_) (.inr ⟨.inl hkc, c, hc, hi'⟩) fun y u hy hacc => ?_
    · obtain ⟨a, c2, vo2, h1, h2, h3, h4, h5⟩ := f.cel y hy
      by_cases he : c2 = c
      · subst he; exact ⟨a, c2, _, h1, hi', h3, h4, h5⟩
      · exact ⟨a, c2, vo2, h1, Cel.gr h2 fun o _ e => hk _ o he e, h3, h4, h5⟩
    · by_cases he : a = c
      · subst he; rw [hoc'] at e; cases e; exact .inr ⟨_, hdc'⟩
      · exact f.wdata a o ha (by rw [← hs.2 a he]; exact e)
    · by_cases he : a = c
      · subst he; exact ⟨_, hoc'⟩
      · obtain ⟨o, e⟩ := hW a ha; exact ⟨o, hk a o he e⟩
    · rcases hacc with ⟨hly, m', hm', hv'⟩ | ⟨hky, c2, hc2, hi2⟩
      · exact .inl ⟨hly, m', hm'.at' fun o e => hk _ o (Ne.symm hcl) e, hv'⟩
      · refine .inr ⟨hky, c2, hc2, Cel.gr hi2 fun o _ e => hk _ o ?_ e⟩
        rintro rfl
        exact hy (huniq y hc2)
end
end
section
inductive NotIn (y : Str) : VEnv → Prop
  | nil : NotIn y []
  | cons {z b r} : z ≠ y → NotIn y r → NotIn y ((z, b) :: r)
theorem NotIn.not {y : Str} {ρ : VEnv} (h : NotIn y ρ) : ∀ b, (y, b) ∉ ρ := by
  induction h with
  | nil => intro b hb; cases hb
  | cons hz _ ih => intro b hb; rcases List.mem_cons.mp hb with e | e
                    · cases e; exact hz rfl
                    · exact ih b e
theorem NotIn.notmem {y : Str} {ρ : VEnv} (h : NotIn y ρ) : y ∉ ρ.map (·.1) := by
  intro hm
  obtain ⟨⟨a, b⟩, hp, rfl⟩ := List.mem_map.mp hm
  exact h.not b hp
inductive Upd (y : Str) (b : B) : VEnv → VEnv → Prop
  | fresh {ρ} : NotIn y ρ → Upd y b ρ ((y, b) :: ρ)
  | here {c r} : Upd y b ((y, c) :: r) ((y, b) :: r)
  | skip {z c r r'} : z ≠ y → Upd y b r r' → Upd y b ((z, c) :: r) ((z, c) :: r')
theorem Upd.names {y : Str} {b : B} {ρ ρ' : VEnv} (h : Upd y b ρ ρ') : ∀ z, z ∈ ρ'.map (·.1) → z = y ∨ z ∈ ρ.map (·.1) := by
  induction h with
  | fresh _ => intro z hz; simpa using hz
  | here =>
    intro z hz
    simp only [List.map_cons, List.mem_cons] at hz ⊢
    rcases hz with e | e
    · exact .inl e
    · exact .inr (.inr e)
  | @skip z c r r' _ _ ih =>
    intro x hx
    simp only [List.map_cons, List.mem_cons] at hx ⊢
    rcases hx with rfl | hx
    · exact .inr (.inl rfl)
    · rcases ih x hx with e | e
      · exact .inl e
      · exact .inr (.inr e)
theorem Upd.nodup {y : Str} {b : B} {ρ ρ' : VEnv} (h : Upd y b ρ ρ') : (ρ.map (·.1)).Nodup → (ρ'.map (·.1)).Nodup := by
  induction h with
  | fresh hn => intro h; exact List.nodup_cons.mpr ⟨hn.notmem, h⟩
  | here => intro h; simpa using h
  | @skip z c r r' hz hu ih =>
    intro h
    simp only [List.map_cons, List.nodup_cons] at h ⊢
    refine ⟨fun hm => ?_, ih h.2⟩
    rcases hu.names z hm with e | e
    · exact hz e
    · exact h.1 e
theorem Upd.ent {y : Str} {b : B} {ρ ρ' : VEnv} (h : Upd y b ρ ρ') : (ρ.map (·.1)).Nodup → ∀ x c, (x, c) ∈ ρ' → (x = y ∧ c = b) ∨ (x ≠ y ∧ (x, c) ∈ ρ) := by
  induction h with
  | fresh hn =>
    intro _ x c hx
    rcases List.mem_cons.mp hx with e | e
    · cases e; exact .inl ⟨rfl, rfl⟩
    · exact .inr ⟨fun q => hn.not c (q ▸ e), e⟩
  | here =>
    intro h x c hx
    rcases List.mem_cons.mp hx with e | e
    · cases e; exact .inl ⟨rfl, rfl⟩
    · refine .inr ⟨fun q => ?_, List.mem_cons_of_mem _ e⟩
      simp only [List.map_cons, List.nodup_cons] at h
      exact h.1 (List.mem_map.mpr ⟨_, e, q⟩)
  | @skip z c r r' hz hu ih =>
    intro h x d hx
    simp only [List.map_cons, List.nodup_cons] at h
    rcases List.mem_cons.mp hx with e | e
    · cases e; exact .inr ⟨hz, List.mem_cons_self⟩
    · rcases ih h.2 x d e with q | ⟨q, q'⟩
      · exact .inl q
      · exact .inr ⟨q, List.mem_cons_of_mem _ q'⟩
section
variable {prog : Program} {w : World} {G : Gl prog w} {k : Nat} {sc : Scope} {ρ : VEnv}
theorem Ns.det {h : Heap} {a : Addr} {m m' : Str → Option Value} (x : h.Ns a m) (y : h.Ns a m') (n : Str) : m n = m' n := by
  obtain ⟨o, e, p, ho, hd, k, q⟩ := x
  obtain ⟨o', e', p', ho', hd', k', q'⟩ := y
  rw [ho] at ho'; cases ho'
  rw [hd] at hd'; cases hd'
  rw [← q n, ← q' n]
theorem Acc.det {env : Env} {h : Heap} {x : Str} {u v : Value} (a : Acc env h x u) (b : Acc env h x v) : u = v := by
  rcases a with ⟨a, m, hm, hx⟩ | ⟨a, c, hc, o, ho, hd⟩ <;> rcases b with ⟨b, m', hm', hx'⟩ | ⟨b, c', hc', o', ho', hd'⟩
  · have := Ns.det hm hm' x; rw [hx, hx'] at this; exact Option.some.inj this
  · rw [a] at b; rcases b with b | b <;> cases b
  · rw [b] at a; rcases a with a | a <;> cases a
  · rw [hc] at hc'; cases hc'
    rw [ho] at ho'; cases ho'
    rw [hd] at hd'; cases hd'; rfl
noncomputable def B.isMu : B → Prop
  | .mu _ => True
  | .mud _ => True
  | _ => False
structure Fm (G : Gl prog w) (sc : Scope) (env : Env) (Wc Z M : Addr → Prop) (ρ : VEnv) (s : Shared) : Prop where
  fe : FE sc env Wc s.heap
  vr : VR G env M ρ s
  sub : ∀ a, Wc a → M a
  nb : ∀ a, Wc a → G.hB.get? a = none
  ym : ∀ x b, (x, b) ∈ ρ → b.isMu → ∃ a, Acc env s.heap x (.ref a) ∧ Z a
  cz : ∀ x c, env.cells.lookup x = some c → Wc c ∨ Z c
  zs : ∀ a, Z a → M a
theorem Fm.keeps {env : Env} {Wc Z M : Addr → Prop} {s s' : Shared} (f : Fm G sc env Wc Z M ρ s) (k : Kp G.T s s') : Fm G sc env Wc Z M ρ s' :=
  ⟨f.fe.keeps k.nt fun a ha => f.vr.dom a (f.sub a ha), f.vr.keeps k, f.sub, f.nb, fun x b hx hb => let ⟨a, h1, h2⟩ := f.ym x b hx hb; ⟨a, h1.keeps k.nt, h2⟩, f.cz, f.zs⟩
theorem Fm.weak {env : Env} {Wc Z M : Addr → Prop} {ρ' : VEnv} {s : Shared} (f : Fm G sc env Wc Z M ρ' s) (h : ∀ p, p ∈ ρ → p ∈ ρ') (hn : (ρ.map (·.1)).Nodup) : Fm G sc env Wc Z M ρ s :=
  ⟨f.fe, ⟨f.vr.base, f.vr.dom, fun x b hx => f.vr.ent x b (h _ hx), f.vr.cel, hn⟩, f.sub, f.nb, fun x b hx => f.ym x b (h _ hx), f.cz, f.zs⟩
theorem Fm.locNs {env : Env} {Wc Z M : Addr → Prop} {s : Shared} (f : Fm G sc env Wc Z M ρ s) : ∃ o es n, s.heap.get? env.locals = some o ∧ o.data = .dict es n := by
  obtain ⟨m, o, es, ep, ho, hd, _⟩ := f.fe.loc
  exact ⟨o, es, ep, ho, hd⟩
theorem Fm.notW {env : Env} {Wc Z M : Addr → Prop} {s : Shared} (f : Fm G sc env Wc Z M ρ s) {a : Addr} {o : Obj} (e : s.heap.get? a = some o) (h1 : ∀ v, o.data ≠ .cell v) (h2 : (∃ xs n, o.data = .seq xs n) ∨ a ≠ env.locals) : ¬ Wc a := by
  intro hw
  rcases f.fe.wdata a o hw e with q | ⟨v, q⟩
  · rcases h2 with ⟨xs, n, h2⟩ | h2
    · obtain ⟨o', es, n', ho', hd'⟩ := f.locNs
      rw [← q, e] at ho'; cases ho'; rw [h2] at hd'; cases hd'
    · exact h2 q
  · exact h1 v q
theorem ER.kb {env : Env} {Wc Z M : Addr → Prop} {s s' : Shared} {x : Str} {b : B} (f : Fm G sc env Wc Z M ρ s) (hk : KB G.T Wc s s') (hacc : ∀ u, Acc env s.heap x u → Acc env s'.heap x u) (r : ER prog w env s.heap M x b) : ER prog w env s'.heap M x b := by
  have hag : Agr M s.heap s'.heap := hk.agr f.sub
  cases b with
  | un => trivial
  | is v => exact hacc v r
  | own d => obtain ⟨v, a, r⟩ := r; exact ⟨v, hacc v a, Rp.agr hag _ _ r⟩
  | mu ds =>
    obtain ⟨a, items, h1, h2, h3, h4, h5⟩ := r
    obtain ⟨n, e⟩ := id h3
    have hnw := f.notW e (fun v q => by cases q) (.inl ⟨_, _, rfl⟩)
    exact ⟨a, items, hacc _ h1, h2, PL.gr h3 fun o n e => hk.nt _ o hnw n e, RpL.agr hag _ _ h4, h5⟩
  | mud D =>
    obtain ⟨a, kvs, h1, h2, hl, h2', h3, h4, h5⟩ := r
    obtain ⟨o, es, ep, e, _, hd, _⟩ := id h3
    have hnw := f.notW e (fun v q => by rw [hd] at q; cases q) (.inr hl)
    exact ⟨a, kvs, hacc _ h1, h2, hl, h2', Dic.gr h3 fun o n e => hk.nt _ o hnw n e, RpD.agr hag _ _ h4, h5⟩
theorem Acc.kb {env : Env} {own : Addr → Prop} {s s' : Shared} {x : Str} {v : Value} (k : KB G.T own s s') (hl : ¬ own env.locals) (hc : ∀ x c, env.cells.lookup x = some c → ¬ own c) (a : Acc env s.heap x v) : Acc env s'.heap x v := by
  rcases a with ⟨a, m, b, c⟩ | ⟨a, c, b, d⟩
  · exact .inl ⟨a, m, Nsp.gr b fun o n e => k.nt _ o hl n e, c⟩
  · exact .inr ⟨a, c, b, Cel.gr d fun o n e => k.nt _ o (hc x c b) n e⟩
theorem Fm.kb' {env : Env} {Wc Z M M1 own : Addr → Prop} {s s' : Shared} (f : Fm G sc env Wc Z M ρ s) (k : KB G.T own s s') (hM : ∀ b, own b → M b) (hW : ∀ b, own b → ¬ Wc b) (hZ : ∀ b, own b → ¬ Z b) (hB : ∀ b, own b → G.hB.get? b = none)
    (h1 : ∀ a, M1 a → M a) (hW1 : ∀ a, Wc a → M1 a) (hZ1 : ∀ a, Z a → M1 a) (hdom : ∀ b, M1 b → own b → ∃ o, s'.heap.get? b = some o) : Fm G sc env Wc Z M1 ρ s' := by
  have hl : ¬ own env.locals := fun q => hW _ q f.fe.wl
  have hc : ∀ x c, env.cells.lookup x = some c → ¬ own c := fun x c hc q => (f.cz x c hc).elim (hW c q) (hZ c q)
  have hag : Agr M s.heap s'.heap := k.agr hM
  have hs : ∀ a o, s'.heap.get? a = some o → M1 a → M a := fun a o e => h1 a
  refine ⟨⟨?_, f.fe.wl, ?_, ?_⟩, ⟨?_, ?_, ?_, fun x c hc => (f.cz x c hc).elim (hW1 c) (hZ1 c), f.vr.nd⟩, hW1, f.nb, ?_, f.cz, hZ1⟩
  · obtain ⟨m, hm⟩ := f.fe.loc; exact ⟨m, Nsp.gr hm fun o n e => k.nt _ o hl n e⟩
  · intro x hx
    obtain ⟨a, c, vo, h1, h2, r⟩ := f.fe.cel x hx
    exact ⟨a, c, vo, h1, Cel.gr h2 fun o n e => k.nt _ o (hc x c h1) n e, r⟩
  · intro a o ha e
    obtain ⟨o', e'⟩ := f.vr.dom a (f.sub a ha)
    have e2 := (k.tk a o' (fun q => hW a q ha) e').nt (f.fe.nt ha e')
    rw [e2] at e; cases e
    exact f.fe.wdata a o ha e'
  · intro b o e; exact (f.vr.base b o e).trans k.code fun o' e' => k.tk b o' (fun q => by rw [hB b q] at e; cases e) e'
  · intro a ha
    by_cases ho : own a
    · exact hdom a ha ho
    · obtain ⟨o, e⟩ := f.vr.dom a (h1 a ha); exact (k.tk a o ho e).al
  · intro x b hx
    have r := f.vr.ent x b hx
    have y := f.ym x b hx
    cases b with
    | un => trivial
    | is v => exact Acc.kb k hl hc r
    | own d => obtain ⟨v, a, r⟩ := r; exact ⟨v, a.kb k hl hc, Rp.sub hs _ _ (Rp.agr hag _ _ r)⟩
    | mu ds =>
      obtain ⟨a, items, h1, h2, h3, h4, h5⟩ := r
      obtain ⟨a', h1', hz⟩ := y trivial
      cases h1.det h1'
      exact ⟨a, items, h1.kb k hl hc, hZ1 a hz, PL.gr h3 fun o n e => k.nt _ o (fun q => hZ a q hz) n e, RpL.sub hs _ _ (RpL.agr hag _ _ h4), h5⟩
    | mud D =>
      obtain ⟨a, kvs, h1, h2, hl', h2', h3, h4, h5⟩ := r
      obtain ⟨a', h1', hz⟩ := y trivial
      cases h1.det h1'
      exact ⟨a, kvs, h1.kb k hl hc, hZ1 a hz, hl', h2', Dic.gr h3 fun o n e => k.nt _ o (fun q => hZ a q hz) n e, RpD.sub hs _ _ (RpD.agr hag _ _ h4), h5⟩
  · intro x b hx hb
    obtain ⟨a, h1, h2⟩ := f.ym x b hx hb
    exact ⟨a, h1.kb k hl hc, h2⟩
theorem Fm.kb {env : Env} {Wc Z M own : Addr → Prop} {s s' : Shared} (f : Fm G sc env Wc Z M ρ s) (k : KB G.T own s s') (hM : ∀ b, own b → M b) (hW : ∀ b, own b → ¬ Wc b) (hZ : ∀ b, own b → ¬ Z b) (hB : ∀ b, own b → G.hB.get? b = none)
    (hdom : ∀ b, own b → ∃ o, s'.heap.get? b = some o) : Fm G sc env Wc Z M ρ s' := f.kb' k hM hW hZ hB (fun _ h => h) f.sub f.zs fun b _ => hdom b
theorem ER.grow {env : Env} {M own : Addr → Prop} {h : Heap} {x : Str} {b : B} (hn : ∀ a, own a → h.get? a = none) (r : ER prog w env h M x b) : ER prog w env h (fun a => M a ∨ own a) x b := by
  have hs : ∀ a o, h.get? a = some o → (M a ∨ own a) → M a := fun a o e q => q.elim id fun q => by rw [hn a q] at e; cases e
  cases b with
  | un => trivial
  | is v => exact r
  | own d => obtain ⟨v, a, r⟩ := r; exact ⟨v, a, Rp.sub hs _ _ r⟩
  | mu ds => obtain ⟨a, items, h1, h2, h3, h4, h5⟩ := r; exact ⟨a, items, h1, .inl h2, h3, RpL.sub hs _ _ h4, h5⟩
  | mud D => obtain ⟨a, kvs, h1, h2, hl, h2', h3, h4, h5⟩ := r; exact ⟨a, kvs, h1, .inl h2, hl, h2', h3, RpD.sub hs _ _ h4, h5⟩
theorem Fm.grow {env : Env} {Wc Z M own : Addr → Prop} {s s' : Shared} (f : Fm G sc env Wc Z M ρ s) (k : Kp G.T s s') (hn : ∀ b, own b → s.heap.get? b = none) (hd : ∀ b, own b → ∃ o, s'.heap.get? b = some o) : Fm G sc env Wc Z (fun a => M a ∨ own a) ρ s' := by
  have f' := f.keeps k
  refine ⟨f'.fe, ⟨f'.vr.base, fun a ha => ha.elim (f'.vr.dom a) (hd a), fun x b hx => ((f.vr.ent x b hx).grow hn).keeps k.nt, fun x c hc => .inl (f.vr.cel x c hc), f.vr.nd⟩, fun a ha => .inl (f.sub a ha), f.nb, f'.ym, f.cz, fun a ha => .inl (f.zs a ha)⟩
theorem Fm.storeB {A : Around} {env : Env} {Wc Z M : Addr → Prop} {s : Shared} {y : Str} {v : Value} {b : B} {ρ' : VEnv} {Q : Unit → Shared → Prop} {E : Value → Shared → Prop} (f : Fm G sc env Wc Z M ρ s) (hv : EnvOk sc env)
    (hy : OwnName sc y) (hu : Upd y b ρ ρ') (hr : ∀ s', KB G.T Wc s s' → Acc env s'.heap y v → ER prog w env s'.heap M y b) (hz : b.isMu → ∃ a, v = .ref a ∧ Z a)
    (h : ∀ s', KB G.T Wc s s' → Fm G sc env Wc Z M ρ' s' → Acc env s'.heap y v → (∀ x u, x ≠ y → Acc env s.heap x u → Acc env s'.heap x u) → Q () s') : wpAny (model prog w) A (storeName env y v) Q E s := by
  refine f.fe.store G hv hy (fun a ha => f.vr.dom a (f.sub a ha)) fun s' fe' hk hdom hacc hold => h s' hk ⟨fe', ⟨?_, ?_, ?_, f.vr.cel, hu.nodup f.vr.nd⟩, f.sub, f.nb, ?_, f.cz, f.zs⟩ hacc hold
  · intro b o e
    exact (f.vr.base b o e).trans hk.code fun o' e' => hk.tk b o' (fun q => by rw [f.nb b q] at e; cases e) e'
  · intro a ha
    by_cases hw : Wc a
    · exact hdom a hw
    · obtain ⟨o, e⟩ := f.vr.dom a ha; exact (hk.tk a o hw e).al
  · intro x b hx
    rcases hu.ent f.vr.nd x b hx with ⟨rfl, rfl⟩ | ⟨hne, hx⟩
    · exact hr s' hk hacc
    · exact ER.kb f hk (fun u => hold x u hne) (f.vr.ent x b hx)
  · intro x c hx hb
    rcases hu.ent f.vr.nd x c hx with ⟨rfl, rfl⟩ | ⟨hne, hx⟩
    · obtain ⟨a, rfl, h2⟩ := hz hb
      exact ⟨a, hacc, h2⟩
    · obtain ⟨a, h1, h2⟩ := f.ym x c hx hb
      exact ⟨a, hold x _ hne h1, h2⟩
theorem Fm.store {A : Around} {env : Env} {Wc Z M : Addr → Prop} {s : Shared} {y : Str} {v : Value} {d : PyData} {ρ' : VEnv} {Q : Unit → Shared → Prop} {E : Value → Shared → Prop} (f : Fm G sc env Wc Z M ρ s) (hv : EnvOk sc env)
    (hy : OwnName sc y) (hu : Upd y (.own d) ρ ρ') (hr : Rp prog w s.heap M d v)
    (h : ∀ s', KB G.T Wc s s' → Fm G sc env Wc Z M ρ' s' → (∀ x u, x ≠ y → Acc env s.heap x u → Acc env s'.heap x u) → Q () s') : wpAny (model prog w) A (storeName env y v) Q E s :=
  f.storeB hv hy hu (fun s' hk hacc => ⟨v, hacc, Rp.agr (hk.agr f.sub) _ _ hr⟩) (fun h => by cases h) fun s' k f' _ ho => h s' k f' ho
noncomputable def MuK (env : Env) (s s' : Shared) (ρ ρ' : VEnv) : Prop := ∀ x b, (x, b) ∈ ρ' → b.isMu → (x, b) ∈ ρ ∧ ∀ u, Acc env s.heap x u → Acc env s'.heap x u
theorem MuK.refl {env : Env} {s : Shared} {ρ : VEnv} : MuK env s s ρ ρ := fun x b h _ => ⟨h, fun _ a => a⟩
theorem MuK.trans {env : Env} {s s' s'' : Shared} {ρ ρ' ρ'' : VEnv} (a : MuK env s s' ρ ρ') (b : MuK env s' s'' ρ' ρ'') : MuK env s s'' ρ ρ'' := fun x c h hm => by
  obtain ⟨h1, h2⟩ := b x c h hm
  obtain ⟨h3, h4⟩ := a x c h1 hm
  exact ⟨h3, fun u q => h2 u (h4 u q)⟩
theorem MuK.keeps {env : Env} {s s' : Shared} {ρ : VEnv} (k : Kp G.T s s') : MuK env s s' ρ ρ := fun x b h _ => ⟨h, fun _ a => a.keeps k.nt⟩
noncomputable def BindTo (G : Gl prog w) (k : Nat) (sc : Scope) (ρ : VEnv) (tgt : Expr) (x : PyData) (ρ' : VEnv) : Prop :=
  ∀ (A : Around) (env : Env) (Wc Z M : Addr → Prop) (s : Shared) (v : Value) (Q : Unit → Shared → Prop) (E : Value → Shared → Prop), Ok k A → EnvOk sc env → Fm G sc env Wc Z M ρ s → Rp prog w s.heap M x v →
    (∀ s', KB G.T Wc s s' → Fm G sc env Wc Z M ρ' s' → MuK env s s' ρ ρ' → Q () s') → wpAny (model prog w) A (assign tgt env v) Q E s
theorem BindTo.name {y : Str} {p : Pos} {x : PyData} {ρ' : VEnv} (hy : OwnName sc y) (hu : Upd y (.own x) ρ ρ') : BindTo G k sc ρ (.Name y p) x ρ' := by
  intro A env Wc Z M s v Q E ho hv f hr hQ
  exact wpAny_assign_Name (f.store hv hy hu hr fun s' k f' ho => hQ s' k f' fun z b hz hb => (hu.ent f.vr.nd z b hz).elim (fun q => by rw [q.2] at hb; cases hb) fun q => ⟨q.2, fun u => ho z u q.1⟩)
inductive BindEach (G : Gl prog w) (k : Nat) (sc : Scope) : VEnv → List Expr → List PyData → VEnv → Prop
  | nil (ρ : VEnv) : BindEach G k sc ρ [] [] ρ
  | cons (ρ : VEnv) (t : Expr) (ts : List Expr) (x : PyData) (xs : List PyData) (ρ₁ ρ' : VEnv) : (∀ rest env, assignEach (t :: rest) env = (false, assign t env) :: assignEach rest env) → BindTo G k sc ρ t x ρ₁ → BindEach G k sc ρ₁ ts xs ρ' → BindEach G k sc ρ (t :: ts) (x :: xs) ρ'
theorem BindEach.len {ρ' : VEnv} {ts : List Expr} {xs : List PyData} (h : BindEach G k sc ρ ts xs ρ') (env : Env) : (assignEach ts env).length = xs.length ∧ (assignEach ts env).findIdx? (·.1) = none := by
  induction h with
  | nil => exact ⟨rfl, rfl⟩
  | cons _ _ _ _ _ _ _ hp _ _ ih => rw [hp]; exact ⟨by simp [ih.1], by rw [List.findIdx?_cons]; simp [ih.2]⟩
theorem BindEach.run {ρ' : VEnv} {ts : List Expr} {xs : List PyData} (h : BindEach G k sc ρ ts xs ρ') : ∀ {A : Around} {env : Env} {Wc Z M : Addr → Prop} {s : Shared} {vs : List Value} {Q : Unit → Shared → Prop} {E : Value → Shared → Prop}, Ok k A → EnvOk sc env → Fm G sc env Wc Z M ρ s → RpL prog w s.heap M xs vs →
    (∀ s', KB G.T Wc s s' → Fm G sc env Wc Z M ρ' s' → MuK env s s' ρ ρ' → Q () s') → wpAny (model prog w) A (assignInOrder ((assignEach ts env).map (·.2)) vs) Q E s := by
  induction h with
  | nil => intro A env Wc Z M s vs Q E ho hv f hr hQ; exact assignInOrder_nil (hQ s (.of Kp.refl) f MuK.refl)
  | cons _ _ _ _ _ _ _ hp hb _ ih =>
    intro A env Wc Z M s vs Q E ho hv f hr hQ
    rw [hp]
    simp only [RpL] at hr
    obtain ⟨v, r, rfl, h1, h2⟩ := hr
    refine assignInOrder_cons (hb A env Wc Z M s v _ _ ho hv f h1 fun s1 k1 f1 m1 => ih ho hv f1 ?_ fun s2 k2 f2 m2 => hQ s2 (k1.trans k2) f2 (m1.trans m2))
    exact RpL.agr (k1.agr f.sub) _ _ h2
theorem BindTo.tuple {ts : List Expr} {c} {p : Pos} {xs : List PyData} {ρ' : VEnv} (h : BindEach G k sc ρ ts xs ρ') : BindTo G k sc ρ (.Tuple ts c p) (.tuple xs) ρ' := by
  intro A env Wc Z M s v Q E ho hv f hr hQ
  simp only [Rp] at hr
  obtain ⟨a, items, rfl, hM, hl, hr⟩ := hr
  have hlen := hr.length
  refine wpAny_assign_Tuple ho.hh hl (by rw [(h.len env).1, ← hlen]; simp) (h.len env).2 fun h' he => ?_
  have k1 : Kp G.T s { s with heap := h' } := Kp.mk' fun b o e => he b o (Nat.ne_of_lt (Heap.lt_size e)) e
  exact h.run ho hv (f.keeps k1) (RpL.agr k1.agr _ _ hr) fun s2 k2 f2 m2 => hQ s2 ((KB.of k1).trans k2) f2 ((MuK.keeps k1).trans m2)
inductive IfsTo (G : Gl prog w) (k : Nat) (sc : Scope) (ρ : VEnv) : List Expr → Bool → Prop
  | nil : IfsTo G k sc ρ [] true
  | one {c b} : TrTo G k sc ρ c b → IfsTo G k sc ρ [c] b
end
end
section
noncomputable def turnRest (emit : Sem Unit) (e : Expr) (d : Nat) (it acc : Value) (env : Env) (g' : Option Comprehension) (t : Expr) (ifs : List Expr) (v : Value) : Sem Fin := do
  assign t env v
  let mut ok := true
  for c in ifs do
    if ok then ok ← isTrue c env (eval c env)
  if ok then
    match g' with
    | some g' =>
      let x ← eval g'.iter env
      standAt g'.iter.pos
      let x ← if g'.is_async != 0 then foldedIterable g'.iter x else foldedSetIterable g'.iter env x
      let _ ← runOwn (.compStart e (d + 1) (← holding [x] (if g'.is_async != 0 then asyncIter x else pyIter x)) acc env) env
    | none => emit
  again (.compLoop e d it acc env)
theorem compTurn_gen {elt : Expr} {gens : List Comprehension} {scope : Scope} {pos : Pos} {d : Nat} {t iter : Expr} {ifs : List Expr} (hg : gens[d]? = some ⟨t, iter, ifs, 0⟩) (it acc : Value) (env : Env) :
    compTurn (.ListComp elt gens scope pos) d it acc env = (standAt iter.pos >>= fun _ => pyNext it >>= fun r => match r with
      | none => pure (.done .next)
      | some v => letOwnedTupleGo t it v >>= fun _ => turnRest (do let _ ← call (.builtin "list.append") [acc, ← eval elt env]) (.ListComp elt gens scope pos) d it acc env (gens[d + 1]?) t ifs v) := by
  unfold compTurn turnRest
  simp only [hg]
  rfl
section
variable {prog : Program} {w : World} {G : Gl prog w} {k : Nat} {sc csc : Scope} {ρ : VEnv}
theorem KB.mono {T : TabS} {own own' : Addr → Prop} {s s' : Shared} (h : KB T own s s') (hm : ∀ b, own b → own' b) : KB T own' s s' := ⟨h.same, (fun b o hb e => h.tk b o (fun q => hb (hm b q)) e), h.co⟩
theorem KB.refl {T : TabS} {own : Addr → Prop} {s : Shared} : KB T own s s := .of Kp.refl
theorem KB.kp {T : TabS} {own : Addr → Prop} {s s' : Shared} (h : KB T own s s') (hn : ∀ b, own b → s.heap.get? b = none) : Kp T s s' := ⟨h.same, fun b o e => h.tk b o (fun q => by rw [hn b q] at e; cases e) e⟩
theorem mark_none {A : Around} : A.mark none = A := by cases A; rfl
structure CS (G : Gl prog w) (csc : Scope) (env : Env) (Wc Z M : Addr → Prop) (D : Addr) (ρ : VEnv) (pre : List PyData) (s : Shared) : Prop where
  fm : Fm G csc env Wc Z M ρ s
  acc : ∃ items, s.heap.PlainList D items ∧ RpL prog w s.heap M pre items.toList
  dM : M D
  dW : ¬ Wc D
  dZ : ¬ Z D
  dB : G.hB.get? D = none
section
variable {A : Around} {env : Env} {Wc Z M : Addr → Prop} {D : Addr} {pre : List PyData} {s s' : Shared}
theorem CS.keeps (c : CS G csc env Wc Z M D ρ pre s) (k : Kp G.T s s') : CS G csc env Wc Z M D ρ pre s' :=
  ⟨c.fm.keeps k, let ⟨items, h1, h2⟩ := c.acc; ⟨items, PL.gr h1 (k.nt _), RpL.agr k.agr _ _ h2⟩, c.dM, c.dW, c.dZ, c.dB⟩
theorem CS.kb {M1 own : Addr → Prop} (c : CS G csc env Wc Z M D ρ pre s) (k : KB G.T own s s') (hM : ∀ b, own b → M b) (hW : ∀ b, own b → ¬ Wc b) (hZ : ∀ b, own b → ¬ Z b) (hB : ∀ b, own b → G.hB.get? b = none)
    (h1 : ∀ a, M1 a → M a) (hW1 : ∀ a, Wc a → M1 a) (hZ1 : ∀ a, Z a → M1 a) (hD1 : M1 D) (hdom : ∀ b, M1 b → own b → ∃ o, s'.heap.get? b = some o) (hD : ¬ own D) : CS G csc env Wc Z M1 D ρ pre s' :=
  ⟨c.fm.kb' k hM hW hZ hB h1 hW1 hZ1 hdom, let ⟨items, h2, h3⟩ := c.acc; ⟨items, PL.gr h2 fun o n e => k.nt _ o hD n e, RpL.sub (fun a o e => h1 a) _ _ (RpL.agr (k.agr hM) _ _ h3)⟩, hD1, c.dW, c.dZ, c.dB⟩
theorem CS.fr {ρ' : VEnv} (c : CS G csc env Wc Z M D ρ pre s) (k : KB G.T Wc s s') (f : Fm G csc env Wc Z M ρ' s') : CS G csc env Wc Z M D ρ' pre s' :=
  ⟨f, let ⟨items, h1, h2⟩ := c.acc; ⟨items, PL.gr h1 fun o n e => k.nt _ o c.dW n e, RpL.agr (k.agr c.fm.sub) _ _ h2⟩, c.dM, c.dW, c.dZ, c.dB⟩
theorem CS.append {d : PyData} {u : Value} {Q : Value → Shared → Prop} {E : Value → Shared → Prop} (c : CS G csc env Wc Z M D ρ pre s) (hr : Rp prog w s.heap M d u) (hl : pre.length < lid)
    (hQ : ∀ s', KB G.T (· = D) s s' → CS G csc env Wc Z M D ρ (pre ++ [d]) s' → Q .none s') : wpAny (model prog w) A (call (.builtin "list.append") [.ref D, u]) Q E s := by
  obtain ⟨items, h1, h2⟩ := c.acc
  have hlen := h2.length
  refine wpAny_list_append_plain h1 (fun h' hp hs => ?_) (by have : items.size = pre.length := by simpa using hlen
                                                             rw [this]; exact Nat.le_trans (Nat.le_of_lt hl) lid_le)
  have k1 : KB G.T (· = D) s { s with heap := h' } := .mk' ⟨h', s.toks, rfl⟩ (fun b o hb e => (hs.2 b hb).trans e) fun b o hb e => by
    obtain ⟨n, e0⟩ := id h1
    rw [hb, e0] at e; cases e; exact notCoS rfl
  have hag : Agr M s.heap h' := k1.agr fun b q => q ▸ c.dM
  refine hQ _ k1 ⟨c.fm.kb k1 (fun b e => e ▸ c.dM) (fun b e => e ▸ c.dW) (fun b e => e ▸ c.dZ) (fun b e => e ▸ c.dB) (fun b e => ?_), ⟨_, hp, ?_⟩, c.dM, c.dW, c.dZ, c.dB⟩
  · subst e; obtain ⟨n, e⟩ := hp; exact ⟨_, e⟩
  · rw [Array.toList_push]
    exact RpL.append (RpL.agr hag _ _ h2) (RpL.cons (Rp.agr hag _ _ hr) RpL.nil)
theorem CS.weak {ρ' : VEnv} (c : CS G csc env Wc Z M D ρ' pre s) (h : ∀ p, p ∈ ρ → p ∈ ρ') (hn : (ρ.map (·.1)).Nodup) : CS G csc env Wc Z M D ρ pre s := ⟨c.fm.weak h hn, c.acc, c.dM, c.dW, c.dZ, c.dB⟩
theorem CS.grow {own : Addr → Prop} (c : CS G csc env Wc Z M D ρ pre s) (k : Kp G.T s s') (hn : ∀ b, own b → s.heap.get? b = none) (hd : ∀ b, own b → ∃ o, s'.heap.get? b = some o) : CS G csc env Wc Z (fun a => M a ∨ own a) D ρ pre s' := by
  obtain ⟨items, h1, h2⟩ := c.acc
  have hs : ∀ a o, s.heap.get? a = some o → (M a ∨ own a) → M a := fun a o e q => q.elim id fun q => by rw [hn a q] at e; cases e
  exact ⟨c.fm.grow k hn hd, ⟨items, PL.gr h1 (k.nt _), RpL.agr k.agr _ _ (RpL.sub hs _ _ h2)⟩, .inl c.dM, c.dW, c.dZ, c.dB⟩
end
inductive TurnTo (G : Gl prog w) (k : Nat) (csc : Scope) (gens : List Comprehension) (elt : Expr) : VEnv → Nat → PyData → List PyData → Prop
  | no (ρ : VEnv) (d : Nat) (x : PyData) (ρ' : VEnv) (t it : Expr) (ifs : List Expr) : gens[d]? = some ⟨t, it, ifs, 0⟩ → BindTo G k csc ρ t x ρ' → (∀ p, p ∈ ρ → p ∈ ρ') → IfsTo G k csc ρ' ifs false → TurnTo G k csc gens elt ρ d x []
  | leaf (ρ : VEnv) (d : Nat) (x : PyData) (ρ' : VEnv) (t it : Expr) (ifs : List Expr) (v : PyData) : gens[d]? = some ⟨t, it, ifs, 0⟩ → gens[d + 1]? = none → BindTo G k csc ρ t x ρ' → (∀ p, p ∈ ρ → p ∈ ρ') → IfsTo G k csc ρ' ifs true →
      EvTo G k csc ρ' elt v → TurnTo G k csc gens elt ρ d x [v]
  | deep (ρ : VEnv) (d : Nat) (x : PyData) (ρ' : VEnv) (t it : Expr) (ifs : List Expr) (t' it' : Expr) (ifs' : List Expr) (α : Type) (f : α → PyData) (xs : List α) (o : α → List PyData) : gens[d]? = some ⟨t, it, ifs, 0⟩ → gens[d + 1]? = some ⟨t', it', ifs', 0⟩ →
      BindTo G k csc ρ t x ρ' → (∀ p, p ∈ ρ → p ∈ ρ') → IfsTo G k csc ρ' ifs true → ItTo G k csc ρ' t' true it' (xs.map f) → (∀ env x, foldedSetIterable it' env x = pure x) → (∀ y, y ∈ xs → TurnTo G k csc gens elt ρ' (d + 1) (f y) (o y)) → TurnTo G k csc gens elt ρ d x (xs.flatMap o)
noncomputable def TurnRun (G : Gl prog w) (k : Nat) (csc : Scope) (gens : List Comprehension) (elt : Expr) (scope : Scope) (pos : Pos) (ρ : VEnv) (d : Nat) (x : PyData) (o : List PyData) : Prop :=
  ∀ t iter ifs, gens[d]? = some ⟨t, iter, ifs, 0⟩ → ∀ (A : Around) (env : Env) (Wc Z M : Addr → Prop) (D : Addr) (pre : List PyData) (s : Shared) (v it : Value) (Q : Fin → Shared → Prop) (E : Value → Shared → Prop),
    Ok k A → EnvOk csc env → CS G csc env Wc Z M D ρ pre s → Rp prog w s.heap M x v → pre.length + o.length ≤ lid →
    (∀ s', KB G.T (fun b => Wc b ∨ b = D) s s' → CS G csc env Wc Z M D ρ (pre ++ o) s' → Q (.again (.compLoop (.ListComp elt gens scope pos) d it (.ref D) env)) s') →
    wpAny (model prog w) A (turnRest (do let _ ← call (.builtin "list.append") [.ref D, ← eval elt env]) (.ListComp elt gens scope pos) d it (.ref D) env (gens[d + 1]?) t ifs v) Q E s
theorem IfsTo.run {ifs : List Expr} {b : Bool} (h : IfsTo G k sc ρ ifs b) {A : Around} {env : Env} {M : Addr → Prop} {s : Shared} {Q : Bool → Shared → Prop} {E : Value → Shared → Prop} (ho : Ok k A) (hv : EnvOk sc env) (hr : VR G env M ρ s) (hQ : ∀ s', Kp G.T s s' → Q b s') :
    wpAny (model prog w) A (forIn ifs true fun c r => if r = true then do let ok ← isTrue c env (eval c env); pure (ForInStep.yield ok) else pure (ForInStep.yield r)) Q E s := by
  cases h with
  | nil => exact wpAny_tests_nil (hQ s Kp.refl)
  | one h => exact wpAny_tests_one (h A env M s Q E ho hv hr hQ)
theorem loop_run {α : Type} (f : α → PyData) (o : α → List PyData) {gens : List Comprehension} {elt : Expr} {scope : Scope} {pos : Pos} {d : Nat} {t iter : Expr} {ifs : List Expr} (hg : gens[d]? = some ⟨t, iter, ifs, 0⟩)
    {A : Around} {env : Env} {Wc Z M M1 : Addr → Prop} {D : Addr} {I : Addr} {own F M0 : Addr → Prop} {h0 : Heap} {ds : List PyData} {Co : Nat → Heap → Prop} {R : Result → Shared → Prop}
    (W : Wk prog w G.T A I own F M0 h0 t ds Co) (ho : Ok k A) (hv : EnvOk csc env) (hF : ∀ b o, (Wc b ∨ b = D) → h0.get? b = some o → F b) (hM0 : ∀ b o, h0.get? b = some o → M b → M0 b)
    (oM : ∀ b, own b → M b) (oW : ∀ b, own b → ¬ Wc b) (oZ : ∀ b, own b → ¬ Z b) (oB : ∀ b, own b → G.hB.get? b = none) (oD : ¬ own D) (o0 : ∀ b, own b → h0.get? b = none)
    (h1 : ∀ a, M1 a → M a) (h1o : ∀ a, M1 a → ¬ own a) (hW1 : ∀ a, Wc a → M1 a) (hZ1 : ∀ a, Z a → M1 a) (hD1 : M1 D) :
    ∀ (xs : List α) (i : Nat) (s : Shared) (pre : List PyData), ds.drop i = xs.map f → i ≤ ds.length → (∀ x, x ∈ xs → TurnRun G k csc gens elt scope pos ρ d (f x) (o x)) → Co i s.heap → Agr F h0 s.heap →
      CS G csc env Wc Z M D ρ pre s → pre.length + (xs.flatMap o).length ≤ lid →
      (∀ s', KB G.T (fun b => (Wc b ∨ b = D) ∨ own b) s s' → CS G csc env Wc Z M1 D ρ (pre ++ xs.flatMap o) s' → R (.ok .next) s') →
      codeAny (model prog w) A (.compLoop (.ListComp elt gens scope pos) d (.ref I) (.ref D) env) R s := by
  intro xs
  induction xs with
  | nil =>
    intro i s pre hd hi hT hc hag c hl hR
    refine codeAny_of_tree ?_
    show wpAny _ A ((compTurn (.ListComp elt gens scope pos) d (.ref I) (.ref D) env).onRaise (fun x => do noteFrame x env; theTreesLotGoes x)) _ _ s
    refine wpAny_noted ?_
    rw [compTurn_gen hg]
    have hi' : i = ds.length := by
      have : (ds.drop i).length = 0 := by rw [hd]; rfl
      rw [List.length_drop] at this; lia
    subst hi'
    refine wpAny_bind (wpAny_standAt (wpAny_bind (wpAny_mono (W.done s (fun s' => R (.ok .next) s') _ hc hag fun s' k' => ?_) (fun r s1 h1 => ?_) fun _ _ z => z)))
    · simp only [List.flatMap_nil, List.append_nil] at hR
      exact hR s' (k'.mono fun b hb => .inr hb) (c.kb k' oM oW oZ oB h1 hW1 hZ1 hD1 (fun b hb ho => absurd ho (h1o b hb)) oD)
    · cases r with
      | none => exact wpAny_pure h1
      | some v => exact h1.elim
  | cons x xs ih =>
    intro i s pre hd hi hT hc hag c hl hR
    refine codeAny_of_tree ?_
    show wpAny _ A ((compTurn (.ListComp elt gens scope pos) d (.ref I) (.ref D) env).onRaise (fun x => do noteFrame x env; theTreesLotGoes x)) _ _ s
    refine wpAny_noted ?_
    rw [compTurn_gen hg]
    have hdx : ds[i]? = some (f x) := by
      have : (ds.drop i)[0]? = some (f x) := by rw [hd]; rfl
      rw [List.getElem?_drop] at this; simpa using this
    have hlt : i < ds.length := (List.getElem?_eq_some_iff.mp hdx).1
    have hd' : ds.drop (i + 1) = xs.map f := by
      rw [← List.drop_drop, hd]; rfl
    simp only [List.flatMap_cons, List.length_append] at hl
    refine wpAny_bind (wpAny_standAt (wpAny_bind (wpAny_mono (W.item i (f x) M s (fun v s2 => wpAny (model prog w) A (turnRest (do let _ ← call (.builtin "list.append") [.ref D, ← eval elt env]) (.ListComp elt gens scope pos) d (.ref I) (.ref D) env (gens[d + 1]?) t ifs v)
      (fun fin s' => match fin with | .done f => R (.ok f) s' | .again c' => c'.quiet = true ∧ codeAny (model prog w) A c' R s') (notedBy (model prog w) A env fun e s' => R (.error e) s') s2) _ hdx hc hag hM0 c.fm.vr.dom fun v s1 k1 hc1 r1 => ?_) (fun r s1 h1 => ?_) fun _ _ z => z)))
    · have c1 : CS G csc env Wc Z M D ρ pre s1 := c.kb k1 oM oW oZ oB (fun _ h => h) c.fm.sub c.fm.zs c.dM (fun b _ hb => W.alive _ _ hc1 b hb) oD
      refine hT x List.mem_cons_self t iter ifs hg A env Wc Z M D pre s1 v (.ref I) _ _ ho hv c1 r1 (by lia) fun s2 k2 c2 => ⟨rfl, ?_⟩
      have hc2 : Co (i + 1) s2.heap := W.frame _ _ _ hc1 fun b o hb e => k2.tk b o (fun q => q.elim (oW b hb) fun q => oD (q ▸ hb)) e
      have hag2 : Agr F h0 s2.heap := fun b o hb n e => k2.nt b o (fun q => hb (hF b o q e)) n (k1.nt b o (fun q => by rw [o0 b q] at e; cases e) n (hag b o hb n e))
      refine ih (i + 1) s2 (pre ++ o x) hd' hlt (fun y hy => hT y (List.mem_cons_of_mem _ hy)) hc2 hag2 c2 (by rw [List.length_append]; lia) fun s3 k3 c3 => hR s3 (((k1.mono fun b hb => .inr hb).trans (k2.mono fun b hb => .inl hb)).trans k3) ?_
      simpa [List.append_assoc] using c3
    · cases r with
      | none => exact h1.elim
      | some v => exact wpAny_bind h1
theorem codeAny_compStart_gen {elt t iter : Expr} {ifs : List Expr} {gens : List Comprehension} {d : Nat} {scope : Scope} {pos : Pos} {it acc : Value} {env : Env} {A : Around} {R : Result → Shared → Prop} {s : Shared} (hg : gens[d]? = some ⟨t, iter, ifs, 0⟩)
    (h0 : codeAny (model prog w) A (.compLoop (.ListComp elt gens scope pos) d it acc env) R s)
    (h : wpAny (model prog w) A (pyIter it) (fun it' s' => codeAny (model prog w) A (.compLoop (.ListComp elt gens scope pos) d it' acc env) R s')
      (notedBy (model prog w) A env fun x s' => R (.error x) s') s) :
    codeAny (model prog w) A (.compStart (.ListComp elt gens scope pos) d it acc env) R s := by
  refine codeAny_of_tree ?_
  show wpAny _ _ ((compStart (.ListComp elt gens scope pos) d it acc env).onRaise (fun x => do noteFrame x env; standAt theWindowsPlace)) _ _ s
  refine wpAny_notedAt ?_
  have hcl : (clausesOf (.ListComp elt gens scope pos))[d]? = some ⟨t, iter, ifs, 0⟩ := hg
  unfold compStart
  rw [hcl]
  show wpAny _ _ (ask >>= _) _ _ s
  refine wpAny_bind (wpAny_askSetting (wpAny_ite ?_))
  split
  · first
      | exact wpAny_bind (wpAny_pure (wpAny_pure (And.intro rfl h0)))
      | exact wpAny_pure (And.intro rfl h0)
  · first
      | exact wpAny_bind (wpAny_rule (wpAny_bind (wpAny_standAt (wpAny_bind (wpAny_mono h (fun it' s' h' => wpAny_pure (And.intro rfl h')) fun _ _ x => x)))))
      | (refine wpAny_bind (wpAny_rule ?_); show wpAny _ _ (standAt iter.pos >>= _) _ _ s; exact wpAny_bind (wpAny_standAt (wpAny_bind (wpAny_mono h (fun it' s' h' => wpAny_pure (And.intro rfl h')) fun _ _ x => x))))
theorem TurnTo.run {gens : List Comprehension} {elt : Expr} {d : Nat} {x : PyData} {o : List PyData} (scope : Scope) (pos : Pos) (h : TurnTo G k csc gens elt ρ d x o) : TurnRun G k csc gens elt scope pos ρ d x o := by
  induction h with
  | no ρ d x ρ' t0 it0 ifs0 hg hb hsub hi =>
    intro t iter ifs hg' A env Wc Z M D pre s v it Q E ho hv c hr hl hQ
    rw [hg] at hg'; cases hg'
    unfold turnRest
    refine wpAny_bind (hb A env Wc Z M s v _ _ ho hv c.fm hr fun s1 k1 f1 _ => ?_)
    refine wpAny_bind (hi.run ho hv f1.vr fun s2 k2 => ?_)
    simp only [Bool.false_eq_true, if_false]
    refine wpAny_pure (hQ s2 ((k1.mono fun b hb => .inl hb).trans (.of k2)) ?_)
    simpa using ((c.fr k1 f1).keeps k2).weak hsub c.fm.vr.nd
  | leaf ρ d x ρ' t0 it0 ifs0 v0 hg hg2 hb hsub hi he =>
    intro t iter ifs hg' A env Wc Z M D pre s v it Q E ho hv c hr hl hQ
    rw [hg] at hg'; cases hg'
    unfold turnRest
    rw [hg2]
    refine wpAny_bind (hb A env Wc Z M s v _ _ ho hv c.fm hr fun s1 k1 f1 _ => ?_)
    refine wpAny_bind (hi.run ho hv f1.vr fun s2 k2 => ?_)
    have c2 := (c.fr k1 f1).keeps k2
    simp only [if_true]
    refine wpAny_bind (wpAny_bind (he A env M s2 _ _ ho hv c2.fm.vr fun u s3 k3 r3 => ?_))
    have c3 := c2.keeps k3
    simp only [List.length_singleton] at hl
    refine wpAny_bind (c3.append r3 (by lia) fun s4 k4 c4 => wpAny_pure (wpAny_pure (hQ s4 ?_ (c4.weak hsub c.fm.vr.nd))))
    exact (((k1.mono fun b hb => .inl hb).trans (.of (k2.trans k3))).trans (k4.mono fun b hb => .inr hb))
  | deep ρ d x ρ' t0 it0 ifs0 t' it' ifs' α f xs o hg hg2 hb hsub hi hit hfs _ ih =>
    intro t iter ifs hg' A env Wc Z M D pre s v it Q E ho hv c hr hl hQ
    rw [hg] at hg'; cases hg'
    unfold turnRest
    rw [hg2]
    refine wpAny_bind (hb A env Wc Z M s v _ _ ho hv c.fm hr fun s1 k1 f1 _ => ?_)
    refine wpAny_bind (hi.run ho hv f1.vr fun s2 k2 => ?_)
    have c2 := (c.fr k1 f1).keeps k2
    simp only [if_true]
    refine wpAny_bind (wpAny_mono (hit A env M s2 (fun it3 s3 => wpAny (model prog w) A (runOwn (.compStart (.ListComp elt gens scope pos) (d + 1) it3 (.ref D) env) env) (fun _ s4 => Q (.again (.compLoop (.ListComp elt gens scope pos) d it (.ref D) env)) s4) E s3) E ho hv c2.fm.vr ?_) (fun u s3 h3 => ?_) fun _ _ z => z)
    · intro I own Co h0 s3 k3 W hc3 hh1 hh2 hown
      have on : ∀ b, own b → s2.heap.get? b = none := fun b hb => by
        cases e : s2.heap.get? b with
        | none => rfl
        | some o' => obtain ⟨_, q⟩ := (hh1 b o' e).al; rw [(hown b hb).1] at q; cases q
      have c3 := c2.grow k3 on fun b hb => (hown b hb).2
      have nM : ∀ b, M b → ¬ own b := fun b hb q => by obtain ⟨o', e⟩ := c2.fm.vr.dom b hb; rw [on b q] at e; cases e
      have key : ∀ (R : Result → Shared → Prop), (∀ s4, KB G.T (fun b => (Wc b ∨ b = D) ∨ own b) s3 s4 → CS G csc env Wc Z M D ρ' (pre ++ xs.flatMap o) s4 → R (.ok .next) s4) →
          codeAny (model prog w) A (.compLoop (.ListComp elt gens scope pos) (d + 1) (.ref I) (.ref D) env) R s3 := fun R hR =>
        loop_run f o hg2 (M := fun a => M a ∨ own a) (M1 := M) W ho hv (fun b o' hb _ => ⟨rfl, hb.elim (c2.fm.sub b) fun q => q ▸ c2.dM⟩) (fun b o' e q => q.elim id fun q => by rw [(hown b q).1] at e; cases e) (fun b hb => .inr hb)
          (fun b hb q => nM b (c2.fm.sub b q) hb) (fun b hb q => nM b (c2.fm.zs b q) hb) (fun b hb => by
            cases e : G.hB.get? b with
            | none => rfl
            | some o' => obtain ⟨_, q⟩ := (c2.fm.vr.base b o' e).al; rw [on b hb] at q; cases q) (nM D c2.dM) (fun b hb => (hown b hb).1) (fun a ha => .inl ha) nM c2.fm.sub c2.fm.zs c2.dM
          xs 0 s3 pre rfl (Nat.zero_le _) (fun y hy => ih y hy) hc3 (fun b o' _ n e => (hh2 b o' e).nt n) c3 hl hR
      have fin : ∀ s4, KB G.T (fun b => (Wc b ∨ b = D) ∨ own b) s3 s4 → CS G csc env Wc Z M D ρ' (pre ++ xs.flatMap o) s4 → Q (.again (.compLoop (.ListComp elt gens scope pos) d it (.ref D) env)) s4 := fun s4 k4 c4 => by
        have KK := ((k1.mono (own' := fun b => (Wc b ∨ b = D) ∨ own b) fun b hb => .inl (.inl hb)).trans (.of (k2.trans k3))).trans k4
        refine hQ s4 ⟨KK.same, fun b o' hb e => ?_, KK.co⟩ (c4.weak hsub c.fm.vr.nd)
        have e2 : Gr G.T s2.heap b o' := (k1.tk b o' (fun q => hb (.inl q)) e).trans k2.code (k2.tk b)
        exact (e2.trans k3.code (k3.tk b)).trans k4.code fun o2 e3 => k4.tk b o2 (fun q => q.elim hb fun q => by obtain ⟨_, z⟩ := e2.al; rw [on b q] at z; cases z) e3
      refine wpAny_runOwn ?_
      rw [mark_none]
      exact codeAny_compStart_gen hg2 (key _ fin) (W.self 0 s3 _ _ hc3 (fun b o' _ n e => (hh2 b o' e).nt n) (key _ fin))
    · refine wpAny_bind (wpAny_standAt ?_)
      show wpAny _ A (foldedSetIterable it' env u >>= fun y => (holding [y] (pyIter y)) >>= fun z => runOwn (.compStart (.ListComp elt gens scope pos) (d + 1) z (.ref D) env) env >>= fun _ => again (.compLoop (.ListComp elt gens scope pos) d it (.ref D) env)) Q E s3
      rw [hfs]
      refine wpAny_bind (wpAny_pure (wpAny_bind (wpAny_holding (wpAny_mono h3 (fun z s4 h4 => wpAny_bind (wpAny_mono h4 (fun _ s5 h5 => wpAny_pure h5) fun _ _ z => z)) fun _ _ z => z))))
end
end
section
noncomputable def clOf (env : Env) : List (Str × NameKind) → List (Str × Addr) → List (Str × Addr)
  | [], acc => acc
  | (n, kind) :: r, acc => if kind == .free then clOf env r ((n, (env.cells.lookup n).getD 0) :: acc) else clOf env r acc
theorem forIn_clos (env : Env) (f : Str × NameKind → List (Str × Addr) → Sem (ForInStep (List (Str × Addr))))
    (hf : ∀ n kind cs, f (n, kind) cs = if kind == .free then (do let a ← cellOf env n; pure (.yield ((n, a) :: cs))) else pure (.yield cs)) :
    ∀ (names : List (Str × NameKind)) (acc : List (Str × Addr)), (∀ x, x ∈ names → x.2 = .free → ∃ c, env.cells.lookup x.1 = some c) → forIn names acc f = pure (clOf env names acc)
  | [], acc, _ => by rw [List.forIn_nil]; rfl
  | (n, kind) :: r, acc, h => by
    have ih := forIn_clos env f hf r
    rw [List.forIn_cons, hf]
    unfold clOf
    split
    · rename_i hk
      obtain ⟨c, hc⟩ := h (n, kind) List.mem_cons_self (by simpa using hk)
      have e : cellOf env n = pure c := by unfold cellOf; rw [hc]
      rw [e, hc]
      have := ih ((n, c) :: acc) fun x hx => h x (List.mem_cons_of_mem _ hx)
      simpa using this
    · have := ih acc fun x hx => h x (List.mem_cons_of_mem _ hx)
      simpa using this
theorem closureFor_eq {scope : Scope} {env : Env} (h : ∀ x, x ∈ scope.names → x.2 = .free → ∃ c, env.cells.lookup x.1 = some c) : closureFor scope env = pure (clOf env scope.names []) := by
  unfold closureFor
  have := forIn_clos env (fun x r => if x.2 == NameKind.free then (do let a ← cellOf env x.1; pure (ForInStep.yield ((x.1, a) :: r))) else pure (ForInStep.yield r)) (fun n kind cs => rfl) scope.names [] h
  simp only [bind_pure]
  exact this
theorem cellsFrom_acc : ∀ (names : List (Str × NameKind)) (n : Nat) (acc : List (Str × Addr)), cellsFrom n names acc = cellsFrom n names [] ++ acc
  | [], n, acc => rfl
  | (x, kind) :: r, n, acc => by
    unfold cellsFrom
    split
    · rw [cellsFrom_acc r (n + 1) ((x, n) :: acc), cellsFrom_acc r (n + 1) [(x, n)]]; simp
    · exact cellsFrom_acc r n acc
theorem cellsFrom_names : ∀ (names : List (Str × NameKind)) (n : Nat) (x : Str) (c : Addr), (x, c) ∈ cellsFrom n names [] → (x, .cell) ∈ names
  | [], n, x, c, h => by cases h
  | (y, kind) :: r, n, x, c, h => by
    unfold cellsFrom at h
    split at h
    · rename_i hk
      rw [cellsFrom_acc, List.mem_append] at h
      rcases h with h | h
      · exact List.mem_cons_of_mem _ (cellsFrom_names r _ x c h)
      · cases List.mem_singleton.mp h; rw [show kind = NameKind.cell by simpa using hk]; exact List.mem_cons_self
    · exact List.mem_cons_of_mem _ (cellsFrom_names r _ x c h)
theorem cellsFrom_has : ∀ (names : List (Str × NameKind)) (n : Nat) (x : Str), (x, .cell) ∈ names → ∃ c, (x, c) ∈ cellsFrom n names []
  | [], n, x, h => by cases h
  | (y, kind) :: r, n, x, h => by
    unfold cellsFrom
    rcases List.mem_cons.mp h with e | h
    · cases e
      refine ⟨n, ?_⟩
      rw [if_pos (by rfl), cellsFrom_acc]
      simp
    · split
      · obtain ⟨c, hc⟩ := cellsFrom_has r (n + 1) x h
        refine ⟨c, ?_⟩
        rw [cellsFrom_acc]; exact List.mem_append_left _ hc
      · exact cellsFrom_has r n x h
theorem clOf_acc (env : Env) : ∀ (names : List (Str × NameKind)) (acc : List (Str × Addr)), clOf env names acc = clOf env names [] ++ acc
  | [], acc => rfl
  | (x, kind) :: r, acc => by
    unfold clOf
    split
    · rw [clOf_acc env r (_ :: acc), clOf_acc env r [_]]; simp
    · exact clOf_acc env r acc
theorem clOf_mem (env : Env) : ∀ (names : List (Str × NameKind)) (x : Str) (c : Addr), (x, c) ∈ clOf env names [] → (x, .free) ∈ names ∧ c = (env.cells.lookup x).getD 0
  | [], x, c, h => by cases h
  | (y, kind) :: r, x, c, h => by
    unfold clOf at h
    split at h
    · rename_i hk
      rw [clOf_acc, List.mem_append] at h
      rcases h with h | h
      · have := clOf_mem env r x c h; exact ⟨List.mem_cons_of_mem _ this.1, this.2⟩
      · cases List.mem_singleton.mp h; rw [show kind = NameKind.free by simpa using hk]; exact ⟨List.mem_cons_self, rfl⟩
    · have := clOf_mem env r x c h; exact ⟨List.mem_cons_of_mem _ this.1, this.2⟩
theorem clOf_has (env : Env) : ∀ (names : List (Str × NameKind)) (x : Str), (x, .free) ∈ names → (x, (env.cells.lookup x).getD 0) ∈ clOf env names []
  | [], x, h => by cases h
  | (y, kind) :: r, x, h => by
    unfold clOf
    rcases List.mem_cons.mp h with e | h
    · cases e
      rw [if_pos (by rfl), clOf_acc]; simp
    · split
      · rw [clOf_acc]; exact List.mem_append_left _ (clOf_has env r x h)
      · exact clOf_has env r x h
theorem lookup_of_mem {α : Type} : ∀ {l : List (Str × α)} {n : Str} {c : α}, (n, c) ∈ l → (∀ c', (n, c') ∈ l → c' = c) → l.lookup n = some c
  | (k, v) :: r, n, c, h, hu => by
    rw [List.lookup_cons]
    cases hb : n == k with
    | true =>
      have : n = k := beq_iff_eq.mp hb
      subst this
      rw [hu v List.mem_cons_self]
    | false =>
      rcases List.mem_cons.mp h with e | h
      · cases e; simp at hb
      · exact lookup_of_mem h fun c' hc' => hu c' (List.mem_cons_of_mem _ hc')
theorem lookup_none {α : Type} : ∀ {l : List (Str × α)} {n : Str}, (∀ c, (n, c) ∉ l) → l.lookup n = none
  | [], n, h => rfl
  | (k, v) :: r, n, h => by
    rw [List.lookup_cons]
    cases hb : n == k with
    | true => rw [beq_iff_eq.mp hb] at h; exact absurd List.mem_cons_self (h v)
    | false => exact lookup_none fun c hc => h c (List.mem_cons_of_mem _ hc)
theorem lookup_relabel {env : Env} {x : Str} : ∀ {names : List (Str × NameKind)},
    (names.map fun (n, k) => if (k == NameKind.free && env.scope.kind == .function && env.kindOf n == some .cell) then (n, NameKind.cell) else (n, k)).lookup x =
      (names.lookup x).map fun k => if (k == NameKind.free && env.scope.kind == .function && env.kindOf x == some .cell) then NameKind.cell else k
  | [] => rfl
  | (n, k) :: r => by
    have ih := @lookup_relabel env x r
    show List.lookup x ((if (k == NameKind.free && env.scope.kind == .function && env.kindOf n == some .cell) = true then (n, NameKind.cell) else (n, k)) :: _) = _
    cases hx : x == n with
    | true =>
      have hxn : x = n := beq_iff_eq.mp hx
      subst hxn
      by_cases hc : (k == NameKind.free && env.scope.kind == .function && env.kindOf x == some .cell) = true
      · rw [if_pos hc]; simp only [List.lookup_cons, beq_self_eq_true, Option.map_some]; rw [if_pos hc]
      · rw [if_neg hc]; simp only [List.lookup_cons, beq_self_eq_true, Option.map_some]; rw [if_neg hc]
    | false =>
      by_cases hc : (k == NameKind.free && env.scope.kind == .function && env.kindOf n == some .cell) = true
      · rw [if_pos hc]; simp only [List.lookup_cons, hx]; exact ih
      · rw [if_neg hc]; simp only [List.lookup_cons, hx]; exact ih
noncomputable def compOk (sc csc : Scope) : Bool :=
  csc.kind == .function && decide (csc.names.map (·.1)).Nodup && csc.names.all fun y => y.1 != ("__debug__" : Str) && y.1 != ("__classdict__" : Str) && (y.2 != .free || sc.names.lookup y.1 == some .cell || sc.names.lookup y.1 == some .free)
section
variable {M : Model} {A : Around} {E : Value → Shared → Prop} {s : Shared}
theorem wpAny_newEnv_comp {scope : Scope} {cl : List (Str × Addr)} {env : Env} {Q : Env → Shared → Prop}
    (hQ : Q { scope := scope, locals := s.heap.objs.size, globals := env.globals, cells := cellsFrom (s.heap.objs.size + 1) scope.names cl, qual := env.qual, func := none, code := env.code, frame := env.frame, builtins := env.builtins }
      { s with heap := pushCells (s.heap.push { cls := .type "dict", data := .dict #[] }) scope.names }) :
    wpAny M A (newFunctionEnv scope env.globals cl [] env.qual none .none (some env)) Q E s := by
  simp only [newFunctionEnv, Option.isSome_some, if_true]
  refine wpAny_bind (wpAny_alloc ?_)
  refine wpAny_bind (wpAny_layCells _ (fun name kind cells => by cases hkc : kind == NameKind.cell <;> simp [hkc]) _ _ _ _ ?_)
  rw [show ({ s with heap := s.heap.push { cls := .type "dict", data := .dict #[] } } : Shared).heap.objs.size = s.heap.objs.size + 1 from Heap.size_push ..]
  rw [List.forIn_nil]
  exact wpAny_bind (wpAny_pure (wpAny_pure hQ))
end
inductive Filt (csc : Scope) : VEnv → VEnv → Prop
  | nil : Filt csc [] []
  | keep {x b r r'} : csc.names.lookup x = some .free → Filt csc r r' → Filt csc ((x, b) :: r) ((x, b) :: r')
  | drop {x b r r'} : Filt csc r r' → Filt csc ((x, b) :: r) r'
theorem Filt.mem {csc : Scope} {ρ ρc : VEnv} (h : Filt csc ρ ρc) : ∀ x b, (x, b) ∈ ρc → csc.names.lookup x = some .free ∧ (x, b) ∈ ρ := by
  induction h with
  | nil => intro x b hx; cases hx
  | keep hf _ ih =>
    intro x b hx
    rcases List.mem_cons.mp hx with e | e
    · cases e; exact ⟨hf, List.mem_cons_self⟩
    · exact ⟨(ih x b e).1, List.mem_cons_of_mem _ (ih x b e).2⟩
  | drop _ ih => intro x b hx; exact ⟨(ih x b hx).1, List.mem_cons_of_mem _ (ih x b hx).2⟩
theorem Filt.sublist {csc : Scope} {ρ ρc : VEnv} (h : Filt csc ρ ρc) : ρc.Sublist ρ := by
  induction h with
  | nil => exact .slnil
  | keep _ _ ih => exact ih.cons₂ _
  | drop _ ih => exact ih.cons _
section
variable {prog : Program} {w : World} {G : Gl prog w} {k : Nat} {sc csc : Scope} {ρ ρc : VEnv}
theorem Kp.trans' {T : TabS} {own : Addr → Prop} {s s' s'' : Shared} (a : Kp T s s') (b : KB T own s' s'') (hn : ∀ b, own b → s.heap.get? b = none) : Kp T s s'' :=
  ((KB.of a).trans b).kp hn
structure CompOk (sc csc : Scope) : Prop where
  kind : csc.kind = .function
  nd : (csc.names.map (·.1)).Nodup
  dbg : csc.names.lookup ("__debug__" : Str) = none
  cd : csc.names.lookup ("__classdict__" : Str) = none
  free : ∀ x, (x, NameKind.free) ∈ csc.names → (sc.names.lookup x = some .cell ∨ sc.names.lookup x = some .free)
theorem compOk.of (h : compOk sc csc = true) : CompOk sc csc := by
  simp only [compOk, Bool.and_eq_true, decide_eq_true_eq, List.all_eq_true, bne_iff_ne, Bool.or_eq_true, beq_iff_eq] at h
  obtain ⟨⟨h1, h2⟩, h3⟩ := h
  refine ⟨h1, h2, lookup_none fun c hc => (h3 _ hc).1.1 rfl, lookup_none fun c hc => (h3 _ hc).1.2 rfl, fun x hx => ?_⟩
  rcases (h3 _ hx).2 with (q | q) | q
  · exact absurd rfl q
  · exact .inl q
  · exact .inr q
theorem CompOk.mem {n : Str} {c c' : NameKind} (h : CompOk sc csc) (a : (n, c) ∈ csc.names) (b : (n, c') ∈ csc.names) : c = c' := by
  have key : ∀ (l : List (Str × NameKind)), (l.map (·.1)).Nodup → (n, c) ∈ l → (n, c') ∈ l → c = c' := by
    intro l
    induction l with
    | nil => intro _ a; cases a
    | cons y r ih =>
      intro hn a b
      simp only [List.map_cons, List.nodup_cons] at hn
      rcases List.mem_cons.mp a with e | a <;> rcases List.mem_cons.mp b with e' | b
      · rw [← e'] at e; exact (Prod.mk.inj e).2
      · exact absurd (List.mem_map.mpr ⟨_, b, by rw [← e]⟩) hn.1
      · exact absurd (List.mem_map.mpr ⟨_, a, by rw [← e']⟩) hn.1
      · exact ih hn.2 a b
  exact key _ h.nd a b
theorem CompOk.look {n : Str} {c : NameKind} (h : CompOk sc csc) (a : (n, c) ∈ csc.names) : csc.names.lookup n = some c := lookup_of_mem a fun _ hc' => h.mem hc' a
theorem comp_frame {O : Obj} {ds : List PyData} {t iter cx : Expr} {new : Sem Value} {Post : (Addr → Prop) → Addr → Heap → Prop} {A : Around} {env : Env} {M : Addr → Prop} {s : Shared} {E : Value → Shared → Prop} {RR : Value → Addr → Result → Shared → Prop}
    (hfree : O.isFreed = false) (hpost : ∀ (X Y : Addr → Prop) D h, (∀ a, Y a → X a) → Post X D h → Post Y D h)
    (hnew : ∀ {s : Shared} {Q : Value → Shared → Prop} {E : Value → Shared → Prop}, Q (.ref s.heap.objs.size) { s with heap := s.heap.push O } → wpAny (model prog w) A new Q E s)
    (hc : CompOk sc csc) (hρ : Filt csc ρ ρc) (hit : ItTo G k sc ρ t false iter ds)
    (hstart : ∀ {it acc : Value} {cenv : Env} {R : Result → Shared → Prop} {s : Shared}, codeAny (model prog w) A (.compLoop cx 0 it acc cenv) R s →
      wpAny (model prog w) A (pyIter it) (fun it' s' => codeAny (model prog w) A (.compLoop cx 0 it' acc cenv) R s') (notedBy (model prog w) A cenv fun x s' => R (.error x) s') s → codeAny (model prog w) A (.compStart cx 0 it acc cenv) R s)
    (hloop : ∀ (I D : Addr) (own Wc : Addr → Prop) (Co : Nat → Heap → Prop) (h0 : Heap) (cenv : Env) (s4 : Shared) (R : Result → Shared → Prop), Wk prog w G.T A I own (fun b => false = true ∧ M b) M h0 t ds Co → EnvOk csc cenv →
      Fm (prog := prog) (w := w) G csc cenv Wc M (fun a => M a ∨ ((Wc a ∨ a = D) ∨ own a)) ρc s4 → s4.heap.get? D = some O → Co 0 s4.heap → Agr (fun b => false = true ∧ M b) h0 s4.heap →
      (∀ b, (Wc b ∨ b = D) → h0.get? b = none) → (∀ b, own b → h0.get? b = none) → (∀ b, own b → ¬ (Wc b ∨ b = D)) → (∀ b, ((Wc b ∨ b = D) ∨ own b) → ¬ M b) → (∀ b, ((Wc b ∨ b = D) ∨ own b) → G.hB.get? b = none) → ¬ Wc D →
      (∀ s5, KB G.T (fun b => (Wc b ∨ b = D) ∨ own b) s4 s5 → (∃ m, s5.heap.Ns cenv.locals m) → Post (fun a => M a ∨ (Wc a ∨ a = D)) D s5.heap → R (.ok .next) s5) →
      codeAny (model prog w) A (.compLoop cx 0 (.ref I) (.ref D) cenv) R s4)
    (ho : Ok k A) (hv : EnvOk sc env) (hr : VR G env M ρ s)
    (hQ : ∀ D C s', Kp G.T s s' → (∃ m, s'.heap.Ns C m) → s.heap.get? C = none → s.heap.get? D = none → D ≠ C → mainGlobals < D → Post (fun a => M a ∨ a = C ∨ a = D) D s'.heap → RR (.ref D) C (.ok .next) s') :
    wpAny (model prog w) A (eval iter env) (fun x s₁ => wpAny (model prog w) A (pyIter x) (fun it s₂ => wpAny (model prog w) A new (fun acc s₃ =>
      wpAny (model prog w) A (newFunctionEnv csc env.globals (clOf env csc.names []) [] env.qual none .none (some env)) (fun cenv s₄ =>
        codeAny (model prog w) A (.compStart cx 0 it acc { cenv with scope := relabel csc env }) (RR acc cenv.locals) s₄) E s₃) E s₂) E s₁) E s := by
  refine hit A env M s _ _ ho hv hr fun I own Co h0 s2 k2 W hc0 hh1 hh2 hown => ?_
  refine hnew (wpAny_newEnv_comp ?_)
  dsimp only
  generalize hH2 : s2.heap.push O = H2
  have hs2 : H2.objs.size = s2.heap.objs.size + 1 := by rw [← hH2, Heap.size_push]
  generalize hH3 : H2.push { cls := .type "dict", data := .dict #[] } = H3
  have hs3 : H3.objs.size = H2.objs.size + 1 := by rw [← hH3, Heap.size_push]
  have fr2 : ∀ a, s2.heap.objs.size ≤ a → s2.heap.get? a = none := fun a ha => fresh_none ha
  have all2 : ∀ b o, s2.heap.get? b = some o → (pushCells H3 csc.names).get? b = some o := fun b o e => pushCells_keeps _ _ b o (by rw [← hH3]; exact Heap.get?_push_of_some _ (by rw [← hH2]; exact Heap.get?_push_of_some _ e))
  have ok := cellsFrom_ok csc.names H3 (H2.objs.size + 1) [] ⟨fun _ _ hm => (nomatch hm), List.Pairwise.nil⟩ (by rw [hs3]; exact Nat.le_refl _)
  rw [hs3] at ok
  generalize hcs : cellsFrom (H2.objs.size + 1) csc.names [] = cs at ok
  have hcells : cellsFrom (H2.objs.size + 1) csc.names (clOf env csc.names []) = cs ++ clOf env csc.names [] := by rw [cellsFrom_acc, hcs]
  rw [hcells]
  generalize hD : s2.heap.objs.size = D
  generalize hC : H2.objs.size = C
  have hCD : C = D + 1 := by rw [← hC, hs2, hD]
  generalize hs4 : ({ s2 with heap := pushCells H3 csc.names } : Shared) = s4
  have k4 : Kp G.T s2 s4 := by rw [← hs4]; exact Kp.mk' (t := s2.toks) all2
  have kk : Kp G.T s s4 := k2.trans k4
  have hheap : s4.heap = pushCells H3 csc.names := by rw [← hs4]
  have dNone : s2.heap.get? D = none := fr2 D (by rw [hD]; exact Nat.le_refl _)
  have cNone : s2.heap.get? C = none := fr2 C (by rw [hCD, hD]; exact Nat.le_succ _)
  have back : ∀ b, s2.heap.get? b = none → s.heap.get? b = none := fun b e => by
    cases e' : s.heap.get? b with
    | none => rfl
    | some o' => obtain ⟨_, q⟩ := k2.al e'; rw [q] at e; cases e
  generalize hce : ({ scope := relabel csc env, locals := C, globals := env.globals, cells := cs ++ clOf env csc.names [], qual := env.qual, func := none, code := env.code, frame := env.frame, builtins := env.builtins } : Env) = cenv
  have hloc : cenv.locals = C := by rw [← hce]
  have hcel : cenv.cells = cs ++ clOf env csc.names [] := by rw [← hce]
  have hsc : cenv.scope = relabel csc env := by rw [← hce]
  have csNames : ∀ x c, (x, c) ∈ cs → (x, NameKind.cell) ∈ csc.names := fun x c hx => cellsFrom_names csc.names _ x c (by rw [hcs]; exact hx)
  have csAddr : ∀ x c, (x, c) ∈ cs → s2.heap.get? c = none ∧ c ≠ C ∧ c ≠ D := fun x c hx => by
    have h1 := (ok.empty x c hx).2
    have hlt : C < c := by rw [hC] at h1; exact h1
    refine ⟨fr2 c ?_, Nat.ne_of_gt hlt, fun e => ?_⟩
    · rw [hD]; rw [hCD] at hlt; exact Nat.le_of_lt (Nat.lt_of_succ_lt hlt)
    · rw [e, hCD] at hlt; exact Nat.not_succ_lt_self hlt
  have freeCell : ∀ x, (x, NameKind.free) ∈ csc.names → ∃ c, env.cells.lookup x = some c ∧ M c := fun x hx => by
    obtain ⟨c, hc'⟩ := hv.cells x (hc.free x hx)
    exact ⟨c, hc', hr.cel x c hc'⟩
  have lookC : ∀ x c, (cs ++ clOf env csc.names []).lookup x = some c → ((x, c) ∈ cs ∧ (x, NameKind.cell) ∈ csc.names) ∨ ((x, NameKind.free) ∈ csc.names ∧ env.cells.lookup x = some c) := fun x c hx => by
    have := mem_of_lookup hx
    rcases List.mem_append.mp this with h | h
    · exact .inl ⟨h, csNames x c h⟩
    · obtain ⟨h1, h2⟩ := clOf_mem env csc.names x c h
      obtain ⟨c', hc', _⟩ := freeCell x h1
      refine .inr ⟨h1, ?_⟩
      rw [hc'] at h2 ⊢; rw [h2]; rfl
  have lookOwn : ∀ x, (x, NameKind.cell) ∈ csc.names → ∃ c, (x, c) ∈ cs ∧ (cs ++ clOf env csc.names []).lookup x = some c := fun x hx => by
    obtain ⟨c, hc'⟩ := cellsFrom_has csc.names (H2.objs.size + 1) x hx
    rw [hcs] at hc'
    have huniq : ∀ (l : List (Str × NameKind)) (n : Nat), (l.map (·.1)).Nodup → ∀ c c', (x, c) ∈ cellsFrom n l [] → (x, c') ∈ cellsFrom n l [] → c' = c := by
      intro l
      induction l with
      | nil => intro n _ c c' h; cases h
      | cons y r ih =>
        intro n hn c c' h h'
        obtain ⟨y1, y2⟩ := y
        simp only [List.map_cons, List.nodup_cons] at hn
        unfold cellsFrom at h h'
        split at h
        · rename_i hk
          rw [if_pos hk] at h'
          rw [cellsFrom_acc, List.mem_append] at h h'
          have hno : ∀ c, (y1, c) ∉ cellsFrom (n + 1) r [] := fun c hc => hn.1 (List.mem_map.mpr ⟨_, cellsFrom_names r _ _ _ hc, rfl⟩)
          rcases h with h | h <;> rcases h' with h' | h'
          · exact ih _ hn.2 c c' h h'
          · cases List.mem_singleton.mp h'; exact absurd h (hno c)
          · cases List.mem_singleton.mp h; exact absurd h' (hno c')
          · cases List.mem_singleton.mp h; cases List.mem_singleton.mp h'; rfl
        · rename_i hk
          rw [if_neg hk] at h'
          exact ih _ hn.2 c c' h h'
    refine ⟨c, hc', lookup_of_mem (List.mem_append_left _ hc') fun c' hc2 => ?_⟩
    rcases List.mem_append.mp hc2 with h | h
    · exact huniq csc.names (H2.objs.size + 1) hc.nd c c' (by rw [hcs]; exact hc') (by rw [hcs]; exact h)
    · have := hc.mem hx (clOf_mem env csc.names x c' h).1; cases this
  have lookFree : ∀ x c, (x, NameKind.free) ∈ csc.names → env.cells.lookup x = some c → (cs ++ clOf env csc.names []).lookup x = some c := fun x c hx hcx => by
    have h1 := clOf_has env csc.names x hx
    rw [hcx] at h1
    refine lookup_of_mem (List.mem_append_right _ h1) fun c' hc2 => ?_
    rcases List.mem_append.mp hc2 with h | h
    · have := hc.mem hx (csNames x c' h); cases this
    · have := (clOf_mem env csc.names x c' h).2; rw [hcx] at this; exact this
  have kindEq : ∀ x, cenv.kindOf x = (csc.names.lookup x).map fun k => if (k == NameKind.free && env.scope.kind == .function && env.kindOf x == some .cell) then NameKind.cell else k := fun x => by
    show cenv.scope.names.lookup x = _
    rw [hsc]; exact lookup_relabel
  have hvc : EnvOk csc cenv := by
    refine ⟨by rw [hsc]; exact hc.kind, by rw [← hce]; exact hv.glob, by rw [← hce]; exact hv.blt, fun x hx => by rw [kindEq, hx]; rfl, fun x hx => ?_, fun x => ?_, by rw [kindEq, hc.dbg]; rfl, fun x hx => ?_, by rw [kindEq, hc.cd]; rfl⟩
    · rcases hx with hx | hx
      · rw [kindEq, hx]; exact .inl rfl
      · rw [kindEq, hx]
        simp only [Option.map_some]
        split
        · exact .inl rfl
        · exact .inr rfl
    · rw [kindEq]
      cases e : csc.names.lookup x with
      | none => rfl
      | some kk =>
        simp only [Option.map_some]
        by_cases hc2 : (kk == NameKind.free && env.scope.kind == .function && env.kindOf x == some .cell) = true
        · rw [if_pos hc2]
          simp only [Bool.and_eq_true, beq_iff_eq] at hc2
          rw [hc2.1.1]; rfl
        · rw [if_neg hc2]
    · rw [hcel]
      rcases hx with hx | hx
      · obtain ⟨c, _, h⟩ := lookOwn x (mem_of_lookup hx); exact ⟨c, h⟩
      · obtain ⟨c, h, _⟩ := freeCell x (mem_of_lookup hx); exact ⟨c, lookFree x c (mem_of_lookup hx) h⟩
  let Wc : Addr → Prop := fun a => a = C ∨ ∃ x, (x, a) ∈ cs
  have hDO : s4.heap.get? D = some O := by
    rw [hheap]
    exact pushCells_keeps _ _ _ _ (by rw [← hH3]; exact Heap.get?_push_of_some _ (by rw [← hH2, ← hD]; exact Heap.get?_push_size _ hfree))
  have hCns : s4.heap.Ns C fun _ => none := by
    rw [hheap, ← hC]
    exact (by rw [← hH3]; exact Heap.Ns.new H2 (.type "dict") : H3.Ns H2.objs.size fun _ => none).keeps (pushCells_keeps _ _)
  have wcNone : ∀ a, Wc a → s2.heap.get? a = none := fun a ha => by
    rcases ha with rfl | ⟨x, hx⟩
    · exact cNone
    · exact (csAddr x a hx).1
  have csCell : ∀ x c, (x, c) ∈ cs → s4.heap.IsCell c none := fun x c hx => by rw [hheap]; exact (ok.empty x c hx).1
  have wcDom : ∀ a, Wc a → ∃ o, s4.heap.get? a = some o := fun a ha => by
    rcases ha with rfl | ⟨x, hx⟩
    · obtain ⟨o, _, _, ho', _⟩ := hCns; exact ⟨o, ho'⟩
    · obtain ⟨o, ho', _⟩ := csCell x a hx; exact ⟨o, ho'⟩
  have wcD : ¬ Wc D := fun h => by
    rcases h with h | ⟨x, hx⟩
    · rw [hCD] at h; exact Nat.succ_ne_self _ h.symm
    · exact (csAddr x D hx).2.2 rfl
  let N : Addr → Prop := fun a => (Wc a ∨ a = D) ∨ own a
  let Mc : Addr → Prop := fun a => M a ∨ N a
  have ownNone : ∀ b, own b → s.heap.get? b = none := fun b hb => by
    cases e : s.heap.get? b with
    | none => rfl
    | some o' => obtain ⟨_, q⟩ := (hh1 b o' e).al; rw [(hown b hb).1] at q; cases q
  have nNone : ∀ b, N b → s.heap.get? b = none := fun b hb => by
    rcases hb with (hb | rfl) | hb
    · exact back b (wcNone b hb)
    · exact back b dNone
    · exact ownNone b hb
  have nDom : ∀ b, N b → ∃ o, s4.heap.get? b = some o := fun b hb => by
    rcases hb with (hb | rfl) | hb
    · exact wcDom b hb
    · exact ⟨_, hDO⟩
    · obtain ⟨o', e⟩ := (hown b hb).2; exact k4.al e
  have ndc : (ρc.map (·.1)).Nodup := (hρ.sublist.map _).nodup hr.nd
  have accC : ∀ x u, csc.names.lookup x = some .free → Acc env s.heap x u → Acc cenv s4.heap x u := fun x u hx ha => by
    have hm := mem_of_lookup hx
    have hk : env.kindOf x = some .cell ∨ env.kindOf x = some .free := hv.kindC x (hc.free x hm)
    rcases ha with ⟨h1, _⟩ | ⟨_, c, h2, h3⟩
    · rw [h1] at hk; rcases hk with hk | hk <;> cases hk
    · exact .inr ⟨hvc.kindC x (.inr hx), c, by rw [hcel]; exact lookFree x c hm h2, Cel.gr h3 (kk.nt _)⟩
  have hfm : Fm (prog := prog) (w := w) G csc cenv Wc M Mc ρc s4 := by
    refine ⟨⟨⟨_, by rw [hloc]; exact hCns⟩, by rw [hloc]; exact .inl rfl, fun x hx => ?_, fun a ob ha e => ?_⟩, ⟨fun b ob e => (hr.base b ob e).trans kk.code (kk.tk b), fun a ha => ?_, fun x b hx => ?_, fun x c hx => ?_, ndc⟩, fun a ha => .inr (.inl (.inl ha)), fun a ha => ?_, fun x b hx hb => ?_, fun x c hx => ?_, fun a ha => .inl ha⟩
    · obtain ⟨c, h1, h2⟩ := lookOwn x (mem_of_lookup hx)
      refine ⟨by rw [kindEq, hx]; rfl, c, none, by rw [hcel]; exact h2, csCell x c h1, .inr ⟨x, h1⟩, by rw [hloc]; exact (csAddr x c h1).2.1, fun y hy => ?_⟩
      rw [hcel] at hy
      rcases lookC y c hy with ⟨h3, _⟩ | ⟨_, h3⟩
      · exact name_of_addr ok.apart h3 h1
      · obtain ⟨o', e⟩ := hr.dom c (hr.cel y c h3)
        obtain ⟨_, q⟩ := k2.al e
        rw [(csAddr x c h1).1] at q; cases q
    · rcases ha with rfl | ⟨x, hx⟩
      · exact .inl hloc.symm
      · obtain ⟨o', ho', hd'⟩ := csCell x a hx
        rw [ho'] at e; cases e; exact .inr ⟨_, hd'⟩
    · rcases ha with ha | ha
      · obtain ⟨o', e⟩ := hr.dom a ha; exact kk.al e
      · exact nDom a ha
    · obtain ⟨hf', hx'⟩ := hρ.mem x b hx
      have r1 := (hr.ent x b hx').grow (own := N) nNone
      cases b with
      | un => trivial
      | is v => exact accC x v hf' r1
      | own d => obtain ⟨v, a, r⟩ := r1; exact ⟨v, accC x v hf' a, Rp.agr kk.agr _ _ r⟩
      | mu ds => obtain ⟨a, items, h1, h2, h3, h4, h5⟩ := r1; exact ⟨a, items, accC x _ hf' h1, h2, PL.gr h3 (kk.nt _), RpL.agr kk.agr _ _ h4, h5⟩
      | mud D' =>
        obtain ⟨a, kvs, h1, h2, hl', h2', h3, h4, h5⟩ := r1
        refine ⟨a, kvs, accC x _ hf' h1, h2, fun e => ?_, h2', Dic.gr h3 (kk.nt _), RpD.agr kk.agr _ _ h4, h5⟩
        obtain ⟨o', es, ep, ho', _⟩ := h3
        rw [e, hloc, back C cNone] at ho'; cases ho'
    · rw [hcel] at hx
      rcases lookC x c hx with ⟨h1, _⟩ | ⟨h1, h2⟩
      · exact .inr (.inl (.inl (.inr ⟨x, h1⟩)))
      · exact .inl (hr.cel x c h2)
    · cases e : G.hB.get? a with
      | none => rfl
      | some o' => obtain ⟨_, q⟩ := (hr.base a o' e).al; rw [back a (wcNone a ha)] at q; cases q
    · obtain ⟨hf', hx'⟩ := hρ.mem x b hx
      have r1 := hr.ent x b hx'
      cases b with
      | un => cases hb
      | is v => cases hb
      | own d => cases hb
      | mu ds => obtain ⟨a, items, h1, h2, _⟩ := r1; exact ⟨a, accC x _ hf' h1, h2⟩
      | mud D' => obtain ⟨a, kvs, h1, h2, _⟩ := r1; exact ⟨a, accC x _ hf' h1, h2⟩
    · rw [hcel] at hx
      rcases lookC x c hx with ⟨h1, _⟩ | ⟨h1, h2⟩
      · exact .inl (.inr ⟨x, h1⟩)
      · exact .inr (hr.cel x c h2)
  have nM : ∀ b, N b → ¬ M b := fun b hb q => by obtain ⟨o', e⟩ := hr.dom b q; rw [nNone b hb] at e; cases e
  have nB : ∀ b, N b → G.hB.get? b = none := fun b hb => by
    cases e : G.hB.get? b with
    | none => rfl
    | some o' => obtain ⟨_, q⟩ := (hr.base b o' e).al; rw [nNone b hb] at q; cases q
  have ownD : ∀ b, own b → ¬ (Wc b ∨ b = D) := fun b hb q => by
    obtain ⟨o', e⟩ := (hown b hb).2
    rcases q with q | rfl
    · rw [wcNone b q] at e; cases e
    · rw [dNone] at e; cases e
  have h0n : ∀ b, (Wc b ∨ b = D) → h0.get? b = none := fun b hb => by
    cases e : h0.get? b with
    | none => rfl
    | some o' =>
      obtain ⟨_, e2⟩ := (hh2 b o' e).al
      rcases hb with hb | rfl
      · rw [wcNone b hb] at e2; cases e2
      · rw [dNone] at e2; cases e2
  have hco4 : Co 0 s4.heap := W.frame 0 _ _ hc0 fun b o' _ e => k4.tk b o' e
  have hag4 : Agr (fun b => false = true ∧ M b) h0 s4.heap := fun b o' _ n e => k4.nt b o' n ((hh2 b o' e).nt n)
  have loop : codeAny (model prog w) A (.compLoop cx 0 (.ref I) (.ref D) cenv) (RR (.ref D) C) s4 := by
    refine hloop I D own Wc Co h0 cenv s4 _ W hvc hfm hDO hco4 hag4 h0n (fun b hb => (hown b hb).1) ownD nM nB wcD fun s5 k5 hm hP => ?_
    refine hQ D C s5 (kk.trans' k5 nNone) (hloc ▸ hm) (back C cNone) (back D dNone) (fun e => by rw [hCD] at e; exact Nat.succ_ne_self _ e.symm) ?_ (hpost _ _ _ _ (fun a q => q.elim .inl fun q => .inr (q.elim (fun q => .inl (.inl q)) .inr)) hP)
    obtain ⟨_, g1⟩ := (hr.base mainGlobals _ G.g.choose_spec.choose_spec.choose_spec.1).al
    obtain ⟨_, g2⟩ := k2.al g1
    rw [← hD]; exact Heap.lt_size g2
  exact hstart loop (W.self 0 s4 _ _ hco4 hag4 loop)
theorem comp_core {α : Type} (f : α → PyData) (o : α → List PyData) {elt t iter : Expr} {ifs : List Expr} {rest : List Comprehension} {pos : Pos} {xs : List α} {A : Around} {env : Env} {M : Addr → Prop} {s : Shared} {E : Value → Shared → Prop} {RR : Value → Addr → Result → Shared → Prop}
    (hc : CompOk sc csc) (hρ : Filt csc ρ ρc) (hit : ItTo G k sc ρ t false iter (xs.map f)) (hT : ∀ x, x ∈ xs → TurnTo G k csc (⟨t, iter, ifs, 0⟩ :: rest) elt ρc 0 (f x) (o x)) (hl : (xs.flatMap o).length ≤ lid)
    (ho : Ok k A) (hv : EnvOk sc env) (hr : VR G env M ρ s)
    (hQ : ∀ D C s', Kp G.T s s' → (∃ m, s'.heap.Ns C m) → s.heap.get? C = none → s.heap.get? D = none → D ≠ C → (∃ items, s'.heap.PlainList D items ∧ RpL prog w s'.heap (fun a => M a ∨ a = C ∨ a = D) (xs.flatMap o) items.toList) → RR (.ref D) C (.ok .next) s') :
    wpAny (model prog w) A (eval iter env) (fun x s₁ => wpAny (model prog w) A (pyIter x) (fun it s₂ => wpAny (model prog w) A (newList []) (fun acc s₃ =>
      wpAny (model prog w) A (newFunctionEnv csc env.globals (clOf env csc.names []) [] env.qual none .none (some env)) (fun cenv s₄ =>
        codeAny (model prog w) A (.compStart (.ListComp elt (⟨t, iter, ifs, 0⟩ :: rest) csc pos) 0 it acc { cenv with scope := relabel csc env }) (RR acc cenv.locals) s₄) E s₃) E s₂) E s₁) E s := by
  refine comp_frame (O := { cls := .type "list", dict := none, data := .seq ([] : List Value).toArray }) (Post := fun X D h => ∃ items, h.PlainList D items ∧ RpL prog w h X (xs.flatMap o) items.toList)
    rfl (fun X Y D h hs hP => let ⟨items, h1, h2⟩ := hP; ⟨items, h1, RpL.sub (fun a o' e => hs a) _ _ h2⟩) (fun h => wpAny_newObj_type h) hc hρ hit (fun hl hp => codeAny_compStart_gen rfl hl hp) (fun I D own Wc Co h0 cenv s4 R W hvc hfm hDO hco hag h0n hown ownD nM nB wcD hR => ?_) ho hv hr fun D C s' a1 a2 a3 a4 a5 _ => hQ D C s' a1 a2 a3 a4 a5
  have hD : s4.heap.PlainList D #[] := ⟨_, hDO⟩
  have hcs0 : CS G csc cenv Wc M (fun a => M a ∨ ((Wc a ∨ a = D) ∨ own a)) D ρc [] s4 := ⟨hfm, ⟨#[], hD, RpL.nil⟩, .inr (.inl (.inr rfl)), wcD, nM D (.inl (.inr rfl)), nB D (.inl (.inr rfl))⟩
  refine loop_run f o (gens := ⟨t, iter, ifs, 0⟩ :: rest) (d := 0) rfl (M := fun a => M a ∨ ((Wc a ∨ a = D) ∨ own a)) (M1 := fun a => M a ∨ (Wc a ∨ a = D)) W ho hvc (fun b o' hb e => by rw [h0n b hb] at e; cases e) (fun b o' e q => ?_) (fun b hb => .inr (.inr hb)) (fun b hb q => ownD b hb (.inl q)) (fun b hb => nM b (.inr hb)) (fun b hb => nB b (.inr hb)) (fun q => ownD D q (.inr rfl)) hown
    (fun a ha => ha.elim .inl fun h => .inr (.inl h)) (fun a ha q => ha.elim (nM a (.inr q)) (ownD a q)) (fun a ha => .inr (.inl ha)) (fun a ha => .inl ha) (.inr (.inr rfl))
    xs 0 s4 [] rfl (Nat.zero_le _) (fun x hx => (hT x hx).run csc pos) hco hag hcs0 (by simpa using hl) fun s5 k5 c5 => ?_
  · rcases q with q | (q | q)
    · exact q
    · rw [h0n b q] at e; cases e
    · rw [hown b q] at e; cases e
  · obtain ⟨items, h1, h2⟩ := c5.acc
    exact hR s5 k5 c5.fm.fe.loc ⟨items, h1, by simpa only [List.nil_append] using h2⟩
end
end
section
section
variable {prog : Program} {w : World} {G : Gl prog w} {k : Nat} {sc csc : Scope} {ρ ρc : VEnv}
theorem comp_names (hc : CompOk sc csc) : ∀ x, x ∈ csc.names → x.2 = .local → csc.names.lookup x.1 = some .local := fun x hx h => hc.look (n := x.1) (by rw [← h]; exact hx)
theorem comp_closure {env : Env} (hc : CompOk sc csc) (hv : EnvOk sc env) : closureFor csc env = pure (clOf env csc.names []) :=
  closureFor_eq fun x hx hf => hv.cells x.1 (hc.free x.1 (by rw [← hf]; exact hx))
theorem comp_result {M : Addr → Prop} {C D : Addr} {s' : Shared} {h' : Heap} {out : List PyData} (hs : Heap.SameBut C s'.heap h') (hne : D ≠ C) (hD : ¬ M D) (hl : out.length ≤ lid)
    (hi : ∃ items, s'.heap.PlainList D items ∧ RpL prog w s'.heap (fun a => M a ∨ a = C ∨ a = D) out items.toList) : Rp prog w h' M (.list out) (.ref D) := by
  obtain ⟨items, h1, h2⟩ := hi
  simp only [Rp]
  refine ⟨D, items, rfl, hD, h1.at (fun o e => (hs.2 D hne).trans e), ?_, hl⟩
  exact RpL.sub (fun a o e q => .inl q) _ _ (RpL.agr (fun b o hb _ e => (hs.2 b fun q => hb (.inr (.inl q))).trans e) _ _ h2)
theorem EvTo.listComp {α : Type} {f : α → PyData} {o : α → List PyData} {elt t iter : Expr} {ifs : List Expr} {rest : List Comprehension} {pos : Pos} {xs : List α}
    (hc : compOk sc csc = true) (hρ : Filt csc ρ ρc) (hit : ItTo G k sc ρ t false iter (xs.map f)) (hs : ∀ env x, foldedSetIterable iter env x = pure x) (hT : ∀ x, x ∈ xs → TurnTo G k csc (⟨t, iter, ifs, 0⟩ :: rest) elt ρc 0 (f x) (o x)) (hl : (xs.flatMap o).length ≤ lid) :
    EvTo G k sc ρ (.ListComp elt (⟨t, iter, ifs, 0⟩ :: rest) csc pos) (.list (xs.flatMap o)) := by
  intro A env M s Q E ho hv hr hQ
  have hc := compOk.of hc
  rw [eval_ListComp]
  refine wpAny_comprehension_free (use := none) rfl (hs env) (comp_closure hc hv) hc.kind (comp_names hc) ?_
  refine comp_core f o (RR := fun acc C => compPost (model prog w) A E none Q acc C) hc hρ hit hT hl ho hv hr fun D C s' kk hns hC hD hne hi => ?_
  obtain ⟨m, hm⟩ := hns
  refine ⟨m, hm, fun h' hs' => hQ _ _ ?_ ?_⟩
  · obtain ⟨om, es, ep, hom, hdm, _⟩ := id hm
    obtain ⟨⟨h1, t1, rfl⟩, hk⟩ := kk
    exact ⟨⟨h', t1, rfl⟩, fun b o' e => (hk b o' e).trans (fun c o2 ic e2 => .inl ((hs'.2 c fun q => by rw [q, hom] at e2; cases e2; exact notCoD hdm ic).trans e2)) fun o2 e2 => .inl ((hs'.2 b fun q => by rw [q, hC] at e; cases e).trans e2)⟩
  · refine comp_result hs' hne (fun q => ?_) hl hi
    obtain ⟨o', e⟩ := hr.dom D q
    rw [hD] at e; cases e
theorem TurnTo.map1 {ρ' : VEnv} {t it elt : Expr} {x v : PyData} (hb : BindTo G k csc ρ t x ρ') (hsub : ∀ p, p ∈ ρ → p ∈ ρ') (he : EvTo G k csc ρ' elt v) : TurnTo G k csc [⟨t, it, [], 0⟩] elt ρ 0 x [v] :=
  .leaf _ _ _ _ _ _ _ _ rfl rfl hb hsub .nil he
theorem TurnTo.if1 {ρ' : VEnv} {t it c elt : Expr} {x v : PyData} {b : Bool} (hb : BindTo G k csc ρ t x ρ') (hsub : ∀ p, p ∈ ρ → p ∈ ρ') (hi : TrTo G k csc ρ' c b) (he : b = true → EvTo G k csc ρ' elt v) : TurnTo G k csc [⟨t, it, [c], 0⟩] elt ρ 0 x (if b then [v] else []) := by
  cases b with
  | false => exact .no _ _ _ _ _ _ _ rfl hb hsub (.one hi)
  | true => exact .leaf _ _ _ _ _ _ _ _ rfl rfl hb hsub (.one hi) (he rfl)
theorem EvTo.cast {e : Expr} {d d' : PyData} (h : EvTo G k sc ρ e d) (hd : d = d') : EvTo G k sc ρ e d' := hd ▸ h
theorem TrTo.cast {e : Expr} {d d' : Bool} (h : TrTo G k sc ρ e d) (hd : d = d') : TrTo G k sc ρ e d' := hd ▸ h
theorem flatMap_single {α β : Type} (g : α → β) (xs : List α) : xs.flatMap (fun x => [g x]) = xs.map g := by
  induction xs with
  | nil => rfl
  | cons x xs ih => simp [ih]
theorem flatMap_if {α β : Type} (p : α → Bool) (g : α → β) (xs : List α) : xs.flatMap (fun x => if p x then [g x] else []) = (xs.filter p).map g := by
  induction xs with
  | nil => rfl
  | cons x xs ih => cases h : p x <;> simp [ih, h]
theorem EvTo.compMap {α : Type} {f g : α → PyData} {elt t iter : Expr} {pos : Pos} {xs : List α} {ρ' : α → VEnv}
    (hc : compOk sc csc = true) (hρ : Filt csc ρ ρc) (hit : ItTo G k sc ρ t false iter (xs.map f)) (hs : ∀ env x, foldedSetIterable iter env x = pure x)
    (hb : ∀ x, BindTo G k csc ρc t (f x) (ρ' x)) (hsub : ∀ x p, p ∈ ρc → p ∈ ρ' x) (he : ∀ x, x ∈ xs → EvTo G k csc (ρ' x) elt (g x)) (hl : xs.length ≤ lid) :
    EvTo G k sc ρ (.ListComp elt [⟨t, iter, [], 0⟩] csc pos) (.list (xs.map g)) := by
  rw [← flatMap_single]
  exact EvTo.listComp hc hρ hit hs (fun x hx => .map1 (hb x) (hsub x) (he x hx)) (by rw [flatMap_single]; simpa using hl)
theorem EvTo.compIf {α : Type} {f g : α → PyData} {elt t iter c : Expr} {pos : Pos} {xs : List α} {ρ' : α → VEnv} {p : α → Bool}
    (hc : compOk sc csc = true) (hρ : Filt csc ρ ρc) (hit : ItTo G k sc ρ t false iter (xs.map f)) (hs : ∀ env x, foldedSetIterable iter env x = pure x)
    (hb : ∀ x, BindTo G k csc ρc t (f x) (ρ' x)) (hsub : ∀ x p, p ∈ ρc → p ∈ ρ' x) (hp : ∀ x, x ∈ xs → TrTo G k csc (ρ' x) c (p x)) (he : ∀ x, x ∈ xs → p x = true → EvTo G k csc (ρ' x) elt (g x)) (hl : xs.length ≤ lid) :
    EvTo G k sc ρ (.ListComp elt [⟨t, iter, [c], 0⟩] csc pos) (.list ((xs.filter p).map g)) := by
  rw [← flatMap_if]
  exact EvTo.listComp hc hρ hit hs (fun x hx => .if1 (hb x) (hsub x) (hp x hx) (he x hx)) (by rw [flatMap_if, List.length_map]; exact Nat.le_trans (List.length_filter_le _ _) hl)
end
end
section
section
variable {prog : Program} {w : World} {G : Gl prog w} {k : Nat} {sc csc : Scope} {ρ ρ' ρc : VEnv}
noncomputable def MM (M0 Wc Z L : Addr → Prop) (a : Addr) : Prop := M0 a ∨ Wc a ∨ Z a ∨ L a
structure St (G : Gl prog w) (sc : Scope) (env : Env) (M0 L Wc Z : Addr → Prop) (s0 : Shared) (ρ : VEnv) (s : Shared) : Prop where
  fm : Fm G sc env Wc Z (MM M0 Wc Z L) ρ s
  kp : Kp G.T s0 s
  fr : ∀ a, (Wc a ∨ Z a ∨ L a) → s0.heap.get? a = none
  d0 : ∀ a, M0 a → ∃ o, s0.heap.get? a = some o
  b0 : ∀ b o, G.hB.get? b = some o → Gr G.T s0.heap b o
  zw : ∀ a, Z a → ¬ Wc a
  zl : ∀ a, Z a → ¬ L a
  wl : ∀ a, Wc a → ¬ L a
  cw : ∀ x c, env.cells.lookup x = some c → Wc c
  ds : ∀ x y b c a, (x, b) ∈ ρ → (y, c) ∈ ρ → b.isMu → c.isMu → Acc env s.heap x (.ref a) → Acc env s.heap y (.ref a) → x = y
section
variable {env : Env} {M0 L Wc Z : Addr → Prop} {s0 s s' : Shared}
theorem Fm.back {M : Addr → Prop} (f : Fm G sc env Wc Z M ρ s) {x : Str} {b : B} (hx : (x, b) ∈ ρ) (hb : b.isMu) (hk : ∀ u, Acc env s.heap x u → Acc env s'.heap x u) {v : Value} (a : Acc env s'.heap x v) : Acc env s.heap x v := by
  obtain ⟨a0, h1, _⟩ := f.ym x b hx hb
  have := (hk _ h1).det a
  exact this ▸ h1
theorem St.next (t : St G sc env M0 L Wc Z s0 ρ s) (f : Fm G sc env Wc Z (MM M0 Wc Z L) ρ' s') (kp : Kp G.T s0 s') (m : MuK env s s' ρ ρ') : St G sc env M0 L Wc Z s0 ρ' s' :=
  ⟨f, kp, t.fr, t.d0, t.b0, t.zw, t.zl, t.wl, t.cw, fun x y b c a hx hy hb hc ax ay => by
    obtain ⟨hx', kx⟩ := m x b hx hb
    obtain ⟨hy', ky⟩ := m y c hy hc
    exact t.ds x y b c a hx' hy' hb hc (t.fm.back hx' hb kx ax) (t.fm.back hy' hc ky ay)⟩
theorem St.keeps (t : St G sc env M0 L Wc Z s0 ρ s) (k : Kp G.T s s') : St G sc env M0 L Wc Z s0 ρ s' := t.next (t.fm.keeps k) (t.kp.trans k) (MuK.keeps k)
theorem St.kpW {own : Addr → Prop} (t : St G sc env M0 L Wc Z s0 ρ s) (k : KB G.T own s s') (ho : ∀ b, own b → Wc b ∨ Z b ∨ L b) : Kp G.T s0 s' := t.kp.trans' k fun b hb => t.fr b (ho b hb)
theorem St.dom (t : St G sc env M0 L Wc Z s0 ρ s) {a : Addr} (h : Wc a ∨ Z a ∨ L a) : ∃ o, s.heap.get? a = some o := t.fm.vr.dom a (.inr h)
theorem St.addZ {N : Addr → Prop} (t : St G sc env M0 L Wc Z s0 ρ s) (k : Kp G.T s s') (hn : ∀ a, N a → s.heap.get? a = none) (hd : ∀ a, N a → ∃ o, s'.heap.get? a = some o) : St G sc env M0 L Wc (fun a => Z a ∨ N a) s0 ρ s' := by
  have nn : ∀ a, N a → ¬ (MM M0 Wc Z L a) := fun a ha q => by obtain ⟨o, e⟩ := t.fm.vr.dom a q; rw [hn a ha] at e; cases e
  have hM : (fun a => MM M0 Wc Z L a ∨ N a) = MM M0 Wc (fun a => Z a ∨ N a) L := funext fun a => propext ⟨fun h => by
      rcases h with (h | h | h | h) | h
      · exact .inl h
      · exact .inr (.inl h)
      · exact .inr (.inr (.inl (.inl h)))
      · exact .inr (.inr (.inr h))
      · exact .inr (.inr (.inl (.inr h))), fun h => by
      rcases h with h | h | (h | h) | h
      · exact .inl (.inl h)
      · exact .inl (.inr (.inl h))
      · exact .inl (.inr (.inr (.inl h)))
      · exact .inr h
      · exact .inl (.inr (.inr (.inr h)))⟩
  have f1 := (t.fm.grow k hn hd)
  rw [hM] at f1
  have t' := t.keeps k
  refine ⟨⟨f1.fe, f1.vr, f1.sub, f1.nb, fun x b hx hb => let ⟨a, h1, h2⟩ := f1.ym x b hx hb; ⟨a, h1, .inl h2⟩, fun x c hc => (f1.cz x c hc).imp id .inl, fun a ha => .inr (.inr (.inl ha))⟩, t'.kp, fun a ha => ?_, t.d0, t.b0, fun a ha => ?_, fun a ha => ?_, t.wl, t.cw, t'.ds⟩
  · rcases ha with ha | (ha | ha) | ha
    · exact t.fr a (.inl ha)
    · exact t.fr a (.inr (.inl ha))
    · cases e : s0.heap.get? a with
      | none => rfl
      | some o => obtain ⟨_, q⟩ := t.kp.al e; rw [hn a ha] at q; cases q
    · exact t.fr a (.inr (.inr ha))
  · rcases ha with ha | ha
    · exact t.zw a ha
    · exact fun q => nn a ha (.inr (.inl q))
  · rcases ha with ha | ha
    · exact t.zl a ha
    · exact fun q => nn a ha (.inr (.inr (.inr q)))
theorem St.mut {x : Str} {a : Addr} {b : B} (t : St G sc env M0 L Wc Z s0 ρ s) (hx : ∃ c, (x, c) ∈ ρ ∧ c.isMu) (ha : Acc env s.heap x (.ref a)) (k : KB G.T (· = a) s s') (hu : Upd x b ρ ρ') (hb : b.isMu)
    (hd : ∃ o, s'.heap.get? a = some o) (hr : Acc env s'.heap x (.ref a) → ER prog w env s'.heap (MM M0 Wc Z L) x b) : St G sc env M0 L Wc Z s0 ρ' s' ∧ KB G.T (fun a => Wc a ∨ Z a) s s' := by
  obtain ⟨c, hxc, hcm⟩ := hx
  obtain ⟨a', ha', hz⟩ := t.fm.ym x c hxc hcm
  have e := ha'.det ha
  cases e
  have hw : ¬ Wc a := t.zw a hz
  have hl : ¬ (env.locals = a) := fun q => hw (q ▸ t.fm.fe.wl)
  have hlo : ¬ (· = a) env.locals := hl
  have hcells : ∀ y c, env.cells.lookup y = some c → ¬ (c = a) := fun y c hc q => hw (q ▸ t.cw y c hc)
  have hag : Agr (MM M0 Wc Z L) s.heap s'.heap := k.agr fun b q => q ▸ .inr (.inr (.inl hz))
  have fw : ∀ y u, Acc env s.heap y u → Acc env s'.heap y u := fun y u h => h.kb k hl hcells
  have mem : ∀ y c, (y, c) ∈ ρ' → c.isMu → ∃ c', (y, c') ∈ ρ ∧ c'.isMu := fun y c' hy hm => by
    rcases hu.ent t.fm.vr.nd y c' hy with ⟨rfl, _⟩ | ⟨_, h⟩
    · exact ⟨c, hxc, hcm⟩
    · exact ⟨c', h, hm⟩
  refine ⟨⟨⟨⟨?_, t.fm.fe.wl, ?_, ?_⟩, ⟨?_, ?_, ?_, t.fm.vr.cel, hu.nodup t.fm.vr.nd⟩, t.fm.sub, t.fm.nb, ?_, t.fm.cz, t.fm.zs⟩, t.kpW k fun b hb => .inr (.inl (hb ▸ hz)), t.fr, t.d0, t.b0, t.zw, t.zl, t.wl, t.cw, ?_⟩, k.mono fun b hb => .inr (hb ▸ hz)⟩
  · obtain ⟨m, hm⟩ := t.fm.fe.loc; exact ⟨m, Nsp.gr hm fun o n e => k.nt _ o hl n e⟩
  · intro y hy
    obtain ⟨h0, c', vo, h1, h2, r⟩ := t.fm.fe.cel y hy
    exact ⟨h0, c', vo, h1, Cel.gr h2 fun o n e => k.nt _ o (hcells y c' h1) n e, r⟩
  · intro b' o hb' e
    obtain ⟨o', e'⟩ := t.fm.vr.dom b' (t.fm.sub b' hb')
    have e2 := (k.tk b' o' (fun q => hw (q ▸ hb')) e').nt (t.fm.fe.nt hb' e')
    rw [e2] at e; cases e
    exact t.fm.fe.wdata b' o hb' e'
  · intro b' o e
    refine (t.fm.vr.base b' o e).trans k.code fun o2 e2 => k.tk b' o2 (fun q => ?_) e2
    obtain ⟨_, z⟩ := (t.b0 b' o e).al
    rw [q, t.fr a (.inr (.inl hz))] at z; cases z
  · intro b' hb'
    by_cases q : b' = a
    · rw [q]; exact hd
    · obtain ⟨o, e⟩ := t.fm.vr.dom b' hb'; exact (k.tk b' o q e).al
  · intro y c' hy
    rcases hu.ent t.fm.vr.nd y c' hy with ⟨rfl, rfl⟩ | ⟨hne, hy⟩
    · exact hr (fw _ _ ha)
    · have r := t.fm.vr.ent y c' hy
      cases c' with
      | un => trivial
      | is v => exact fw _ _ r
      | own d => obtain ⟨v, h1, r⟩ := r; exact ⟨v, fw _ _ h1, Rp.agr hag _ _ r⟩
      | mu ds =>
        obtain ⟨a2, items, h1, h2, h3, h4, h5⟩ := r
        have hne2 : a2 ≠ a := fun q => hne (t.ds y x _ c a hy hxc trivial hcm (q ▸ h1) ha)
        exact ⟨a2, items, fw _ _ h1, h2, PL.gr h3 fun o n e => k.nt _ o hne2 n e, RpL.agr hag _ _ h4, h5⟩
      | mud D =>
        obtain ⟨a2, kvs, h1, h2, hl', h2', h3, h4, h5⟩ := r
        have hne2 : a2 ≠ a := fun q => hne (t.ds y x _ c a hy hxc trivial hcm (q ▸ h1) ha)
        exact ⟨a2, kvs, fw _ _ h1, h2, hl', h2', Dic.gr h3 fun o n e => k.nt _ o hne2 n e, RpD.agr hag _ _ h4, h5⟩
  · intro y c' hy hm
    obtain ⟨c2, h1, h2⟩ := mem y c' hy hm
    obtain ⟨a2, h3, h4⟩ := t.fm.ym y c2 h1 h2
    exact ⟨a2, fw _ _ h3, h4⟩
  · intro y z b1 b2 a2 hy hz' h1 h2 ay az
    obtain ⟨c1, hy1, hm1⟩ := mem y b1 hy h1
    obtain ⟨c2, hy2, hm2⟩ := mem z b2 hz' h2
    exact t.ds y z c1 c2 a2 hy1 hy2 hm1 hm2 (t.fm.back hy1 hm1 (fw y) ay) (t.fm.back hy2 hm2 (fw z) az)
theorem St.storeB {A : Around} {y : Str} {v : Value} {b : B} {Q : Unit → Shared → Prop} {E : Value → Shared → Prop} (t : St G sc env M0 L Wc Z s0 ρ s) (hv : EnvOk sc env) (hy : OwnName sc y) (hu : Upd y b ρ ρ')
    (hr : ∀ s', KB G.T Wc s s' → Acc env s'.heap y v → ER prog w env s'.heap (MM M0 Wc Z L) y b) (hz : b.isMu → ∃ a, v = .ref a ∧ Z a ∧ ∀ x c, (x, c) ∈ ρ → c.isMu → x ≠ y → ¬ Acc env s.heap x (.ref a))
    (h : ∀ s', KB G.T Wc s s' → St G sc env M0 L Wc Z s0 ρ' s' → Acc env s'.heap y v → (∀ x u, x ≠ y → Acc env s.heap x u → Acc env s'.heap x u) → Q () s') : wpAny (model prog w) A (storeName env y v) Q E s := by
  refine t.fm.storeB hv hy hu hr (fun hb => let ⟨a, h1, h2, _⟩ := hz hb; ⟨a, h1, h2⟩) fun s' k f hacc hold => h s' k ⟨f, t.kpW k fun b hb => .inl hb, t.fr, t.d0, t.b0, t.zw, t.zl, t.wl, t.cw, ?_⟩ hacc hold
  intro x1 x2 b1 b2 a h1 h2 m1 m2 a1 a2
  rcases hu.ent t.fm.vr.nd x1 b1 h1 with ⟨e1, e1'⟩ | ⟨n1, h1⟩ <;> rcases hu.ent t.fm.vr.nd x2 b2 h2 with ⟨e2, e2'⟩ | ⟨n2, h2⟩
  · rw [e1, e2]
  · exfalso
    rw [e1'] at m1
    obtain ⟨a0, hv0, _, hno⟩ := hz m1
    rw [e1] at a1
    have := a1.det hacc
    rw [hv0] at this; cases this
    exact hno x2 b2 h2 m2 n2 (t.fm.back h2 m2 (fun u => hold x2 u n2) a2)
  · exfalso
    rw [e2'] at m2
    obtain ⟨a0, hv0, _, hno⟩ := hz m2
    rw [e2] at a2
    have := a2.det hacc
    rw [hv0] at this; cases this
    exact hno x1 b1 h1 m1 n1 (t.fm.back h1 m1 (fun u => hold x1 u n1) a1)
  · exact t.ds x1 x2 b1 b2 a h1 h2 m1 m2 (t.fm.back h1 m1 (fun u => hold x1 u n1) a1) (t.fm.back h2 m2 (fun u => hold x2 u n2) a2)
theorem St.agrW (t : St G sc env M0 L Wc Z s0 ρ s) (k : KB G.T Wc s s') : Agr (MM M0 Wc Z L) s.heap s'.heap := k.agr fun b q => .inr (.inl q)
theorem St.storeOwn {A : Around} {y : Str} {v : Value} {d : PyData} {Q : Unit → Shared → Prop} {E : Value → Shared → Prop} (t : St G sc env M0 L Wc Z s0 ρ s) (hv : EnvOk sc env) (hy : OwnName sc y) (hu : Upd y (.own d) ρ ρ')
    (hr : Rp prog w s.heap (MM M0 Wc Z L) d v) (h : ∀ s', KB G.T Wc s s' → St G sc env M0 L Wc Z s0 ρ' s' → Q () s') : wpAny (model prog w) A (storeName env y v) Q E s :=
  t.storeB hv hy hu (fun s' k a => ⟨v, a, Rp.agr (t.agrW k) _ _ hr⟩) (fun h => by cases h) fun s' k t' _ _ => h s' k t'
end
structure Ch (T : TabS) (Wc Z Z' : Addr → Prop) (s s' : Shared) : Prop where
  zz : ∀ a, Z' a → Z a ∨ s.heap.get? a = none
  kb : KB T (fun a => Wc a ∨ Z a) s s'
  al : ∀ b o, s.heap.get? b = some o → ∃ o', s'.heap.get? b = some o'
inductive Out
  | next (ρ : VEnv)
  | ret (d : PyData)
noncomputable def Step (G : Gl prog w) (k : Nat) (sc : Scope) (ρ : VEnv) (st : Stmt) (ρ' : VEnv) : Prop :=
  ∀ (A : Around) (env : Env) (M0 L Wc Z : Addr → Prop) (s0 s : Shared) (Q : Flow → Shared → Prop) (E : Value → Shared → Prop), Ok k A → EnvOk sc env → St G sc env M0 L Wc Z s0 ρ s →
    (∀ Z' s', St G sc env M0 L Wc Z' s0 ρ' s' → Ch G.T Wc Z Z' s s' → Q .next s') → wpAny (model prog w) A (exec st env) Q E s
noncomputable def ExTo (G : Gl prog w) (k : Nat) (sc : Scope) (ρ : VEnv) (ss : List Stmt) (P : Out → Prop) : Prop :=
  ∀ (A : Around) (env : Env) (M0 L Wc Z : Addr → Prop) (s0 s : Shared) (Q : Flow → Shared → Prop) (E : Value → Shared → Prop), Ok k A → EnvOk sc env → St G sc env M0 L Wc Z s0 ρ s →
    (∀ ρ' Z' s', P (.next ρ') → St G sc env M0 L Wc Z' s0 ρ' s' → Ch G.T Wc Z Z' s s' → Q .next s') →
    (∀ d v s', P (.ret d) → Kp G.T s0 s' → Rp prog w s'.heap M0 d v → Q (.ret v) s') → wpAny (model prog w) A (execs ss env) Q E s
theorem Ch.refl {Wc Z : Addr → Prop} {s : Shared} : Ch G.T Wc Z Z s s := ⟨fun a h => .inl h, KB.refl, fun b o e => ⟨o, e⟩⟩
theorem Ch.of {Wc Z : Addr → Prop} {s s' : Shared} (k : Kp G.T s s') : Ch G.T Wc Z Z s s' := ⟨fun a h => .inl h, KB.of k, fun b o e => k.al e⟩
theorem Ch.trans {Wc Z Z' Z'' : Addr → Prop} {s s' s'' : Shared} (a : Ch G.T Wc Z Z' s s') (b : Ch G.T Wc Z' Z'' s' s'') : Ch G.T Wc Z Z'' s s'' := by
  refine ⟨fun x hx => ?_, ⟨?_, fun x o hb e => ?_, fun x o i e => b.kb.co x o i (a.kb.co x o i e)⟩, fun x o e => ?_⟩
  · rcases b.zz x hx with q | q
    · exact a.zz x q
    · cases e : s.heap.get? x with
      | none => exact .inr rfl
      | some o => obtain ⟨o', e'⟩ := a.al x o e; rw [q] at e'; cases e'
  · obtain ⟨⟨h1, t1, e1⟩, _⟩ := a.kb
    obtain ⟨⟨h2, t2, e2⟩, _⟩ := b.kb
    exact ⟨h2, t2, by rw [e2, e1]⟩
  · refine (a.kb.tk x o hb e).trans b.kb.code fun o' e' => b.kb.tk x o' (fun q => ?_) e'
    rcases q with q | q
    · exact hb (.inl q)
    · rcases a.zz x q with q | q
      · exact hb (.inr q)
      · rw [q] at e; cases e
  · obtain ⟨o', e'⟩ := a.al x o e; exact b.al x o' e'
theorem Ch.ofW {env : Env} {M0 L Wc Z : Addr → Prop} {s0 s s' : Shared} (t : St G sc env M0 L Wc Z s0 ρ s') (k : KB G.T Wc s s') : Ch G.T Wc Z Z s s' :=
  ⟨fun a h => .inl h, k.mono fun b q => .inl q, fun b o e => by
    by_cases h : Wc b
    · exact t.dom (.inl h)
    · exact (k.tk b o h e).al⟩
theorem Ch.ofZ {env : Env} {M0 L Wc Z : Addr → Prop} {s0 s s' : Shared} (t : St G sc env M0 L Wc Z s0 ρ s') (k : KB G.T (fun a => Wc a ∨ Z a) s s') : Ch G.T Wc Z Z s s' :=
  ⟨fun a h => .inl h, k, fun b o e => by
    by_cases h : Wc b ∨ Z b
    · exact t.dom (h.imp id .inl)
    · exact (k.tk b o h e).al⟩
theorem ExTo.nil {P : Out → Prop} (h : P (.next ρ)) : ExTo G k sc ρ [] P := by
  intro A env M0 L Wc Z s0 s Q E ho hv t hQ hR
  exact wpAny_execs_nil (hQ ρ Z s h t Ch.refl)
theorem ExTo.step {st : Stmt} {rest : List Stmt} {P : Out → Prop} (h : Step G k sc ρ st ρ') (hr : ExTo G k sc ρ' rest P) : ExTo G k sc ρ (st :: rest) P := by
  intro A env M0 L Wc Z s0 s Q E ho hv t hQ hR
  refine wpAny_execs_cons (h A env M0 L Wc Z s0 s _ _ ho hv t fun Z' s' t' hk => ?_)
  exact hr A env M0 L Wc Z' s0 s' Q E ho hv t' (fun ρ'' Z'' s'' hp t'' hk' => hQ ρ'' Z'' s'' hp t'' (hk.trans hk')) hR
theorem ExTo.mono {ss : List Stmt} {P P' : Out → Prop} (h : ExTo G k sc ρ ss P) (hp : ∀ o, P o → P' o) : ExTo G k sc ρ ss P' := by
  intro A env M0 L Wc Z s0 s Q E ho hv t hQ hR
  exact h A env M0 L Wc Z s0 s Q E ho hv t (fun ρ' Z' s' h => hQ ρ' Z' s' (hp _ h)) fun d v s' h => hR d v s' (hp _ h)
theorem Step.assign {y : Str} {p pos : Pos} {e : Expr} {d : PyData} (he : EvTo G k sc ρ e d) (hy : OwnName sc y) (hu : Upd y (.own d) ρ ρ') (hs : ∀ env, swapsWith e (some (.Name y p)) pos.line env = pure false) : Step G k sc ρ (.Assign [.Name y p] e pos) ρ' := by
  intro A env M0 L Wc Z s0 s Q E ho hv t hQ
  rw [exec_Assign_Name env y p e pos (hs env)]
  refine wpAny_bind (wpAny_standAt (wpAny_bind (he A env _ s _ _ ho hv t.fm.vr fun v s1 k1 r1 => ?_)))
  exact wpAny_bind (wpAny_standAt (wpAny_bind (wpAny_bindName ((t.keeps k1).storeOwn hv hy hu r1 fun s2 k2 t2 => wpAny_pure (hQ Z s2 t2 (Ch.ofW t2 ((KB.of k1).trans k2)))))))
theorem Step.assignT {ts : List Expr} {c} {p pos : Pos} {e : Expr} {xs : List PyData} (he : EvTo G k sc ρ e (.tuple xs)) (hb : BindEach G k sc ρ ts xs ρ') (hs : ∀ env, swapsWithSole [.Tuple ts c p] e pos.line env = pure false) (hw : ∀ env, swappedStores [.Tuple ts c p] e env = pure none) :
    Step G k sc ρ (.Assign [.Tuple ts c p] e pos) ρ' := by
  intro A env M0 L Wc Z s0 s Q E ho hv t hQ
  refine Assign_Tuple (he A env _ s _ _ ho hv t.fm.vr fun v s1 k1 r1 => ?_) (hs env) (hw env)
  have t1 := t.keeps k1
  exact BindTo.tuple hb A env Wc Z _ s1 v _ _ ho hv t1.fm r1 fun s2 k2 f2 m2 => have t2 := t1.next f2 (t1.kpW k2 fun b hb => .inl hb) m2; hQ Z s2 t2 (Ch.ofW t2 ((KB.of k1).trans k2))
theorem Step.aug {x : Str} {p pos : Pos} {op : Operator} {e : Expr} {a b c : Int} (hx : (x, .own (.int a)) ∈ ρ) (he : EvTo G k sc ρ e (.int b)) (hy : OwnName sc x) (hu : Upd x (.own (.int c)) ρ ρ')
    (hop : ∀ (A : Around) (s : Shared) (t u : Tok) (Q : Value → Shared → Prop) (E : Value → Shared → Prop), Q (.int c s.toks) { s with toks := s.toks + 1 } → wpAny (model prog w) A (inplaceOp op (.int a t) (.int b u)) Q E s) :
    Step G k sc ρ (.AugAssign (.Name x p) op e pos) ρ' := by
  intro A env M0 L Wc Z s0 s Q E ho hv t hQ
  obtain ⟨v, ha, r⟩ := t.fm.vr.ent _ _ hx
  simp only [Rp] at r
  obtain ⟨tk, rfl⟩ := r
  have ld : ∀ {Q : Value → Shared → Prop}, Q (.int a tk) s → wpAny (model prog w) A (loadName env x) Q E s := fun hq => by
    rcases ha with ⟨hl, m, hn, hm⟩ | ⟨hl, c, hc, hi⟩
    · exact wpAny_loadName_local hv.kind hl hn hm hq
    · rcases hl with hl | hl
      · exact wpAny_loadName_cell hv.kind hl hc hi hq
      · exact wpAny_loadName_free hv.kind hl hc hi hq (hv.cd (by rw [hl]; simp))
  refine wpAny_AugAssign_Name (ld (he A env _ s _ _ ho hv t.fm.vr fun u s1 k1 r1 => ?_))
  simp only [Rp] at r1
  obtain ⟨tk', rfl⟩ := r1
  refine hop A s1 tk tk' _ _ ?_
  have k2 : Kp G.T s { s1 with toks := s1.toks + 1 } := k1.trans (Kp.tok (s := s1) (s1.toks + 1))
  exact (t.keeps k2).storeOwn hv hy hu (by simp [Rp]) fun s3 k3 t3 => hQ Z s3 t3 (Ch.ofW t3 ((KB.of k2).trans k3))
theorem Step.augAdd {x : Str} {p pos : Pos} {e : Expr} {a b : Int} (hx : (x, .own (.int a)) ∈ ρ) (he : EvTo G k sc ρ e (.int b)) (hy : OwnName sc x) (hu : Upd x (.own (.int (a + b))) ρ ρ') : Step G k sc ρ (.AugAssign (.Name x p) .Add e pos) ρ' :=
  Step.aug hx he hy hu fun _ _ _ _ _ _ h => PyProof.Rows.iadd_int h
theorem Step.augSub {x : Str} {p pos : Pos} {e : Expr} {a b : Int} (hx : (x, .own (.int a)) ∈ ρ) (he : EvTo G k sc ρ e (.int b)) (hy : OwnName sc x) (hu : Upd x (.own (.int (a - b))) ρ ρ') : Step G k sc ρ (.AugAssign (.Name x p) .Sub e pos) ρ' :=
  Step.aug hx he hy hu fun _ _ _ _ _ _ h => PyProof.Rows.isub_int h
theorem Step.assert {test : Expr} {msg : Option Expr} {pos : Pos} (h : TrTo G k sc ρ test true) : Step G k sc ρ (.Assert test msg pos) ρ := by
  intro A env M0 L Wc Z s0 s Q E ho hv t hQ
  exact wpAny_Assert_holds (h A env _ s _ _ ho hv t.fm.vr fun s1 k1 => ⟨rfl, hQ Z s1 (t.keeps k1) (.of k1)⟩)
theorem ExTo.ret {e : Expr} {pos : Pos} {rest : List Stmt} {P : Out → Prop} {d : PyData} (he : EvTo G k sc ρ e d) (hp : P (.ret d)) : ExTo G k sc ρ (.Return (some e) pos :: rest) P := by
  intro A env M0 L Wc Z s0 s Q E ho hv t hQ hR
  refine wpAny_execs_cons ?_
  rw [exec_Return_some]
  refine wpAny_bind (wpAny_standAt (wpAny_bind (he A env _ s _ _ ho hv t.fm.vr fun v s1 k1 r1 => wpAny_pure ?_)))
  exact hR d v s1 hp (t.kp.trans k1) (Rp.sub (fun a o e q => .inl q) _ _ r1)
theorem ExTo.retMu {x : Str} {p pos : Pos} {rest : List Stmt} {P : Out → Prop} {ds : List PyData} (hx : (x, .mu ds) ∈ ρ) (hp : P (.ret (.list ds))) : ExTo G k sc ρ (.Return (some (.Name x p)) pos :: rest) P := by
  intro A env M0 L Wc Z s0 s Q E ho hv t hQ hR
  refine wpAny_execs_cons ?_
  rw [exec_Return_some]
  obtain ⟨a, items, ha, hm, h3, h4, h5⟩ := t.fm.vr.ent _ _ hx
  obtain ⟨a', ha', hz⟩ := t.fm.ym _ _ hx trivial
  cases ha.det ha'
  have hq : Q (.ret (.ref a)) s := hR _ _ s hp t.kp (by
    simp only [Rp]
    refine ⟨a, items, rfl, fun q => ?_, h3, RpL.sub (fun a o e q => .inl q) _ _ h4, h5⟩
    obtain ⟨o, e⟩ := t.d0 a q
    rw [t.fr a (.inr (.inl hz))] at e; cases e)
  refine wpAny_bind (wpAny_standAt (wpAny_bind ?_))
  rcases ha with ⟨hl, m, hn, hm⟩ | ⟨hl, c, hc, hi⟩
  · exact wpAny_Name (wpAny_loadName_local hv.kind hl hn hm (wpAny_pure hq)) (hv.dbg (by rw [hl]; simp))
  · rcases hl with hl | hl
    · exact wpAny_Name (wpAny_loadName_cell hv.kind hl hc hi (wpAny_pure hq)) (hv.dbg (by rw [hl]; simp))
    · exact wpAny_Name (wpAny_loadName_free hv.kind hl hc hi (wpAny_pure hq) (hv.cd (by rw [hl]; simp))) (hv.dbg (by rw [hl]; simp))
theorem ExTo.ite {test : Expr} {body orelse rest : List Stmt} {pos : Pos} {b : Bool} {P P1 : Out → Prop} (hc : TrTo G k sc ρ test b) (h1 : b = true → ExTo G k sc ρ body P1) (h2 : b = false → ExTo G k sc ρ orelse P1)
    (hn : ∀ ρ', P1 (.next ρ') → ExTo G k sc ρ' rest P) (hr : ∀ d, P1 (.ret d) → P (.ret d)) : ExTo G k sc ρ (.If test body orelse pos :: rest) P := by
  intro A env M0 L Wc Z s0 s Q E ho hv t hQ hR
  refine wpAny_execs_cons ?_
  rw [exec_If]
  refine wpAny_bind (wpAny_standAt (wpAny_bind (hc A env _ s _ _ ho hv t.fm.vr fun s1 k1 => ?_)))
  have t1 := t.keeps k1
  have key : ∀ ss, ExTo G k sc ρ ss P1 → wpAny (model prog w) A (execs ss env) (fun f s' => match f with | .next => wpAny (model prog w) A (execs rest env) Q E s' | f => Q f s') E s1 := fun ss hss =>
    hss A env M0 L Wc Z s0 s1 _ _ ho hv t1 (fun ρ' Z' s' hp t' hk => (hn ρ' hp) A env M0 L Wc Z' s0 s' Q E ho hv t' (fun ρ'' Z'' s'' hp' t'' hk' =>
        hQ ρ'' Z'' s'' hp' t'' ((Ch.of k1).trans (hk.trans hk'))) hR)
      fun d v s' hp hk hr' => hR d v s' (hr d hp) hk hr'
  cases b with
  | true => simp only [if_true]; exact key body (h1 rfl)
  | false => simp only [Bool.false_eq_true, if_false]; exact key orelse (h2 rfl)
end
end
section
inductive Wkn : VEnv → VEnv → Prop
  | nil : Wkn [] []
  | same {x b r r'} : Wkn r r' → Wkn ((x, b) :: r) ((x, b) :: r')
  | forget {x b r r'} : Wkn r r' → Wkn ((x, b) :: r) ((x, .un) :: r')
  | drop {x b r r'} : Wkn r r' → Wkn ((x, b) :: r) r'
theorem Wkn.refl : ∀ ρ : VEnv, Wkn ρ ρ
  | [] => .nil
  | (_, _) :: r => .same (Wkn.refl r)
theorem Wkn.names {ρ ρ' : VEnv} (h : Wkn ρ ρ') : (ρ'.map (·.1)).Sublist (ρ.map (·.1)) := by
  induction h with
  | nil => exact .slnil
  | same _ ih => exact ih.cons₂ _
  | forget _ ih => exact ih.cons₂ _
  | drop _ ih => exact ih.cons _
theorem Wkn.ent {ρ ρ' : VEnv} (h : Wkn ρ ρ') : ∀ x b, (x, b) ∈ ρ' → b = .un ∨ (x, b) ∈ ρ := by
  induction h with
  | nil => intro x b hx; cases hx
  | same _ ih =>
    intro x b hx
    rcases List.mem_cons.mp hx with e | e
    · cases e; exact .inr List.mem_cons_self
    · exact (ih x b e).imp id (List.mem_cons_of_mem _)
  | forget _ ih =>
    intro x b hx
    rcases List.mem_cons.mp hx with e | e
    · cases e; exact .inl rfl
    · exact (ih x b e).imp id (List.mem_cons_of_mem _)
  | drop _ ih => intro x b hx; exact (ih x b hx).imp id (List.mem_cons_of_mem _)
section
variable {prog : Program} {w : World} {G : Gl prog w} {k : Nat} {sc csc : Scope} {ρ ρ' ρc : VEnv}
section
variable {env : Env} {M0 L Wc Z : Addr → Prop} {s0 s s' : Shared}
theorem Fm.lessE {M : Addr → Prop} (f : Fm G sc env Wc Z M ρ s) (h : ∀ x b, (x, b) ∈ ρ' → b = .un ∨ (x, b) ∈ ρ) (hn : (ρ'.map (·.1)).Nodup) : Fm G sc env Wc Z M ρ' s :=
  ⟨f.fe, ⟨f.vr.base, f.vr.dom, fun x b hx => (h x b hx).elim (fun e => e ▸ trivial) (f.vr.ent x b), f.vr.cel, hn⟩, f.sub, f.nb, fun x b hx hb => (h x b hx).elim (fun e => by rw [e] at hb; cases hb) fun h => f.ym x b h hb, f.cz, f.zs⟩
theorem St.lessE (t : St G sc env M0 L Wc Z s0 ρ s) (h : ∀ x b, (x, b) ∈ ρ' → b = .un ∨ (x, b) ∈ ρ) (hn : (ρ'.map (·.1)).Nodup) : St G sc env M0 L Wc Z s0 ρ' s :=
  t.next (t.fm.lessE h hn) t.kp fun x b hx hb => (h x b hx).elim (fun e => by rw [e] at hb; cases hb) fun h => ⟨h, fun _ a => a⟩
theorem St.wkn (t : St G sc env M0 L Wc Z s0 ρ s) (h : Wkn ρ ρ') : St G sc env M0 L Wc Z s0 ρ' s := t.lessE h.ent (h.names.nodup t.fm.vr.nd)
theorem St.growL {own : Addr → Prop} (t : St G sc env M0 L Wc Z s0 ρ s) (k : Kp G.T s s') (hn : ∀ a, own a → s.heap.get? a = none) (hd : ∀ a, own a → ∃ o, s'.heap.get? a = some o) : St G sc env M0 (fun a => L a ∨ own a) Wc Z s0 ρ s' := by
  have nn : ∀ a, own a → ¬ (MM M0 Wc Z L a) := fun a ha q => by obtain ⟨o, e⟩ := t.fm.vr.dom a q; rw [hn a ha] at e; cases e
  have hM : (fun a => MM M0 Wc Z L a ∨ own a) = MM M0 Wc Z (fun a => L a ∨ own a) := funext fun a => propext ⟨fun h => by
      rcases h with (h | h | h | h) | h
      · exact .inl h
      · exact .inr (.inl h)
      · exact .inr (.inr (.inl h))
      · exact .inr (.inr (.inr (.inl h)))
      · exact .inr (.inr (.inr (.inr h))), fun h => by
      rcases h with h | h | h | h | h
      · exact .inl (.inl h)
      · exact .inl (.inr (.inl h))
      · exact .inl (.inr (.inr (.inl h)))
      · exact .inl (.inr (.inr (.inr h)))
      · exact .inr h⟩
  have f1 := t.fm.grow k hn hd
  rw [hM] at f1
  have t' := t.keeps k
  refine ⟨f1, t'.kp, fun a ha => ?_, t.d0, t.b0, t.zw, fun a ha q => ?_, fun a ha q => ?_, t.cw, t'.ds⟩
  · rcases ha with ha | ha | ha | ha
    · exact t.fr a (.inl ha)
    · exact t.fr a (.inr (.inl ha))
    · exact t.fr a (.inr (.inr ha))
    · cases e : s0.heap.get? a with
      | none => rfl
      | some o => obtain ⟨_, q⟩ := t.kp.al e; rw [hn a ha] at q; cases q
  · rcases q with q | q
    · exact t.zl a ha q
    · exact nn a q (.inr (.inr (.inl ha)))
  · rcases q with q | q
    · exact t.wl a ha q
    · exact nn a q (.inr (.inl ha))
theorem St.nob (t : St G sc env M0 L Wc Z s0 ρ s) {a : Addr} (h : L a) : G.hB.get? a = none := by
  cases e : G.hB.get? a with
  | none => rfl
  | some o => obtain ⟨_, q⟩ := (t.b0 a o e).al; rw [t.fr a (.inr (.inr h))] at q; cases q
theorem St.ownAcc {own : Addr → Prop} (t : St G sc env M0 L Wc Z s0 ρ s) (k : KB G.T own s s') (ho : ∀ b, own b → L b) (y : Str) (u : Value) (h : Acc env s.heap y u) : Acc env s'.heap y u :=
  h.kb k (fun q => t.wl _ t.fm.fe.wl (ho _ q)) fun x c hc q => t.wl _ (t.cw x c hc) (ho _ q)
theorem St.kbL {own : Addr → Prop} (t : St G sc env M0 L Wc Z s0 ρ s) (k : KB G.T own s s') (ho : ∀ b, own b → L b) (hd : ∀ b, own b → ∃ o, s'.heap.get? b = some o) : St G sc env M0 L Wc Z s0 ρ s' :=
  t.next (t.fm.kb k (fun b hb => .inr (.inr (.inr (ho b hb)))) (fun b hb q => t.wl b q (ho b hb)) (fun b hb q => t.zl b q (ho b hb)) (fun b hb => t.nob (ho b hb)) hd) (t.kpW k fun b hb => .inr (.inr (ho b hb)))
    fun x b hx hb => ⟨hx, t.ownAcc k ho x⟩
theorem St.dropL {own : Addr → Prop} (t : St G sc env M0 (fun a => L a ∨ own a) Wc Z s0 ρ s) (k : KB G.T own s s') (hl : ∀ a, L a → ¬ own a) : St G sc env M0 L Wc Z s0 ρ s' := by
  have ho : ∀ b, own b → (L b ∨ own b) := fun b h => .inr h
  have f1 : Fm G sc env Wc Z (MM M0 Wc Z L) ρ s' := t.fm.kb' k (fun b hb => .inr (.inr (.inr (.inr hb)))) (fun b hb q => t.wl b q (.inr hb)) (fun b hb q => t.zl b q (.inr hb)) (fun b hb => t.nob (.inr hb))
    (fun a ha => ha.elim .inl fun h => .inr (h.elim .inl fun h => .inr (h.elim .inl fun h => .inr (.inl h)))) (fun a ha => .inr (.inl ha)) (fun a ha => .inr (.inr (.inl ha))) (fun b hb hob => by
      exfalso
      rcases hb with hb | hb | hb | hb
      · obtain ⟨o, e⟩ := t.d0 b hb; rw [t.fr b (.inr (.inr (.inr hob)))] at e; cases e
      · exact t.wl b hb (.inr hob)
      · exact t.zl b hb (.inr hob)
      · exact hl b hb hob)
  have bk : ∀ x b, (x, b) ∈ ρ → b.isMu → ∀ u, Acc env s'.heap x u → Acc env s.heap x u := fun x b hx hb u a => t.fm.back hx hb (t.ownAcc k ho x) a
  exact ⟨f1, t.kpW k fun b hb => .inr (.inr (.inr hb)), fun a ha => t.fr a (ha.imp id (Or.imp id .inl)), t.d0, t.b0, t.zw, fun a ha q => t.zl a ha (.inl q), fun a ha q => t.wl a ha (.inl q), t.cw,
    fun x y b c a hx hy hb hc ax ay => t.ds x y b c a hx hy hb hc (bk x b hx hb _ ax) (bk y c hy hc _ ay)⟩
theorem St.freeze {x : Str} {ds : List PyData} (t : St G sc env M0 L Wc Z s0 ρ s) (hx : (x, .mu ds) ∈ ρ) (hu : Upd x (.own (.list ds)) ρ ρ') : ∃ Z', (∀ a, Z' a → Z a) ∧ St G sc env M0 L Wc Z' s0 ρ' s := by
  obtain ⟨a, items, h1, h2, h3, h4, h5⟩ := t.fm.vr.ent _ _ hx
  obtain ⟨a', h1', hz⟩ := t.fm.ym _ _ hx trivial
  cases h1.det h1'
  have na : ¬ MM M0 Wc (fun b => Z b ∧ b ≠ a) L a := fun q => by
    rcases q with q | q | q | q
    · obtain ⟨o, e⟩ := t.d0 a q; rw [t.fr a (.inr (.inl hz))] at e; cases e
    · exact t.zw a hz q
    · exact q.2 rfl
    · exact t.zl a hz q
  have hs : ∀ b, MM M0 Wc (fun b => Z b ∧ b ≠ a) L b → MM M0 Wc Z L b := fun b q => q.imp id (Or.imp id (Or.imp (fun q => q.1) id))
  have other : ∀ y b a2, (y, b) ∈ ρ → y ≠ x → b.isMu → Acc env s.heap y (.ref a2) → a2 ≠ a := fun y b a2 hy hne hb hac q => hne (t.ds y x b _ a hy hx hb trivial (q ▸ hac) h1)
  refine ⟨fun b => Z b ∧ b ≠ a, fun b h => h.1, ⟨⟨t.fm.fe, ⟨t.fm.vr.base, fun b hb => t.fm.vr.dom b (hs b hb), ?_, fun y c hc => .inr (.inl (t.cw y c hc)), hu.nodup t.fm.vr.nd⟩, fun b hb => .inr (.inl hb), t.fm.nb, ?_, fun y c hc => .inl (t.cw y c hc), fun b hb => .inr (.inr (.inl hb))⟩, t.kp, fun b hb => t.fr b (hb.imp id (Or.imp (fun q => q.1) id)), t.d0, t.b0, fun b hb => t.zw b hb.1, fun b hb => t.zl b hb.1, t.wl, t.cw, ?_⟩⟩
  · intro y b hy
    rcases hu.ent t.fm.vr.nd y b hy with ⟨rfl, rfl⟩ | ⟨hne, hy⟩
    · refine ⟨.ref a, h1, ?_⟩
      simp only [Rp]
      exact ⟨a, items, rfl, na, h3, RpL.sub (fun b o e => hs b) _ _ h4, h5⟩
    · have r := t.fm.vr.ent y b hy
      have ym := t.fm.ym y b hy
      cases b with
      | un => trivial
      | is v => exact r
      | own d => obtain ⟨v, q1, r⟩ := r; exact ⟨v, q1, Rp.sub (fun b o e => hs b) _ _ r⟩
      | mu ds =>
        obtain ⟨a2, its, q1, q2, q3, q4, q5⟩ := r
        obtain ⟨a3, q1', hz3⟩ := ym trivial
        cases q1.det q1'
        exact ⟨a2, its, q1, .inr (.inr (.inl ⟨hz3, other y _ a2 hy hne trivial q1⟩)), q3, RpL.sub (fun b o e => hs b) _ _ q4, q5⟩
      | mud D =>
        obtain ⟨a2, kvs, q1, q2, ql, q2', q3, q4, q5⟩ := r
        obtain ⟨a3, q1', hz3⟩ := ym trivial
        cases q1.det q1'
        exact ⟨a2, kvs, q1, .inr (.inr (.inl ⟨hz3, other y _ a2 hy hne trivial q1⟩)), ql, q2', q3, RpD.sub (fun b o e => hs b) _ _ q4, q5⟩
  · intro y b hy hb
    rcases hu.ent t.fm.vr.nd y b hy with ⟨rfl, rfl⟩ | ⟨hne, hy⟩
    · cases hb
    · obtain ⟨a2, q1, q2⟩ := t.fm.ym y b hy hb
      exact ⟨a2, q1, q2, other y b a2 hy hne hb q1⟩
  · intro y z b c a2 hy hz' hb hc ay az
    rcases hu.ent t.fm.vr.nd y b hy with ⟨rfl, rfl⟩ | ⟨_, hy⟩
    · cases hb
    · rcases hu.ent t.fm.vr.nd z c hz' with ⟨rfl, rfl⟩ | ⟨_, hz'⟩
      · cases hc
      · exact t.ds y z b c a2 hy hz' hb hc ay az
end
theorem ExTo.freeze {x : Str} {ds : List PyData} {ss : List Stmt} {P : Out → Prop} (hx : (x, .mu ds) ∈ ρ) (hu : Upd x (.own (.list ds)) ρ ρ') (h : ExTo G k sc ρ' ss P) : ExTo G k sc ρ ss P := by
  intro A env M0 L Wc Z s0 s Q E ho hv t hQ hR
  obtain ⟨Z', hz, t'⟩ := t.freeze hx hu
  exact h A env M0 L Wc Z' s0 s Q E ho hv t' (fun ρ2 Z2 s2 hp t2 hc => hQ ρ2 Z2 s2 hp t2 ⟨fun a ha => (hc.zz a ha).imp (hz a) id, hc.kb.mono fun b hb => hb.imp id (hz b), hc.al⟩) hR
theorem Ch.mono {T : TabS} {Wc Wc' Z Z' : Addr → Prop} {s s' : Shared} (h : Ch T Wc Z Z' s s') (hm : ∀ a, Wc a → Wc' a) : Ch T Wc' Z Z' s s' :=
  ⟨h.zz, h.kb.mono fun b hb => hb.imp (hm b) id, h.al⟩
theorem for_coreX {α : Type} {f : α → PyData} {xs : List α} {R : Nat → VEnv} {ρb : Nat → α → VEnv} {Iv : Nat → Prop} {t : Expr} {body : List Stmt} {P : Out → Prop} {A : Around} {env : Env} {M0 L Wc Z : Addr → Prop} {s0 s s1 : Shared} {I : Addr} {own : Addr → Prop} {Co : Nat → Heap → Prop} {h0' : Heap} {RR : Result → Shared → Prop} {J : Addr → Prop} {X : Nat → Heap → Prop}
    (hJ : ∀ b, J b → L b) (hX0 : X 0 s.heap) (hXs : ∀ i h h', (∀ b o, J b → NT o → h.get? b = some o → h'.get? b = some o) → X i h → X i h')
    (ho : Ok k A) (hv : EnvOk sc env) (tt : St G sc env M0 L Wc Z s0 ρ s) (h0 : Wkn ρ (R 0)) (hI : Iv 0)
    (k1 : Kp G.T s s1) (W : Wk prog w G.T A I own (fun b => true = true ∧ MM M0 Wc Z L b) (MM M0 Wc Z L) h0' t (xs.map f) Co) (hc0 : Co 0 s1.heap) (hh1 : ∀ b o, s.heap.get? b = some o → Gr G.T h0' b o) (hh2 : ∀ b o, h0'.get? b = some o → Gr G.T s1.heap b o)
    (hown : ∀ b, own b → h0'.get? b = none ∧ ∃ o, s1.heap.get? b = some o)
    (hb : ∀ i x, xs[i]? = some x → Iv i → BindTo G k sc (R i) t (f x) (ρb i x))
    (hbody : ∀ i x, xs[i]? = some x → Iv i → ∀ (Z3 L3 : Addr → Prop) (s3 : Shared) (Q : Flow → Shared → Prop) (E : Value → Shared → Prop), (∀ a, L a → L3 a) → St G sc env M0 L3 Wc Z3 s0 (ρb i x) s3 → X i s3.heap →
      (∀ ρ' Z4 s4, Wkn ρ' (R (i + 1)) → Iv (i + 1) → St G sc env M0 L3 Wc Z4 s0 ρ' s4 → Ch G.T (fun a => Wc a ∨ J a) Z3 Z4 s3 s4 → X (i + 1) s4.heap → Q .next s4) →
      (∀ d v s4, P (.ret d) → Kp G.T s0 s4 → Rp prog w s4.heap M0 d v → Q (.ret v) s4) → wpAny (model prog w) A (execs body env) Q E s3)
    (hret : ∀ d v s', P (.ret d) → Kp G.T s0 s' → Rp prog w s'.heap M0 d v → RR (.ok (.ret v)) s')
    (hend : ∀ Zn sn, Iv xs.length → St G sc env M0 L Wc Zn s0 (R xs.length) sn → Ch G.T (fun a => Wc a ∨ J a) Z Zn s sn → X xs.length sn.heap → RR (.ok .next) sn) : codeAny (model prog w) A (.forLoop t (.ref I) body [] env) RR s1 := by
  have ownNone : ∀ b, own b → s.heap.get? b = none := fun b hb => by
    cases e : s.heap.get? b with
    | none => rfl
    | some o' => obtain ⟨_, q⟩ := (hh1 b o' e).al; rw [(hown b hb).1] at q; cases q
  have nM : ∀ b, own b → ¬ MM M0 Wc Z L b := fun b hb q => by obtain ⟨o', e⟩ := tt.fm.vr.dom b q; rw [ownNone b hb] at e; cases e
  have t1 : St G sc env M0 (fun a => L a ∨ own a) Wc Z s0 (R 0) s1 := (tt.growL k1 ownNone fun b hb => (hown b hb).2).wkn h0
  have nJ : ∀ b, own b → ¬ J b := fun b hb q => nM b hb (.inr (.inr (.inr (hJ b q))))
  let I0 : Nat → Shared → Prop := fun n si => ∃ i Zi, i ≤ xs.length ∧ n = xs.length - i ∧ Iv i ∧ Co i si.heap ∧ St G sc env M0 (fun a => L a ∨ own a) Wc Zi s0 (R i) si ∧ Ch G.T (fun a => (Wc a ∨ J a) ∨ own a) Z Zi s1 si ∧ X i si.heap
  refine codeAny_forLoop_any (R := RR) (I := I0) ?_ xs.length ⟨0, Z, Nat.zero_le _, by simp, hI, hc0, t1, Ch.refl, hXs 0 _ _ (fun b o _ n e => k1.nt b o n e) hX0⟩
  rintro n si ⟨i, Zi, hi, rfl, hIi, hci, ti, chi, hXi⟩
  have oW : ∀ b, own b → ¬ Wc b := fun b hb q => ti.wl b q (.inr hb)
  have oZ : ∀ b, own b → ¬ Zi b := fun b hb q => ti.zl b q (.inr hb)
  have hag : Agr (fun b => true = true ∧ MM M0 Wc Z L b) h0' si.heap := fun b o hb n e => by
    refine chi.kb.nt b o (fun q => ?_) n ((hh2 b o e).nt n)
    rcases q with ((q | q) | q) | q
    · exact hb ⟨rfl, .inr (.inl q)⟩
    · exact hb ⟨rfl, .inr (.inr (.inr (hJ b q)))⟩
    · rw [(hown b q).1] at e; cases e
    · exact hb ⟨rfl, .inr (.inr (.inl q))⟩
  by_cases hlt : i < xs.length
  · have hx : xs[i]? = some xs[i] := List.getElem?_eq_getElem hlt
    have hd : (xs.map f)[i]? = some (f xs[i]) := by rw [List.getElem?_map, hx]; rfl
    refine wpAny_mono (W.item i (f xs[i]) (MM M0 Wc Zi fun a => L a ∨ own a) si (fun v s2 => wpAny (model prog w) A (assign t env v) (fun _ s₂ => wpAny (model prog w) A (execs body env) (fun f s₃ => match f with
            | .next | .cont => ∃ m, m < xs.length - i ∧ I0 m s₃
            | .brk => RR (.ok .next) s₃
            | .ret v => RR (.ok (.ret v)) s₃) (notedBy (model prog w) A env fun e s' => RR (.error e) s') s₂) (notedBy (model prog w) A env fun e s' => RR (.error e) s') s2) _ hd hci hag (fun b o e q => ?_) ti.fm.vr.dom fun v s2 k2 hc2 r2 => ?_) (fun r s2 h2 => ?_) fun _ _ z => z
    · rcases q with q | q | q | q | q
      · exact .inl q
      · exact .inr (.inl q)
      · rcases chi.zz b q with q | q
        · exact .inr (.inr (.inl q))
        · obtain ⟨_, z⟩ := (hh2 b o e).al; rw [q] at z; cases z
      · exact .inr (.inr (.inr q))
      · rw [(hown b q).1] at e; cases e
    · have t2 := ti.kbL k2 (fun b hb => .inr hb) fun b hb => W.alive _ _ hc2 b hb
      refine hb i _ hx hIi A env Wc Zi _ s2 v _ _ ho hv t2.fm r2 fun s3 k3 f3 m3 => ?_
      have t3 := t2.next f3 (t2.kpW k3 fun b hb => .inl hb) m3
      have ch3 : Ch G.T (fun a => (Wc a ∨ J a) ∨ own a) Zi Zi si s3 := by
        refine ⟨fun a h => .inl h, ((k2.mono (own' := fun b => ((Wc b ∨ J b) ∨ own b) ∨ Zi b) (fun b hb => .inl (.inr hb))).trans (k3.mono fun b hb => .inl (.inl (.inl hb)))), fun b o e => ?_⟩
        by_cases hwb : Wc b
        · exact t3.dom (.inl hwb)
        · by_cases hob : own b
          · exact t3.dom (.inr (.inr (.inr hob)))
          · exact ((k2.tk b o hob e).trans k3.code fun o2 e2 => k3.tk b o2 hwb e2).al
      have hX3 : X i s3.heap := hXs i _ _ (fun b o hb n e => k3.nt b o (fun q => ti.wl b q (.inl (hJ b hb))) n (k2.nt b o (fun q => nJ b q hb) n e)) hXi
      refine hbody i _ hx hIi Zi _ s3 _ _ (fun a h => .inl h) t3 hX3 (fun ρ4 Z4 s4 hw hiv t4 ch4 hX4 => ?_) (fun d v s4 hp k4 r4 => ?_)
      · refine ⟨xs.length - (i + 1), by omega, i + 1, Z4, hlt, rfl, hiv, ?_, t4.wkn hw, chi.trans (ch3.trans ⟨ch4.zz, ch4.kb.mono fun b hb => hb.imp .inl id, ch4.al⟩), hX4⟩
        exact W.frame _ _ _ hc2 fun b o hb e => (k3.tk b o (oW b hb) e).trans ch4.kb.code fun o2 e2 => ch4.kb.tk b o2 (fun q => q.elim (fun q => q.elim (oW b hb) (nJ b hb)) (oZ b hb)) e2
      · exact hret d v s4 hp k4 r4
    · cases r with
      | none => exact h2.elim
      | some v => exact h2
  · have hin : i = xs.length := by omega
    subst hin
    have hc' : Co (xs.map f).length si.heap := by simpa using hci
    refine wpAny_mono (W.done si (fun s2 => wpAny (model prog w) A (execs [] env) (fun f s₃ => RR (.ok f) s₃) (notedBy (model prog w) A env fun e s' => RR (.error e) s') s2) _ hc' hag fun s2 k2 => ?_) (fun r s2 h2 => ?_) fun _ _ z => z
    · refine wpAny_execs_nil ?_
      have t2 := ti.dropL k2 fun a ha q => nM a q (.inr (.inr (.inr ha)))
      refine hend Zi s2 hIi t2 ?_ (hXs _ _ _ (fun b o hb n e => k2.nt b o (fun q => nJ b q hb) n e) hXi)
      refine ⟨fun a ha => ?_, ⟨?_, fun b o hb e => ?_, fun b o ic e => k2.co b o ic (chi.kb.co b o ic (k1.nt b o ic.nt e))⟩, fun b o e => ?_⟩
      · rcases chi.zz a ha with q | q
        · exact .inl q
        · refine .inr ?_
          cases e : s.heap.get? a with
          | none => rfl
          | some o => obtain ⟨_, z⟩ := k1.al e; rw [q] at z; cases z
      · exact ((KB.of (own := fun _ => True) k1).trans ((chi.kb.mono fun _ _ => trivial).trans (k2.mono fun _ _ => trivial))).same
      · have nob : ¬ own b := fun q => by rw [ownNone b q] at e; cases e
        exact ((k1.tk b o e).trans chi.kb.code fun o2 e2 => chi.kb.tk b o2 (fun q => q.elim (fun q => q.elim (fun q => hb (.inl q)) nob) fun q => hb (.inr q)) e2).trans k2.code fun o3 e3 => k2.tk b o3 nob e3
      · have nob : ¬ own b := fun q => by rw [ownNone b q] at e; cases e
        obtain ⟨o1, e1⟩ := k1.al e
        obtain ⟨o', e'⟩ := chi.al b o1 e1
        exact (k2.tk b o' nob e').al
    · cases r with
      | none => exact h2
      | some v => exact h2.elim
theorem for_core {α : Type} {f : α → PyData} {xs : List α} {R : Nat → VEnv} {ρb : Nat → α → VEnv} {Iv : Nat → Prop} {t : Expr} {body : List Stmt} {P : Out → Prop} {A : Around} {env : Env} {M0 L Wc Z : Addr → Prop} {s0 s s1 : Shared} {I : Addr} {own : Addr → Prop} {Co : Nat → Heap → Prop} {h0' : Heap} {RR : Result → Shared → Prop}
    (ho : Ok k A) (hv : EnvOk sc env) (tt : St G sc env M0 L Wc Z s0 ρ s) (h0 : Wkn ρ (R 0)) (hI : Iv 0)
    (k1 : Kp G.T s s1) (W : Wk prog w G.T A I own (fun b => true = true ∧ MM M0 Wc Z L b) (MM M0 Wc Z L) h0' t (xs.map f) Co) (hc0 : Co 0 s1.heap) (hh1 : ∀ b o, s.heap.get? b = some o → Gr G.T h0' b o) (hh2 : ∀ b o, h0'.get? b = some o → Gr G.T s1.heap b o)
    (hown : ∀ b, own b → h0'.get? b = none ∧ ∃ o, s1.heap.get? b = some o)
    (hb : ∀ i x, xs[i]? = some x → Iv i → BindTo G k sc (R i) t (f x) (ρb i x))
    (hbody : ∀ i x, xs[i]? = some x → Iv i → ExTo G k sc (ρb i x) body (fun o => match o with | .next ρ' => Wkn ρ' (R (i + 1)) ∧ Iv (i + 1) | .ret d => P (.ret d)))
    (hret : ∀ d v s', P (.ret d) → Kp G.T s0 s' → Rp prog w s'.heap M0 d v → RR (.ok (.ret v)) s')
    (hend : ∀ Zn sn, Iv xs.length → St G sc env M0 L Wc Zn s0 (R xs.length) sn → Ch G.T Wc Z Zn s sn → RR (.ok .next) sn) : codeAny (model prog w) A (.forLoop t (.ref I) body [] env) RR s1 := by
  refine for_coreX (J := fun _ => False) (X := fun _ _ => True) (P := P) (ρb := ρb) (fun _ h => h.elim) trivial (fun _ _ _ _ h => h) ho hv tt h0 hI k1 W hc0 hh1 hh2 hown hb (fun i x hx hIi Z3 L3 s3 Q E hL t3 _ hN hR => ?_) hret (fun Zn sn h t c _ => hend Zn sn h t (c.mono fun a h => h.elim id False.elim))
  exact hbody i x hx hIi A env M0 L3 Wc Z3 s0 s3 Q E ho hv t3 (fun ρ4 Z4 s4 hp t4 ch4 => hN ρ4 Z4 s4 hp.1 hp.2 t4 (ch4.mono fun a h => .inl h) trivial) hR
theorem ExTo.for {α : Type} {f : α → PyData} {xs : List α} {R : Nat → VEnv} {ρb : Nat → α → VEnv} {Iv : Nat → Prop} {t iter : Expr} {body rest : List Stmt} {pos : Pos} {P : Out → Prop}
    (hit : ItTo G k sc ρ t true iter (xs.map f)) (hs : ∀ env x, foldedSetIterable iter env x = pure x) (h0 : Wkn ρ (R 0)) (hI : Iv 0)
    (hb : ∀ i x, xs[i]? = some x → Iv i → BindTo G k sc (R i) t (f x) (ρb i x))
    (hbody : ∀ i x, xs[i]? = some x → Iv i → ExTo G k sc (ρb i x) body (fun o => match o with | .next ρ' => Wkn ρ' (R (i + 1)) ∧ Iv (i + 1) | .ret d => P (.ret d)))
    (hrest : Iv xs.length → ExTo G k sc (R xs.length) rest P) : ExTo G k sc ρ (.For t iter body [] pos :: rest) P := by
  intro A env M0 L Wc Z s0 s Q E ho hv tt hQ hR
  refine wpAny_execs_cons (wpAny_For ?_ (hs env))
  refine hit A env _ s _ _ ho hv tt.fm.vr fun I own Co h0' s1 k1 W hc0 hh1 hh2 hown => ?_
  refine for_core ho hv tt h0 hI k1 W hc0 hh1 hh2 hown hb hbody (fun d v s' hp hk hr => hR d v s' hp hk hr) fun Zn sn hIn tn chn => ?_
  exact hrest hIn A env M0 L Wc Zn s0 sn Q E ho hv tn (fun ρ3 Z3 s3 hp t3 ch3 => hQ ρ3 Z3 s3 hp t3 (chn.trans ch3)) hR
end
end
section
section
variable {prog : Program} {w : World} {G : Gl prog w} {k : Nat} {sc csc : Scope} {ρ ρ' ρc : VEnv}
noncomputable def Its (prog : Program) (w : World) (h : Heap) (M N : Addr → Prop) : B → Value → Prop
  | .un, _ => False
  | .is _, _ => False
  | .own d, v => Rp prog w h (fun b => M b ∨ N b) d v
  | .mu ds, v => ∃ a items, v = .ref a ∧ N a ∧ h.PlainList a items ∧ RpL prog w h (fun b => M b ∨ N b) ds items.toList ∧ ds.length ≤ lid
  | .mud D, v => ∃ a kvs, v = .ref a ∧ N a ∧ (a == sysModules) = false ∧ h.DictOf (strKind prog w) a kvs ∧ RpD prog w h (fun b => M b ∨ N b) D kvs ∧ D.length ≤ lid
noncomputable def EvIt (G : Gl prog w) (k : Nat) (sc : Scope) (ρ : VEnv) (e : Expr) (b : B) : Prop :=
  ∀ (A : Around) (env : Env) (M : Addr → Prop) (s : Shared) (Q : Value → Shared → Prop) (E : Value → Shared → Prop), Ok k A → EnvOk sc env → VR G env M ρ s →
    (∀ v s' N, Kp G.T s s' → (∀ a, N a → s.heap.get? a = none ∧ (∃ o, s'.heap.get? a = some o) ∧ v = .ref a) → Its prog w s'.heap M N b v → Q v s') → wpAny (model prog w) A (eval e env) Q E s
theorem EvIt.own {e : Expr} {d : PyData} (h : EvTo G k sc ρ e d) : EvIt G k sc ρ e (.own d) := by
  intro A env M s Q E ho hv hr hQ
  exact h A env M s Q E ho hv hr fun v s' k r => hQ v s' (fun _ => False) k (fun _ q => q.elim) (Rp.sub (fun a o e q => q.elim id False.elim) _ _ r)
theorem EvIt.list {es : List Expr} {ds : List PyData} {pos : Pos} (he : EvAll G k sc ρ es ds) (hl : ds.length ≤ lid) : EvIt G k sc ρ (.List es pos) (.mu ds) := by
  intro A env M s Q E ho hv hr hQ
  refine wpAny_List_spliced (he.run ho hv hr fun vs s1 k1 r1 => ⟨by rw [r1.length]; exact Nat.le_trans hl lid_le, ?_⟩)
  have hn : s1.heap.get? s1.heap.objs.size = none := fresh_none (Nat.le_refl _)
  have hp : (s1.heap.push { cls := .type "list", data := .seq vs.toArray }).PlainList s1.heap.objs.size vs.toArray := ⟨_, Heap.get?_push_size _ rfl⟩
  refine hQ _ _ (· = s1.heap.objs.size) (k1.trans (Kp.push _ s1.toks)) (fun a ha => ?_) ⟨_, _, rfl, rfl, hp, ?_, hl⟩
  · subst ha
    refine ⟨?_, ⟨_, hp.choose_spec⟩, rfl⟩
    cases e : s.heap.get? s1.heap.objs.size with
    | none => rfl
    | some o => obtain ⟨_, z⟩ := k1.al e; rw [hn] at z; cases z
  · refine RpL.agr Agr.push _ _ (RpL.sub (fun a o e q => q.elim id fun q => ?_) _ _ r1)
    rw [q, hn] at e; cases e
theorem EvIt.comp {α : Type} {f : α → PyData} {o : α → List PyData} {elt t iter : Expr} {ifs : List Expr} {rest : List Comprehension} {pos : Pos} {xs : List α}
    (hc : compOk sc csc = true) (hρ : Filt csc ρ ρc) (hit : ItTo G k sc ρ t false iter (xs.map f)) (hs : ∀ env x, foldedSetIterable iter env x = pure x) (hT : ∀ x, x ∈ xs → TurnTo G k csc (⟨t, iter, ifs, 0⟩ :: rest) elt ρc 0 (f x) (o x)) (hl : (xs.flatMap o).length ≤ lid) :
    EvIt G k sc ρ (.ListComp elt (⟨t, iter, ifs, 0⟩ :: rest) csc pos) (.mu (xs.flatMap o)) := by
  intro A env M s Q E ho hv hr hQ
  have hc := compOk.of hc
  rw [eval_ListComp]
  refine wpAny_comprehension_free (use := none) rfl (hs env) (comp_closure hc hv) hc.kind (comp_names hc) ?_
  refine comp_core f o (RR := fun acc C => compPost (model prog w) A E none Q acc C) hc hρ hit hT hl ho hv hr fun D C s' kk hns hC hD hne hi => ?_
  obtain ⟨m, hm⟩ := hns
  obtain ⟨items, h1, h2⟩ := hi
  refine ⟨m, hm, fun h' hs' => hQ _ _ (· = D) ?_ (fun a ha => ?_) ⟨D, items, rfl, rfl, h1.at fun o e => (hs'.2 D hne).trans e, ?_, hl⟩⟩
  · obtain ⟨om, es, ep, hom, hdm, _⟩ := id hm
    obtain ⟨⟨h1, t1, rfl⟩, hk⟩ := kk
    exact ⟨⟨h', t1, rfl⟩, fun b o' e => (hk b o' e).trans (fun c o2 ic e2 => .inl ((hs'.2 c fun q => by rw [q, hom] at e2; cases e2; exact notCoD hdm ic).trans e2)) fun o2 e2 => .inl ((hs'.2 b fun q => by rw [q, hC] at e; cases e).trans e2)⟩
  · subst ha
    obtain ⟨n, e⟩ := h1
    exact ⟨hD, ⟨_, (hs'.2 a hne).trans e⟩, rfl⟩
  · exact RpL.sub (fun a o e q => q.elim .inl fun q => .inr (.inr q)) _ _ (RpL.agr (fun b o hb _ e => (hs'.2 b fun q => hb (.inr (.inl q))).trans e) _ _ h2)
theorem MM_add {M0 Wc Z L N : Addr → Prop} : (fun a => MM M0 Wc Z L a ∨ N a) = MM M0 Wc (fun a => Z a ∨ N a) L := funext fun a => propext ⟨fun h => by
      rcases h with (h | h | h | h) | h
      · exact .inl h
      · exact .inr (.inl h)
      · exact .inr (.inr (.inl (.inl h)))
      · exact .inr (.inr (.inr h))
      · exact .inr (.inr (.inl (.inr h))), fun h => by
      rcases h with h | h | (h | h) | h
      · exact .inl (.inl h)
      · exact .inl (.inr (.inl h))
      · exact .inl (.inr (.inr (.inl h)))
      · exact .inr h
      · exact .inl (.inr (.inr (.inr h)))⟩
section
variable {A : Around} {env : Env} {M0 L Wc Z : Addr → Prop} {s0 s s1 s' : Shared}
theorem St.putZ {y : Str} {v : Value} {b : B} {N : Addr → Prop} {Q : Unit → Shared → Prop} {E : Value → Shared → Prop} (t : St G sc env M0 L Wc (fun a => Z a ∨ N a) s0 ρ s) (hv : EnvOk sc env) (hy : OwnName sc y) (hu : Upd y b ρ ρ')
    (hi : Its prog w s.heap (MM M0 Wc Z L) N b v) (hno : b.isMu → ∀ a, v = .ref a → ∀ x c, (x, c) ∈ ρ → c.isMu → x ≠ y → ¬ Acc env s.heap x (.ref a))
    (h : ∀ s', KB G.T Wc s s' → St G sc env M0 L Wc (fun a => Z a ∨ N a) s0 ρ' s' → Acc env s'.heap y v → (∀ x u, x ≠ y → Acc env s.heap x u → Acc env s'.heap x u) → Q () s') : wpAny (model prog w) A (storeName env y v) Q E s := by
  refine t.storeB hv hy hu (fun s' k hacc => ?_) (fun hb => ?_) h
  · have hag := t.agrW k
    cases b with
    | un => trivial
    | is v => exact hi.elim
    | own d =>
      simp only [Its] at hi
      rw [MM_add] at hi
      exact ⟨v, hacc, Rp.agr hag _ _ hi⟩
    | mu ds =>
      simp only [Its] at hi
      rw [MM_add] at hi
      obtain ⟨a, items, rfl, hn, h3, h4, h5⟩ := hi
      exact ⟨a, items, hacc, .inr (.inr (.inl (.inr hn))), PL.gr h3 fun o n e => k.nt _ o (t.zw a (.inr hn)) n e, RpL.agr hag _ _ h4, h5⟩
    | mud D =>
      simp only [Its] at hi
      rw [MM_add] at hi
      obtain ⟨a, kvs, rfl, hn, h2', h3, h4, h5⟩ := hi
      exact ⟨a, kvs, hacc, .inr (.inr (.inl (.inr hn))), fun q => t.zw a (.inr hn) (q ▸ t.fm.fe.wl), h2', Dic.gr h3 fun o n e => k.nt _ o (t.zw a (.inr hn)) n e, RpD.agr hag _ _ h4, h5⟩
  · cases b with
    | un => cases hb
    | is v => cases hb
    | own d => cases hb
    | mu ds => obtain ⟨a, items, rfl, hn, _⟩ := hi; exact ⟨a, rfl, .inr hn, fun x c hx hc hne => hno trivial a rfl x c hx hc hne⟩
    | mud D => obtain ⟨a, kvs, rfl, hn, _⟩ := hi; exact ⟨a, rfl, .inr hn, fun x c hx hc hne => hno trivial a rfl x c hx hc hne⟩
theorem St.grow2 {own N : Addr → Prop} (t : St G sc env M0 L Wc Z s0 ρ s) (k : Kp G.T s s') (hn : ∀ a, (own a ∨ N a) → s.heap.get? a = none) (hd : ∀ a, (own a ∨ N a) → ∃ o, s'.heap.get? a = some o) (hx : ∀ a, N a → ¬ own a) :
    St G sc env M0 (fun a => L a ∨ own a) Wc (fun a => Z a ∨ N a) s0 ρ s' := by
  have nn : ∀ a, (own a ∨ N a) → ¬ (MM M0 Wc Z L a) := fun a ha q => by obtain ⟨o, e⟩ := t.fm.vr.dom a q; rw [hn a ha] at e; cases e
  have hM : (fun a => MM M0 Wc Z L a ∨ (own a ∨ N a)) = MM M0 Wc (fun a => Z a ∨ N a) (fun a => L a ∨ own a) := funext fun a => propext ⟨fun h => by
      rcases h with (h | h | h | h) | h | h
      · exact .inl h
      · exact .inr (.inl h)
      · exact .inr (.inr (.inl (.inl h)))
      · exact .inr (.inr (.inr (.inl h)))
      · exact .inr (.inr (.inr (.inr h)))
      · exact .inr (.inr (.inl (.inr h))), fun h => by
      rcases h with h | h | (h | h) | h | h
      · exact .inl (.inl h)
      · exact .inl (.inr (.inl h))
      · exact .inl (.inr (.inr (.inl h)))
      · exact .inr (.inr h)
      · exact .inl (.inr (.inr (.inr h)))
      · exact .inr (.inl h)⟩
  have f1 := (t.fm.grow k hn hd)
  rw [hM] at f1
  have t' := t.keeps k
  have new0 : ∀ a, (own a ∨ N a) → s0.heap.get? a = none := fun a ha => by
    cases e : s0.heap.get? a with
    | none => rfl
    | some o => obtain ⟨_, q⟩ := t.kp.al e; rw [hn a ha] at q; cases q
  refine ⟨⟨f1.fe, f1.vr, f1.sub, f1.nb, fun x b hx hb => let ⟨a, h1, h2⟩ := f1.ym x b hx hb; ⟨a, h1, .inl h2⟩, fun x c hc => (f1.cz x c hc).imp id .inl, fun a ha => .inr (.inr (.inl ha))⟩, t'.kp, fun a ha => ?_, t.d0, t.b0, fun a ha => ?_, fun a ha q => ?_, fun a ha q => ?_, t.cw, t'.ds⟩
  · rcases ha with ha | (ha | ha) | ha | ha
    · exact t.fr a (.inl ha)
    · exact t.fr a (.inr (.inl ha))
    · exact new0 a (.inr ha)
    · exact t.fr a (.inr (.inr ha))
    · exact new0 a (.inl ha)
  · rcases ha with ha | ha
    · exact t.zw a ha
    · exact fun q => nn a (.inr ha) (.inr (.inl q))
  · rcases ha with ha | ha <;> rcases q with q | q
    · exact t.zl a ha q
    · exact nn a (.inl q) (.inr (.inr (.inl ha)))
    · exact nn a (.inr ha) (.inr (.inr (.inr q)))
    · exact hx a ha q
  · rcases q with q | q
    · exact t.wl a ha q
    · exact nn a (.inl q) (.inr (.inl ha))
theorem St.noNew {N : Addr → Prop} (t : St G sc env M0 L Wc Z s0 ρ s) (k : Kp G.T s s1) (hn : ∀ a, N a → s.heap.get? a = none) {a : Addr} (ha : N a) : ∀ x c, (x, c) ∈ ρ → c.isMu → ¬ Acc env s1.heap x (.ref a) := fun x c hx hc q => by
  obtain ⟨a', h1, h2⟩ := t.fm.ym x c hx hc
  cases (h1.keeps k.nt).det q
  obtain ⟨o, e⟩ := t.dom (.inr (.inl h2))
  rw [hn a ha] at e; cases e
theorem Ch.addN {N : Addr → Prop} {Wc Z : Addr → Prop} {s s1 : Shared} (k : Kp G.T s s1) (hn : ∀ a, N a → s.heap.get? a = none) : Ch G.T Wc Z (fun a => Z a ∨ N a) s s1 :=
  ⟨fun a ha => ha.imp id (hn a), KB.of k, fun b o e => k.al e⟩
end
theorem Step.assignIt {y : Str} {p pos : Pos} {e : Expr} {b : B} (he : EvIt G k sc ρ e b) (hy : OwnName sc y) (hu : Upd y b ρ ρ') (hs : ∀ env, swapsWith e (some (.Name y p)) pos.line env = pure false) : Step G k sc ρ (.Assign [.Name y p] e pos) ρ' := by
  intro A env M0 L Wc Z s0 s Q E ho hv t hQ
  rw [exec_Assign_Name env y p e pos (hs env)]
  refine wpAny_bind (wpAny_standAt (wpAny_bind (he A env _ s _ _ ho hv t.fm.vr fun v s1 N k1 hN hi => ?_)))
  have t1 := t.addZ k1 (fun a ha => (hN a ha).1) fun a ha => (hN a ha).2.1
  refine wpAny_bind (wpAny_standAt (wpAny_bind (wpAny_bindName (t1.putZ hv hy hu hi (fun hb a hva x c hx hc hne => ?_) fun s2 k2 t2 _ _ => wpAny_pure (hQ _ s2 t2 ((Ch.addN k1 fun a ha => (hN a ha).1).trans (Ch.ofW t2 k2)))))))
  have : N a := by
    cases b with
    | un => cases hb
    | is v => cases hb
    | own d => cases hb
    | mu ds => obtain ⟨a', items, e1, hn, _⟩ := hi; rw [hva] at e1; cases e1; exact hn
    | mud D => obtain ⟨a', kvs, e1, hn, _⟩ := hi; rw [hva] at e1; cases e1; exact hn
  exact t.noNew k1 (fun a ha => (hN a ha).1) this x c hx hc
theorem Step.assignComp {α : Type} {f : α → PyData} {o : α → List PyData} {y : Str} {p spos : Pos} {elt t iter : Expr} {ifs : List Expr} {rest : List Comprehension} {pos : Pos} {xs : List α} {b : B} (hb : b = .mu (xs.flatMap o) ∨ b = .own (.list (xs.flatMap o)))
    (hc : compOk sc csc = true) (hρ : Filt csc ρ ρc) (hit : ItTo G k sc ρ t false iter (xs.map f)) (hs : ∀ env x, foldedSetIterable iter env x = pure x) (hT : ∀ x, x ∈ xs → TurnTo G k csc (⟨t, iter, ifs, 0⟩ :: rest) elt ρc 0 (f x) (o x)) (hl : (xs.flatMap o).length ≤ lid)
    (hy : OwnName sc y) (hu : Upd y b ρ ρ') : Step G k sc ρ (.Assign [.Name y p] (.ListComp elt (⟨t, iter, ifs, 0⟩ :: rest) csc pos) spos) ρ' := by
  intro A env M0 L Wc Z s0 s Q E ho hv tt hQ
  have hsw : ∃ c, swapsWith (.ListComp elt (⟨t, iter, ifs, 0⟩ :: rest) csc pos) (some (.Name y p)) spos.line env = pure c := ⟨_, rfl⟩
  obtain ⟨c, hsw⟩ := hsw
  cases c with
  | false =>
    have he : EvIt G k sc ρ (.ListComp elt (⟨t, iter, ifs, 0⟩ :: rest) csc pos) b := by
      rcases hb with rfl | rfl
      · exact EvIt.comp hc hρ hit hs hT hl
      · exact EvIt.own (EvTo.listComp hc hρ hit hs hT hl)
    rw [exec_Assign_Name env y p _ spos hsw]
    refine wpAny_bind (wpAny_standAt (wpAny_bind (he A env _ s _ _ ho hv tt.fm.vr fun v s1 N k1 hN hi => ?_)))
    have t1 := tt.addZ k1 (fun a ha => (hN a ha).1) fun a ha => (hN a ha).2.1
    refine wpAny_bind (wpAny_standAt (wpAny_bind (wpAny_bindName (t1.putZ hv hy hu hi (fun hb a hva x c hx hc hne => ?_) fun s2 k2 t2 _ _ => wpAny_pure (hQ _ s2 t2 ((Ch.addN k1 fun a ha => (hN a ha).1).trans (Ch.ofW t2 k2)))))))
    have : N a := by
      cases b with
      | un => cases hb
      | is v => cases hb
      | own d => cases hb
      | mu ds => obtain ⟨a', items, e1, hn, _⟩ := hi; rw [hva] at e1; cases e1; exact hn
      | mud D => obtain ⟨a', kvs, e1, hn, _⟩ := hi; rw [hva] at e1; cases e1; exact hn
    exact tt.noNew k1 (fun a ha => (hN a ha).1) this x c hx hc
  | true =>
    have hc' := compOk.of hc
    rw [exec_Assign_Name_used y p _ spos hsw]
    refine wpAny_bind (wpAny_standAt (wpAny_bind ?_))
    show wpAny _ A (do let _ ← comprehension (.ListComp elt (⟨t, iter, ifs, 0⟩ :: rest) csc pos) csc env _ (newList []) false (eval iter env) (some (PySem.assign (.Name y p) env))) _ _ s
    refine wpAny_bind (wpAny_mono (wpAny_comprehension_free (use := some (PySem.assign (.Name y p) env)) (Q := fun _ s' => Q .next s') rfl (hs env) (comp_closure hc' hv) hc'.kind (comp_names hc') ?_)
      (fun _ s' hq => wpAny_pure (wpAny_pure hq)) fun _ _ e => e)
    refine comp_core f o (RR := fun acc C => compPost (model prog w) A E (some (PySem.assign (.Name y p) env)) (fun _ s' => Q .next s') acc C) hc' hρ hit hT hl ho hv tt.fm.vr fun D C s1 k1 hns hC hD hne hi => ?_
    obtain ⟨m, hm⟩ := hns
    obtain ⟨items, h1, h2⟩ := hi
    have hCo : ∃ o, s1.heap.get? C = some o := by obtain ⟨o', es, ep, e, _⟩ := hm; exact ⟨o', e⟩
    have hDo : ∃ o, s1.heap.get? D = some o := by obtain ⟨n, e⟩ := h1; exact ⟨_, e⟩
    have tL : St G sc env M0 (fun a => L a ∨ a = C) Wc Z s0 ρ s1 := tt.growL k1 (fun a ha => ha ▸ hC) (fun a ha => ha ▸ hCo)
    have hCM : ∀ a, MM M0 Wc Z L a → a ≠ C := fun a ha q => by obtain ⟨o', e⟩ := tt.fm.vr.dom a ha; rw [q, hC] at e; cases e
    have fin : ∀ {N : Addr → Prop}, (∀ a, N a → a = D) → St G sc env M0 (fun a => L a ∨ a = C) Wc (fun a => Z a ∨ N a) s0 ρ s1 → Its prog w s1.heap (MM M0 Wc Z (fun a => L a ∨ a = C)) N b (.ref D) →
        wpAny (model prog w) A (PySem.assign (.Name y p) env (.ref D)) (fun _ s'' => ∃ m, s''.heap.Ns C m ∧ ∀ h', Heap.SameBut C s''.heap h' → Q .next { s'' with heap := h' }) E s1 := fun {N} hN tN hI => by
      refine wpAny_assign_Name (tN.putZ hv hy hu hI (fun hb a hva x c hx hc hne => ?_) fun s2 k2 t2 _ _ => ?_)
      · cases hva
        exact tt.noNew (N := (· = D)) k1 (fun a ha => ha ▸ hD) rfl x c hx hc
      · have hCW : ¬ Wc C := fun q => hCM C (.inr (.inl q)) rfl
        refine ⟨m, Nsp.gr hm fun o n e => k2.nt C o hCW n e, fun h' hs' => ?_⟩
        obtain ⟨om, es, ep, hom, hdm, _⟩ := Nsp.gr hm fun o n e => k2.nt C o hCW n e
        have kC : KB G.T (· = C) s2 { s2 with heap := h' } := .mk' ⟨h', s2.toks, rfl⟩ (fun b o hb e => (hs'.2 b hb).trans e) fun b o hb e => by rw [hb, hom] at e; cases e; exact notCoD hdm
        have t3 := t2.dropL kC (fun a ha q => hCM a (.inr (.inr (.inr ha))) q)
        refine hQ _ _ t3 ⟨fun a ha => ha.imp id fun q => by rw [hN a q]; exact hD, ⟨?_, fun b o hb e => ((k1.tk b o e).trans k2.code fun o2 e2 => k2.tk b o2 (fun q => hb (.inl q)) e2).trans kC.code fun o3 e3 => kC.tk b o3 (fun q => by rw [q, hC] at e; cases e) e3, fun b o ic e => kC.co b o ic (k2.co b o ic (k1.nt b o ic.nt e))⟩, fun b o e => ?_⟩
        · exact ((KB.of (own := fun _ => True) k1).trans ((k2.mono fun _ _ => trivial).trans (kC.mono fun _ _ => trivial))).same
        · by_cases hw : Wc b
          · exact t3.dom (.inl hw)
          · exact (((k1.tk b o e).trans k2.code fun o2 e2 => k2.tk b o2 hw e2).trans kC.code fun o3 e3 => kC.tk b o3 (fun q => by rw [q, hC] at e; cases e) e3).al
    have sb : ∀ a o', s1.heap.get? a = some o' → MM M0 Wc Z (fun a => L a ∨ a = C) a → (MM M0 Wc Z L a ∨ a = C ∨ a = D) := fun a o' e q => by
      rcases q with q | q | q | q | q
      · exact .inl (.inl q)
      · exact .inl (.inr (.inl q))
      · exact .inl (.inr (.inr (.inl q)))
      · exact .inl (.inr (.inr (.inr q)))
      · exact .inr (.inl q)
    rcases hb with rfl | rfl
    · refine fin (N := (· = D)) (fun a h => h) ?_ ⟨D, items, rfl, rfl, h1, RpL.sub (fun a o' e q => q.elim (sb a o' e) fun q => .inr (.inr q)) _ _ h2, hl⟩
      exact tt.grow2 (own := (· = C)) (N := (· = D)) k1 (fun a ha => ha.elim (fun q => q ▸ hC) fun q => q ▸ hD) (fun a ha => ha.elim (fun q => q ▸ hCo) fun q => q ▸ hDo) (fun a ha q => hne (ha ▸ q))
    · refine fin (N := fun _ => False) (fun a h => h.elim) ?_ ?_
      · have e : (fun a => Z a ∨ False) = Z := funext fun a => propext ⟨fun h => h.elim id False.elim, .inl⟩
        rw [e]; exact tL
      · simp only [Its, Rp]
        refine ⟨D, items, rfl, fun q => ?_, h1, RpL.sub (fun a o' e q => q.elim (sb a o' e) False.elim) _ _ h2, hl⟩
        rcases q with q | q
        · rcases sb D _ h1.choose_spec q with q | q | q
          · obtain ⟨o', e⟩ := tt.fm.vr.dom D q; rw [hD] at e; cases e
          · exact hne q
          · rcases ‹MM M0 Wc Z (fun a => L a ∨ a = C) D› with q | q | q | q | q
            · obtain ⟨o', e⟩ := tt.fm.vr.dom D (.inl q); rw [hD] at e; cases e
            · obtain ⟨o', e⟩ := tt.fm.vr.dom D (.inr (.inl q)); rw [hD] at e; cases e
            · obtain ⟨o', e⟩ := tt.fm.vr.dom D (.inr (.inr (.inl q))); rw [hD] at e; cases e
            · obtain ⟨o', e⟩ := tt.fm.vr.dom D (.inr (.inr (.inr q))); rw [hD] at e; cases e
            · exact hne q
        · exact q
end
end
section
noncomputable def dk (F : List (Str × PyData)) : List (PyData × PyData) := F.map fun kv => (.str kv.1, kv.2)
noncomputable def put {α : Type} (F : List (Str × α)) (x : Str) (d : α) : List (Str × α) :=
  if F.any (fun kv => kv.1 = x) then F.map (fun kv => if kv.1 = x then (kv.1, d) else kv) else F ++ [(x, d)]
section
variable {prog : Program} {w : World} {G : Gl prog w} {k : Nat} {sc csc : Scope} {ρ ρ' ρc : VEnv}
theorem RpD.keys {h : Heap} {M : Addr → Prop} : ∀ {F : List (Str × PyData)} {kvs : List (Str × Value)}, RpD prog w h M (dk F) kvs → kvs.map (·.1) = F.map (·.1)
  | [], _, r => by simp only [dk, List.map_nil, RpD] at r; subst r; rfl
  | (x, d) :: F, _, r => by
    simp only [dk, List.map_cons, RpD] at r
    obtain ⟨y, v, q, rfl, h0, h1, h2⟩ := r
    cases h0
    have := RpD.keys (F := F) h2
    simp [this]
theorem RpD.append {h : Heap} {M : Addr → Prop} {x : Str} {d : PyData} {v : Value} (hr : Rp prog w h M d v) : ∀ {F : List (Str × PyData)} {kvs : List (Str × Value)}, RpD prog w h M (dk F) kvs → RpD prog w h M (dk (F ++ [(x, d)])) (kvs ++ [(x, v)])
  | [], _, r => by
    simp only [dk, List.map_nil, RpD] at r; subst r
    simp only [dk, List.nil_append, List.map_cons, List.map_nil, RpD]
    exact ⟨x, v, [], rfl, rfl, hr, rfl⟩
  | (y, e) :: F, _, r => by
    simp only [dk, List.map_cons, RpD] at r
    obtain ⟨z, u, q, rfl, h0, h1, h2⟩ := r
    simp only [dk, List.cons_append, List.map_cons, RpD]
    exact ⟨z, u, _, rfl, h0, h1, RpD.append hr (F := F) h2⟩
theorem RpD.over {h : Heap} {M : Addr → Prop} {x : Str} {d : PyData} {v : Value} (hr : Rp prog w h M d v) : ∀ {F : List (Str × PyData)} {kvs : List (Str × Value)}, RpD prog w h M (dk F) kvs →
    RpD prog w h M (dk (F.map fun kv => if kv.1 = x then (kv.1, d) else kv)) (kvs.map fun kv => if kv.1 = x then (kv.1, v) else kv)
  | [], _, r => by simp only [dk, List.map_nil, RpD] at r; subst r; simp [dk, RpD]
  | (y, e) :: F, _, r => by
    simp only [dk, List.map_cons, RpD] at r
    obtain ⟨z, u, q, rfl, h0, h1, h2⟩ := r
    cases h0
    have ih := RpD.over (x := x) hr (F := F) h2
    by_cases hy : y = x
    · subst hy
      simp only [dk, List.map_cons, if_pos, RpD]
      exact ⟨y, v, _, rfl, rfl, hr, ih⟩
    · simp only [dk, List.map_cons, if_neg hy, RpD]
      exact ⟨y, u, _, rfl, rfl, h1, ih⟩
theorem RpD.put {h : Heap} {M : Addr → Prop} {x : Str} {d : PyData} {v : Value} {F : List (Str × PyData)} {kvs : List (Str × Value)} (r : RpD prog w h M (dk F) kvs) (hr : Rp prog w h M d v) : RpD prog w h M (dk (put F x d)) (stored kvs x v) := by
  have hany : (kvs.any fun kv => kv.1 = x) = F.any fun kv => kv.1 = x := by
    have e1 : (kvs.any fun kv => kv.1 = x) = (kvs.map (·.1)).any (fun y => y = x) := by rw [List.any_map]; rfl
    have e2 : (F.any fun kv => kv.1 = x) = (F.map (·.1)).any (fun y => y = x) := by rw [List.any_map]; rfl
    rw [e1, e2, r.keys]
  unfold Mine.put PySem.stored
  rw [hany]
  split
  · exact RpD.over hr r
  · exact RpD.append hr r
theorem dk_length (F : List (Str × PyData)) : (dk F).length = F.length := by simp [dk]
theorem put_length {α : Type} (F : List (Str × α)) (x : Str) (d : α) : (put F x d).length ≤ F.length + 1 := by
  unfold put; split <;> simp
theorem RpL.reverse {h : Heap} {M : Addr → Prop} {ds : List PyData} {vs : List Value} (r : RpL prog w h M ds vs) : RpL prog w h M ds.reverse vs.reverse := by
  refine RpL.iff (by simp [r.length]) fun i d v e1 e2 => ?_
  have hl := r.length
  have hi : i < ds.length := by have := (List.getElem?_eq_some_iff.mp e1).1; simpa using this
  rw [List.getElem?_reverse hi] at e1
  rw [List.getElem?_reverse (by lia), hl] at e2
  exact r.of_get e1 e2
theorem interactive_fn {env : Env} (hv : EnvOk sc env) : interactive env = false := by
  unfold interactive; rw [hv.kind]; rfl
theorem method_list {A : Around} {env : Env} {M : Addr → Prop} {s : Shared} {x : Str} {a : Addr} {items : Array Value} {name : Str} {id : String} {px apos pos : Pos} {es : List Expr} {ds : List PyData} {Q : Value → Shared → Prop} {E : Value → Shared → Prop}
    (ho : Ok k A) (hv : EnvOk sc env) (hr : VR G env M ρ s) (ha : Acc env s.heap x (.ref a)) (hp : s.heap.PlainList a items) (slot : Slot "list" name id) (hty : typeOf (.builtin id) = pure (.type "method_descriptor"))
    (he : EvAll G k sc ρ es ds) (hfew : es.length < 20) (hline : (apos.endLine == pos.line) = true)
    (h : ∀ vs s1, Kp G.T s s1 → RpL prog w s1.heap M ds vs → wpAny (model prog w) A (call (.builtin id) (.ref a :: vs)) Q E s1) :
    wpAny (model prog w) A (eval (.Call (.Attribute (.Name x px) name apos) es [] pos) env) Q E s := by
  have hns : ∀ {es : List Expr} {ds : List PyData}, EvAll G k sc ρ es ds → (backTo pos (starEach es env)).all (fun x => !x.1) = true := by
    intro es ds he
    have := noStar_any he pos env
    rw [List.any_eq_false] at this
    rw [List.all_eq_true]
    intro y hy
    simpa using this y hy
  refine wpAny_Call_method_lateS rfl ?_ hline (ha.name hv ?_)
  · rw [hns he]
    show (true && decide (es.length + 0 + 0 < 30)) = true
    simp; lia
  · obtain ⟨n, e⟩ := hp
    refine ⟨"list", id, PySem.F.plainAttrs_list, slot, hty, ⟨_, e, rfl⟩, (fun _ q => by cases q; exact ⟨_, e, rfl⟩), ?_⟩
    cases he with
    | nil => exact callWith_method0 (by simpa using h [] s Kp.refl RpL.nil)
    | cons hn h1 hr' =>
      refine callWith_method1 (EvAll.run (.cons hn h1 hr') ho hv hr fun vs s1 k1 r1 => ?_) (hn _ _) ?_
      · simpa using h vs s1 k1 r1
      · exact noStar_any hr' pos env
theorem Step.expr {e : Expr} {pos : Pos} {A : Around} {env : Env} {s : Shared} {Q : Flow → Shared → Prop} {E : Value → Shared → Prop} (hv : EnvOk sc env) (hs : ∀ env, swapsWith e none pos.line env = pure false)
    (h : wpAny (model prog w) A (eval e env) (fun _ s' => Q .next s') E s) : wpAny (model prog w) A (exec (.Expr e pos) env) Q E s := wpAny_Expr_any h (interactive_fn hv) (hs env)
theorem Step.mutL {x : Str} {name : Str} {id : String} {px apos pos spos : Pos} {es : List Expr} {args ds ds' : List PyData} (hx : (x, .mu ds) ∈ ρ) (slot : Slot "list" name id) (hty : typeOf (.builtin id) = pure (.type "method_descriptor"))
    (he : EvAll G k sc ρ es args) (hfew : es.length < 20) (hline : (apos.endLine == pos.line) = true) (hu : Upd x (.mu ds') ρ ρ')
    (hc : ∀ (A : Around) (M : Addr → Prop) (s : Shared) (a : Addr) (items : Array Value) (vs : List Value) (Q : Value → Shared → Prop) (E : Value → Shared → Prop), Ok k A → s.heap.PlainList a items → RpL prog w s.heap M ds items.toList → RpL prog w s.heap M args vs → ds.length ≤ lid →
      (∀ v h' items', Heap.SameBut a s.heap h' → h'.PlainList a items' → RpL prog w s.heap M ds' items'.toList → ds'.length ≤ lid → Q v { s with heap := h' }) → wpAny (model prog w) A (call (.builtin id) (.ref a :: vs)) Q E s) :
    Step G k sc ρ (.Expr (.Call (.Attribute (.Name x px) name apos) es [] pos) spos) ρ' := by
  intro A env M0 L Wc Z s0 s Q E ho hv t hQ
  obtain ⟨a, items, ha, hm, h3, h4, h5⟩ := t.fm.vr.ent _ _ hx
  refine Step.expr hv (fun _ => rfl) (method_list ho hv t.fm.vr ha h3 slot hty he hfew hline fun vs s1 k1 r1 => ?_)
  refine hc A _ s1 a items vs _ _ ho (PL.gr h3 (k1.nt _)) (RpL.agr k1.agr _ _ h4) r1 h5 fun v h' items' hs hp hr' hl' => ?_
  have kb : KB G.T (· = a) s1 { s1 with heap := h' } := .mk' ⟨h', s1.toks, rfl⟩ (fun b o hb e => (hs.2 b hb).trans e) fun b o hb e => by
    obtain ⟨n, e0⟩ := PL.gr h3 (k1.nt _)
    rw [hb, e0] at e; cases e; exact notCoS rfl
  have hag : Agr (MM M0 Wc Z L) s1.heap h' := kb.agr fun b q => q ▸ hm
  obtain ⟨t2, k2⟩ := (t.keeps k1).mut ⟨_, hx, trivial⟩ (ha.keeps k1.nt) kb hu trivial (by obtain ⟨n, e⟩ := hp; exact ⟨_, e⟩) fun hacc => ⟨a, items', hacc, hm, hp, RpL.agr hag _ _ hr', hl'⟩
  exact hQ Z _ t2 (Ch.ofZ t2 ((KB.of k1).trans k2))
theorem Step.append {x : Str} {px apos pos spos : Pos} {e : Expr} {d : PyData} {ds : List PyData} (hx : (x, .mu ds) ∈ ρ) (he : EvTo G k sc ρ e d) (hn : NotStar e) (hline : (apos.endLine == pos.line) = true) (hu : Upd x (.mu (ds ++ [d])) ρ ρ') (hl : ds.length < lid) :
    Step G k sc ρ (.Expr (.Call (.Attribute (.Name x px) "append" apos) [e] [] pos) spos) ρ' := by
  refine Step.mutL hx PySem.slot_list_append PySem.type_list_append (.cons hn he .nil) (by simp) hline hu fun A M s a items vs Q E ho hp hr ha hb hQ => ?_
  obtain ⟨v, rfl, r⟩ := ha.one
  have hlen : items.size = ds.length := by simpa using hr.length
  have hsz : items.size ≤ sizeLine := by rw [hlen]; exact Nat.le_trans hb lid_le
  exact wpAny_list_append_plain hp (fun h' hp' hs => hQ _ h' _ hs hp' (by rw [Array.toList_push]; exact RpL.append hr (RpL.cons r RpL.nil)) (by simp; lia)) hsz
theorem Step.insert0 {x : Str} {px apos pos spos : Pos} {ez e : Expr} {d : PyData} {ds : List PyData} (hx : (x, .mu ds) ∈ ρ) (hz : EvTo G k sc ρ ez (.int 0)) (he : EvTo G k sc ρ e d) (hnz : NotStar ez) (hn : NotStar e) (hline : (apos.endLine == pos.line) = true) (hu : Upd x (.mu (d :: ds)) ρ ρ') (hl : ds.length < lid) :
    Step G k sc ρ (.Expr (.Call (.Attribute (.Name x px) "insert" apos) [ez, e] [] pos) spos) ρ' := by
  refine Step.mutL hx PySem.F.slot_list_insert PySem.F.type_list_insert (.cons hnz hz (.cons hn he .nil)) (by simp) hline hu fun A M s a items vs Q E ho hp hr ha hb hQ => ?_
  obtain ⟨u, v, rfl, r0, r⟩ := ha.two
  simp only [Rp] at r0
  obtain ⟨tk, rfl⟩ := r0
  have hlen : items.size = ds.length := by simpa using hr.length
  obtain ⟨n, e⟩ := hp
  have g := PySem.AutoListH.list_insert_list_int_val_1 a items n 0 tk v (by decide) (by rw [hlen]; exact Nat.le_trans hb lid_le)
  refine call_meets PySem.F.slot_list_insert ⟨_, e, rfl⟩ PySem.F.entry_list_insert (PySem.F.args_list_insert_3 _ _ _) g ⟨e, ?_⟩
  refine hQ _ _ (#[v] ++ items) (Heap.SameBut.update ..) ⟨_, by rw [Heap.get?_update_self _ e rfl]; simp [Obj.mapSeq]; rfl⟩ (by simpa using RpL.cons r hr) (by simp; lia)
theorem Step.reverse {x : Str} {px apos pos spos : Pos} {ds : List PyData} (hx : (x, .mu ds) ∈ ρ) (hline : (apos.endLine == pos.line) = true) (hu : Upd x (.mu ds.reverse) ρ ρ') :
    Step G k sc ρ (.Expr (.Call (.Attribute (.Name x px) "reverse" apos) [] [] pos) spos) ρ' := by
  refine Step.mutL hx PySem.F.slot_list_reverse PySem.F.type_list_reverse .nil (by simp) hline hu fun A M s a items vs Q E ho hp hr ha hb hQ => ?_
  simp only [RpL] at ha
  subst ha
  have hlen : items.size = ds.length := by simpa using hr.length
  obtain ⟨n, e⟩ := hp
  have g := PySem.AutoListH.list_reverse_list_0 a items n (by rw [hlen]; exact Nat.le_trans hb lid_le)
  refine call_meets PySem.F.slot_list_reverse ⟨_, e, rfl⟩ PySem.F.entry_list_reverse (PySem.F.args_list_reverse_1 _) g ⟨e, ?_⟩
  refine hQ _ _ items.reverse (Heap.SameBut.update ..) ⟨_, by rw [Heap.get?_update_self _ e rfl]; simp [Obj.mapSeq]; rfl⟩ (by simpa using hr.reverse) (by simpa using hb)
theorem Step.del {x : Str} {px pp pos : Pos} {ie : Expr} {i : Int} {j : Nat} {ds : List PyData} (hx : (x, .mu ds) ∈ ρ) (he : EvTo G k sc ρ ie (.int i)) (hfit : Builtin.List.listFitsIndex i = true) (hj : seqIndex? i ds.length = some j) (hu : Upd x (.mu (ds.eraseIdx j)) ρ ρ') :
    Step G k sc ρ (.Delete [.Subscript (.Name x px) ie pp] pos) ρ' := by
  intro A env M0 L Wc Z s0 s Q E ho hv t hQ
  obtain ⟨a, items, ha, hm, h3, h4, h5⟩ := t.fm.vr.ent _ _ hx
  refine wpAny_Delete (wpAny_deleteEach_cons (wpAny_delete_Subscript (ha.name hv (he A env _ s _ _ ho hv t.fm.vr fun v s1 k1 r1 => ?_))))
  simp only [Rp] at r1
  obtain ⟨tk, rfl⟩ := r1
  have hlen : items.size = ds.length := by simpa using h4.length
  have hjl : j < ds.length := by
    unfold seqIndex? at hj
    generalize (if i < 0 then i + (ds.length : Int) else i) = z at hj
    simp only at hj
    by_cases h : (decide (0 ≤ z) && decide (z < (ds.length : Int))) = true
    · rw [if_pos h] at hj
      have := Option.some.inj hj
      simp only [Bool.and_eq_true, decide_eq_true_eq] at h; lia
    · rw [if_neg h] at hj; cases hj
  refine wpAny_delItem_plain (PL.gr h3 (k1.nt _)) hfit (by rw [hlen]; exact hj) (fun h' hp hs => ?_) (by rw [hlen]; exact Nat.le_trans h5 lid_le)
  have kb : KB G.T (· = a) s1 { s1 with heap := h' } := .mk' ⟨h', s1.toks, rfl⟩ (fun b o hb e => (hs.2 b hb).trans e) fun b o hb e => by
    obtain ⟨n, e0⟩ := PL.gr h3 (k1.nt _)
    rw [hb, e0] at e; cases e; exact notCoS rfl
  have hag : Agr (MM M0 Wc Z L) s1.heap h' := kb.agr fun b q => q ▸ hm
  have hr' : RpL prog w s1.heap (MM M0 Wc Z L) (ds.eraseIdx j) (items.eraseIdxIfInBounds j).toList := by
    have e1 : (items.eraseIdxIfInBounds j).toList = items.toList.eraseIdx j := by
      rw [Array.eraseIdxIfInBounds, dif_pos (by rw [hlen]; exact hjl)]; simp
    rw [e1]
    have h4' := RpL.agr k1.agr _ _ h4
    have hl2 : items.toList.length = ds.length := by simpa using hlen
    refine RpL.iff (by rw [List.length_eraseIdx, List.length_eraseIdx, hl2]) fun i d v q1 q2 => ?_
    rw [List.getElem?_eraseIdx] at q1 q2
    split at q1
    · rw [if_pos ‹_›] at q2; exact h4'.of_get q1 q2
    · rw [if_neg ‹_›] at q2; exact h4'.of_get q1 q2
  obtain ⟨t2, k2⟩ := (t.keeps k1).mut ⟨_, hx, trivial⟩ (ha.keeps k1.nt) kb hu trivial (by obtain ⟨n, e⟩ := hp; exact ⟨_, e⟩) fun hacc => ⟨a, _, hacc, hm, hp, RpL.agr hag _ _ hr', by rw [List.length_eraseIdx]; split <;> lia⟩
  exact wpAny_deleteEach_nil (hQ Z _ t2 (Ch.ofZ t2 ((KB.of k1).trans k2)))
end
end
section
noncomputable def envOf (sc : Scope) : Env := { scope := sc, locals := 0, globals := 0, cells := [] }
section
variable {prog : Program} {w : World} {G : Gl prog w} {k : Nat} {sc csc : Scope} {ρ ρ' ρc : VEnv}
theorem swapped_of {env : Env} (hv : EnvOk sc env) (hk : sc.kind = .function) (ts : List Expr) (e : Expr) : swappedStores ts e env = swappedStores ts e (envOf sc) := by
  have hb : env.blockKind = .function := by unfold Env.blockKind; rw [hv.kind]; rfl
  have hb' : (envOf sc).blockKind = .function := by unfold Env.blockKind envOf; rw [hk]; rfl
  have hn : ∀ x, (env.kindOf x == some .local) = ((envOf sc).kindOf x == some .local) := fun x => hv.kindN x
  unfold swappedStores
  simp (config := { iota := false }) only [hb, hb', hn]
theorem VR.grow {env : Env} {M own : Addr → Prop} {s s' : Shared} (f : VR G env M ρ s) (k : Kp G.T s s') (hn : ∀ b, own b → s.heap.get? b = none) (hd : ∀ b, own b → ∃ o, s'.heap.get? b = some o) : VR G env (fun a => M a ∨ own a) ρ s' := by
  have f' := f.keeps k
  exact ⟨f'.base, fun a ha => ha.elim (f'.dom a) (hd a), fun x b hx => ((f.ent x b hx).grow hn).keeps k.nt, fun x c hc => .inl (f.cel x c hc), f.nd⟩
structure ItsL (prog : Program) (w : World) (h : Heap) (M N : Addr → Prop) (bs : List B) (vs : List Value) : Prop where
  len : vs.length = bs.length
  each : ∀ (i : Nat) b v, bs[i]? = some b → vs[i]? = some v → Its prog w h M N b v
  apart : ∀ (i j : Nat) b c a, i ≠ j → bs[i]? = some b → bs[j]? = some c → b.isMu → c.isMu → vs[i]? = some (.ref a) → vs[j]? ≠ some (.ref a)
theorem Its.sub {h : Heap} {M N M' N' : Addr → Prop} {b : B} {v : Value} (r : Its prog w h M N b v) (hs : ∀ a o, h.get? a = some o → (M' a ∨ N' a) → (M a ∨ N a)) (hN : ∀ a, N a → N' a) : Its prog w h M' N' b v := by
  cases b with
  | un => exact r
  | is v => exact r
  | own d => exact Rp.sub hs _ _ r
  | mu ds => obtain ⟨a, items, h1, h2, h3, h4, h5⟩ := r; exact ⟨a, items, h1, hN a h2, h3, RpL.sub hs _ _ h4, h5⟩
  | mud D => obtain ⟨a, items, h1, h2, h2', h3, h4, h5⟩ := r; exact ⟨a, items, h1, hN a h2, h2', h3, RpD.sub hs _ _ h4, h5⟩
theorem Its.agr {T : TabS} {h h' : Heap} {M N : Addr → Prop} {b : B} {v : Value} (r : Its prog w h M N b v) (ha : Agr (fun a => M a ∨ N a) h h') (hn : ∀ a o, N a → h.get? a = some o → Gr T h' a o) : Its prog w h' M N b v := by
  cases b with
  | un => exact r
  | is v => exact r
  | own d => exact Rp.agr ha _ _ r
  | mu ds => obtain ⟨a, items, h1, h2, h3, h4, h5⟩ := r; exact ⟨a, items, h1, h2, PL.gr h3 fun o n e => (hn a o h2 e).nt n, RpL.agr ha _ _ h4, h5⟩
  | mud D => obtain ⟨a, items, h1, h2, h2', h3, h4, h5⟩ := r; exact ⟨a, items, h1, h2, h2', Dic.gr h3 fun o n e => (hn a o h2 e).nt n, RpD.agr ha _ _ h4, h5⟩
theorem Its.refN {h : Heap} {M N : Addr → Prop} {b : B} {v : Value} (r : Its prog w h M N b v) (hb : b.isMu) : ∃ a, v = .ref a ∧ N a := by
  cases b with
  | un => cases hb
  | is v => cases hb
  | own d => cases hb
  | mu ds => obtain ⟨a, items, h1, h2, _⟩ := r; exact ⟨a, h1, h2⟩
  | mud D => obtain ⟨a, items, h1, h2, _⟩ := r; exact ⟨a, h1, h2⟩
inductive EvIts (G : Gl prog w) (k : Nat) (sc : Scope) (ρ : VEnv) : List Expr → List B → Prop
  | nil : EvIts G k sc ρ [] []
  | cons {e es b bs} : NotStar e → EvIt G k sc ρ e b → EvIts G k sc ρ es bs → EvIts G k sc ρ (e :: es) (b :: bs)
theorem EvIts.run {es : List Expr} {bs : List B} (h : EvIts G k sc ρ es bs) : ∀ {A : Around} {env : Env} {M : Addr → Prop} {s : Shared} {Q : List Value → Shared → Prop} {E : Value → Shared → Prop} {pos : Pos},
    Ok k A → EnvOk sc env → VR G env M ρ s → (∀ vs s' N, Kp G.T s s' → (∀ a, N a → s.heap.get? a = none ∧ ∃ o, s'.heap.get? a = some o) → ItsL prog w s'.heap M N bs vs → Q vs s') → wpAny (model prog w) A (spliced (backTo pos (starEach es env))) Q E s := by
  induction h with
  | nil =>
    intro A env M s Q E pos _ _ _ hQ
    exact Calls.spliced_nil (hQ [] s (fun _ => False) Kp.refl (fun _ h => h.elim) ⟨rfl, fun i b v h => by simp at h, fun i j b c a _ h => by simp at h⟩)
  | cons hn he _ ih =>
    intro A env M s Q E pos ho hv hr hQ
    rw [backTo_cons hn]
    refine Calls.spliced_cons (he A env M s _ _ ho hv hr fun v s1 N1 k1 hN1 r1 => ?_)
    have hr1 := hr.grow k1 (fun a ha => (hN1 a ha).1) fun a ha => (hN1 a ha).2.1
    refine ih ho hv hr1 fun vs s2 N2 k2 hN2 r2 => ?_
    have back : ∀ a, N2 a → s.heap.get? a = none := fun a ha => by
      cases e : s.heap.get? a with
      | none => rfl
      | some o => obtain ⟨_, z⟩ := k1.al e; rw [(hN2 a ha).1] at z; cases z
    have new12 : ∀ a, N1 a → ¬ N2 a := fun a h1 h2 => by obtain ⟨o, e⟩ := (hN1 a h1).2.1; rw [(hN2 a h2).1] at e; cases e
    have r1' : Its prog w s1.heap M (fun a => N1 a ∨ N2 a) _ v := r1.sub (fun a o e q => q.elim .inl fun q => q.elim .inr fun q => by rw [(hN2 a q).1] at e; cases e) (fun a ha => .inl ha)
    refine hQ (v :: vs) s2 (fun a => N1 a ∨ N2 a) (k1.trans k2) (fun a ha => ?_) ⟨by simp [r2.len], fun i b u hb hu => ?_, fun i j b c a hij hb hc mb mc hi hj => ?_⟩
    · rcases ha with ha | ha
      · obtain ⟨o, e⟩ := (hN1 a ha).2.1; exact ⟨(hN1 a ha).1, k2.al e⟩
      · exact ⟨back a ha, (hN2 a ha).2⟩
    · cases i with
      | zero =>
        simp at hb hu; subst hb; subst hu
        exact r1'.agr k2.agr fun a o _ e => k2.tk a o e
      | succ i => exact (r2.each i b u (by simpa using hb) (by simpa using hu)).sub (fun a o e q => q.elim (fun q => .inl (.inl q)) fun q => q.elim (fun q => .inl (.inr q)) .inr) fun a ha => .inr ha
    · cases i with
      | zero =>
        cases j with
        | zero => exact hij rfl
        | succ j =>
          simp at hb hi
          subst hb
          obtain ⟨a1, e1, n1⟩ := r1.refN mb
          obtain ⟨a2, e2, n2⟩ := (r2.each j c _ (by simpa using hc) (by simpa using hj)).refN mc
          rw [hi] at e1; cases e1; cases e2
          exact new12 _ n1 n2
      | succ i =>
        cases j with
        | zero =>
          simp at hc hj
          subst hc
          obtain ⟨a1, e1, n1⟩ := r1.refN mc
          obtain ⟨a2, e2, n2⟩ := (r2.each i b _ (by simpa using hb) (by simpa using hi)).refN mb
          rw [hj] at e1; cases e1; cases e2
          exact new12 _ n1 n2
        | succ j => exact r2.apart i j b c a (by omega) (by simpa using hb) (by simpa using hc) mb mc (by simpa using hi) (by simpa using hj)
theorem ItsL.reverse {h : Heap} {M N : Addr → Prop} {bs : List B} {vs : List Value} (r : ItsL prog w h M N bs vs) : ItsL prog w h M N bs.reverse vs.reverse := by
  have hb : ∀ {i : Nat} {b : B}, bs.reverse[i]? = some b → i < bs.length ∧ bs[bs.length - 1 - i]? = some b := fun {i b} e => by
    have hi : i < bs.length := by have := (List.getElem?_eq_some_iff.mp e).1; simpa using this
    rw [List.getElem?_reverse hi] at e; exact ⟨hi, e⟩
  have hv : ∀ {i : Nat} {v : Value}, vs.reverse[i]? = some v → i < bs.length → vs[bs.length - 1 - i]? = some v := fun {i v} e hi => by
    rw [List.getElem?_reverse (by rw [r.len]; exact hi), r.len] at e; exact e
  refine ⟨by simp [r.len], fun i b v h1 h2 => ?_, fun i j b c a hij h1 h2 m1 m2 h3 h4 => ?_⟩
  · obtain ⟨hi, e⟩ := hb h1
    exact r.each _ b v e (hv h2 hi)
  · obtain ⟨hi, e1⟩ := hb h1
    obtain ⟨hj, e2⟩ := hb h2
    exact r.apart _ _ b c a (by omega) e1 e2 m1 m2 (hv h3 hi) (hv h4 hj)
inductive UpdAll (sc : Scope) : List Str → List B → VEnv → VEnv → Prop
  | nil {r} : UpdAll sc [] [] r r
  | cons {y ys b bs r r1 r'} : OwnName sc y → Upd y b r r1 → UpdAll sc ys bs r1 r' → UpdAll sc (y :: ys) (b :: bs) r r'
inductive Puts (prog : Program) (w : World) (A : Around) (env : Env) : List (Value → Sem Unit) → List Str → Prop
  | nil : Puts prog w A env [] []
  | cons {f fs y ys} : (∀ v s (Q : Unit → Shared → Prop) (E : Value → Shared → Prop), wpAny (model prog w) A (storeName env y v) Q E s → wpAny (model prog w) A (f v) Q E s) → Puts prog w A env fs ys → Puts prog w A env (f :: fs) (y :: ys)
theorem St.stores {A : Around} {env : Env} {M0 L Wc Z N : Addr → Prop} {s0 : Shared} (hv : EnvOk sc env) : ∀ {ys : List Str} {bs : List B} {ρ ρ' : VEnv}, UpdAll sc ys bs ρ ρ' → ∀ {fs : List (Value → Sem Unit)} {vs : List Value} {s : Shared} {Q : Unit → Shared → Prop} {E : Value → Shared → Prop}, Puts prog w A env fs ys →
    St G sc env M0 L Wc (fun a => Z a ∨ N a) s0 ρ s → ItsL prog w s.heap (MM M0 Wc Z L) N bs vs → (∀ (i : Nat) b a, bs[i]? = some b → b.isMu → vs[i]? = some (.ref a) → ∀ x c, (x, c) ∈ ρ → c.isMu → ¬ Acc env s.heap x (.ref a)) →
    (∀ s', KB G.T Wc s s' → St G sc env M0 L Wc (fun a => Z a ∨ N a) s0 ρ' s' → Q () s') → wpAny (model prog w) A (assignInOrder fs vs) Q E s := by
  intro ys bs ρ ρ' hu
  induction hu with
  | nil =>
    intro fs vs s Q E hp t hi hno hQ
    cases hp
    exact assignInOrder_nil (hQ s KB.refl t)
  | @cons y ys b bs ρ ρ1 ρ' hy hu _ ih =>
    intro fs vs s Q E hp t hi hno hQ
    cases hp with
    | cons hf hp =>
    cases vs with
    | nil => have := hi.len; simp at this
    | cons v vs =>
    have h0 := hi.each 0 b v rfl rfl
    refine assignInOrder_cons (hf v s _ _ (t.putZ hv hy hu h0 (fun hb a hva x c hx hc _ => hno 0 b a rfl hb (by rw [hva]; rfl) x c hx hc) fun s1 k1 t1 hacc hold => ?_))
    have hag : Agr (fun a => MM M0 Wc Z L a ∨ N a) s.heap s1.heap := by rw [MM_add]; exact t.agrW k1
    refine ih hp t1 ⟨by have := hi.len; simpa using this, fun i c u h1 h2 => (hi.each (i + 1) c u (by simpa using h1) (by simpa using h2)).agr hag fun a o ha e => k1.tk a o (t.zw a (.inr ha)) e, fun i j b' c a hij h1 h2 => hi.apart (i + 1) (j + 1) b' c a (by omega) (by simpa using h1) (by simpa using h2)⟩
      (fun i c a h1 hm h2 x c' hx hc' hacc' => ?_) fun s2 k2 t2 => hQ s2 (k1.trans k2) t2
    rcases hu.ent t.fm.vr.nd x c' hx with ⟨rfl, rfl⟩ | ⟨hne, hx⟩
    · have := hacc.det hacc'
      exact hi.apart 0 (i + 1) c' c a (by omega) rfl (by simpa using h1) hc' hm (by rw [this]; rfl) (by simpa using h2)
    · exact hno (i + 1) c a (by simpa using h1) hm (by simpa using h2) x c' hx hc' (t.fm.back hx hc' (fun u => hold x u hne) hacc')
inductive Names : List Expr → List Str → Prop
  | nil : Names [] []
  | cons {y p ts ys} : Names ts ys → Names (.Name y p :: ts) (y :: ys)
theorem Names.puts {A : Around} {env : Env} {ts : List Expr} {ys : List Str} (h : Names ts ys) : Puts prog w A env ((assignEach ts env).map (·.2)) ys ∧ (assignEach ts env).length = ts.length ∧ (assignEach ts env).findIdx? (·.1) = none ∧ ts.length = ys.length := by
  induction h with
  | nil => exact ⟨.nil, rfl, rfl, rfl⟩
  | @cons y p ts ys _ ih =>
    have e : assignEach (.Name y p :: ts) env = (false, assign (.Name y p) env) :: assignEach ts env := rfl
    rw [e]
    refine ⟨.cons (fun v s Q E h => wpAny_assign_Name h) ih.1, by simp [ih.2.1], by rw [List.findIdx?_cons]; simp [ih.2.2.1], by simp [ih.2.2.2]⟩
theorem puts_bind {A : Around} {env : Env} : ∀ ys : List Str, Puts prog w A env (ys.map fun n => bindName env n) ys
  | [] => .nil
  | y :: ys => .cons (fun v s Q E h => wpAny_bindName h) (puts_bind ys)
theorem UpdAll.len {ys : List Str} {bs : List B} {ρ ρ' : VEnv} (h : UpdAll sc ys bs ρ ρ') : ys.length = bs.length := by
  induction h with
  | nil => rfl
  | cons _ _ _ ih => simp [ih]
theorem tup_core {A : Around} {env : Env} {M0 L Wc Z : Addr → Prop} {s0 s : Shared} {es : List Expr} {bs : List B} {c : Nat} {pos : Pos} {Q : Value → Shared → Prop} {E : Value → Shared → Prop} (ho : Ok k A) (hv : EnvOk sc env) (t : St G sc env M0 L Wc Z s0 ρ s) (he : EvIts G k sc ρ es bs) (hl : bs.length ≤ lid)
    (hQ : ∀ N s1 T items, (∀ a, N a → s.heap.get? a = none) → Kp G.T s s1 → St G sc env M0 L Wc (fun a => Z a ∨ N a) s0 ρ s1 → s1.heap.IsTuple T items → ItsL prog w s1.heap (MM M0 Wc Z L) N bs items.toList → (∀ (i : Nat) b a, bs[i]? = some b → b.isMu → items.toList[i]? = some (.ref a) → ∀ x c, (x, c) ∈ ρ → c.isMu → ¬ Acc env s1.heap x (.ref a)) → Q (.ref T) s1) :
    wpAny (model prog w) A (eval (.Tuple es c pos) env) Q E s := by
  refine Tuple_ (he.run ho hv t.fm.vr fun vs s1 N k1 hN r1 => ?_)
  refine wpAny_newObj_type ?_ (by show vs.toArray.size ≤ sizeLine; rw [List.size_toArray, r1.len]; exact Nat.le_trans hl lid_le)
  have k2 : Kp G.T s1 { s1 with heap := s1.heap.push { cls := .type "tuple", dict := none, data := .seq vs.toArray } } := Kp.push _ s1.toks
  refine hQ N _ _ vs.toArray (fun a ha => (hN a ha).1) (k1.trans k2) ((t.addZ k1 (fun a ha => (hN a ha).1) fun a ha => (hN a ha).2).keeps k2) ⟨_, Heap.get?_push_size _ rfl, rfl, _, rfl⟩ ?_ ?_
  · exact ⟨by simpa using r1.len, fun i b v h1 h2 => (r1.each i b v h1 (by simpa using h2)).agr k2.agr fun a o _ e => k2.tk a o e, fun i j b c a hij h1 h2 m1 m2 h3 h4 => r1.apart i j b c a hij h1 h2 m1 m2 (by simpa using h3) (by simpa using h4)⟩
  · intro i b a h1 hm h2 x c hx hc
    obtain ⟨a', e, hn⟩ := (r1.each i b _ h1 (by simpa using h2)).refN hm
    cases e
    exact t.noNew (k1.trans k2) (fun a ha => (hN a ha).1) hn x c hx hc
theorem Step.tup {ts es : List Expr} {c c' : Nat} {p p' pos : Pos} {ys : List Str} {bs : List B} (he : EvIts G k sc ρ es bs) (hts : Names ts ys) (hu : UpdAll sc ys bs ρ ρ') (hk : sc.kind = .function) (hw : swappedStores [.Tuple ts c p] (.Tuple es c' p') (envOf sc) = pure none) (hl : bs.length ≤ lid) :
    Step G k sc ρ (.Assign [.Tuple ts c p] (.Tuple es c' p') pos) ρ' := by
  intro A env M0 L Wc Z s0 s Q E ho hv t hQ
  refine Assign_Tuple (tup_core ho hv t he hl fun N s1 T items hN k1 t1 hT hi hno => ?_) rfl ((swapped_of hv hk _ _).trans hw)
  obtain ⟨hp, h1, h2, h3⟩ := hts.puts (prog := prog) (w := w) (A := A) (env := env)
  have hlen := hi.len
  refine wpAny_assign_Tuple ho.hh hT (by rw [h1, h3, hu.len, ← hlen]; simp) h2 fun h' hx => ?_
  have k2 : Kp G.T s1 { s1 with heap := h' } := Kp.mk' fun b o e => hx b o (Nat.ne_of_lt (Heap.lt_size e)) e
  refine St.stores hv hu hp (t1.keeps k2) ⟨hi.len, fun i b v h1 h2 => (hi.each i b v h1 h2).agr k2.agr fun a o _ e => k2.tk a o e, hi.apart⟩ (fun i b a h1 hm h2 x c hx' hc q => ?_) fun s3 k3 t3 => hQ _ s3 t3 ((Ch.addN (k1.trans k2) hN).trans (Ch.ofW t3 k3))
  exact hno i b a h1 hm h2 x c hx' hc (t1.fm.back hx' hc (fun u a => a.keeps k2.nt) q)
theorem Step.tupSw {ts es : List Expr} {c c' : Nat} {p p' pos : Pos} {ys : List Str} {bs : List B} (he : EvIts G k sc ρ es bs) (hu : UpdAll sc ys.reverse bs.reverse ρ ρ') (hk : sc.kind = .function) (hw : swappedStores [.Tuple ts c p] (.Tuple es c' p') (envOf sc) = pure (some ys)) (hl : bs.length ≤ lid) :
    Step G k sc ρ (.Assign [.Tuple ts c p] (.Tuple es c' p') pos) ρ' := by
  intro A env M0 L Wc Z s0 s Q E ho hv t hQ
  refine Assign_Tuple_swapped (tup_core ho hv t he hl fun N s1 T items hN k1 t1 hT hi hno => ?_) rfl ((swapped_of hv hk _ _).trans hw)
  have hlen := hi.len
  have hul := hu.len
  simp only [List.length_reverse] at hul
  have hys : ys.length = items.size := by rw [hul, ← hlen]; simp
  rw [hys]
  refine wpAny_unpackItems_tuple ho.hh hT fun h' hx => ?_
  have k2 : Kp G.T s1 { s1 with heap := h' } := Kp.mk' fun b o e => hx b o (Nat.ne_of_lt (Heap.lt_size e)) e
  have hi2 : ItsL prog w h' (MM M0 Wc Z L) N bs items.toList := ⟨hi.len, fun i b v h1 h2 => (hi.each i b v h1 h2).agr k2.agr fun a o _ e => k2.tk a o e, hi.apart⟩
  refine St.stores hv hu (puts_bind _) (t1.keeps k2) hi2.reverse (fun i b a h1 hm h2 x c hx' hc q => ?_) fun s3 k3 t3 => hQ _ s3 t3 ((Ch.addN (k1.trans k2) hN).trans (Ch.ofW t3 k3))
  have hil : i < bs.length := by have := (List.getElem?_eq_some_iff.mp h1).1; simpa using this
  rw [List.getElem?_reverse hil] at h1
  rw [List.getElem?_reverse (by rw [hlen]; exact hil), hlen] at h2
  exact hno _ b a h1 hm h2 x c hx' hc (t1.fm.back hx' hc (fun u a => a.keeps k2.nt) q)
end
end
end Mine
end
section
open PySem PyProof.Rows
open PySem.Builtin.Str (partsBetween occurrences strKind tooLong)
namespace Mine
section
variable {prog : Program} {w : World} {G : Gl prog w} {k : Nat} {sc csc : Scope} {ρ ρ' ρc : VEnv}
theorem method_any {A : Around} {env : Env} {M : Addr → Prop} {s : Shared} {o : Expr} {T : String} {name : Str} {id : String} {apos pos : Pos} {es : List Expr} {ds : List PyData} {Q : Value → Shared → Prop} {E : Value → Shared → Prop}
    (ho : Ok k A) (hv : EnvOk sc env) (hr : VR G env M ρ s) (hbase : ∀ env, attributeBase o name env (eval o env) = eval o env) (pa : PlainAttrs T) (slot : Slot T name id) (hty : typeOf (.builtin id) = pure (.type "method_descriptor"))
    (he : EvAll G k sc ρ es ds) (hfew : es.length < 20) (hline : (apos.endLine == pos.line) = true)
    (h : wpAny (model prog w) A (eval o env) (fun ov s1 => Kp G.T s s1 ∧ s1.TypeIs ov T ∧ (∀ a, ov = .ref a → ∃ ob, s1.heap.get? a = some ob ∧ ob.dict = none) ∧ ∀ vs s2, Kp G.T s1 s2 → RpL prog w s2.heap M ds vs → wpAny (model prog w) A (call (.builtin id) (ov :: vs)) Q E s2) E s) :
    wpAny (model prog w) A (eval (.Call (.Attribute o name apos) es [] pos) env) Q E s := by
  have hns : ∀ {es : List Expr} {ds : List PyData}, EvAll G k sc ρ es ds → (backTo pos (starEach es env)).all (fun x => !x.1) = true := by
    intro es ds he
    have := noStar_any he pos env
    rw [List.any_eq_false] at this
    rw [List.all_eq_true]
    intro y hy
    simpa using this y hy
  refine wpAny_Call_method_lateS (hbase env) ?_ hline (wpAny_mono h (fun ov s1 h1 => ?_) fun _ _ z => z)
  · rw [hns he]
    show (true && decide (es.length + 0 + 0 < 30)) = true
    simp; lia
  · obtain ⟨k1, hT, hd, hc⟩ := h1
    refine ⟨T, id, pa, slot, hty, hT, hd, ?_⟩
    cases he with
    | nil => exact callWith_method0 (by simpa using hc [] s1 Kp.refl RpL.nil)
    | cons hn h1 hr' =>
      refine callWith_method1 (EvAll.run (.cons hn h1 hr') ho hv (hr.keeps k1) fun vs s2 k2 r2 => ?_) (hn _ _) ?_
      · simpa using hc vs s2 k2 r2
      · exact noStar_any hr' pos env
theorem EvTo.methS {o : Expr} {x : Str} {name : Str} {id : String} {apos pos : Pos} {es : List Expr} {ds : List PyData} {d : PyData} (ho : EvTo G k sc ρ o (.str x)) (hbase : ∀ env, attributeBase o name env (eval o env) = eval o env) (slot : Slot "str" name id) (hty : typeOf (.builtin id) = pure (.type "method_descriptor"))
    (he : EvAll G k sc ρ es ds) (hfew : es.length < 20) (hline : (apos.endLine == pos.line) = true)
    (hc : ∀ (A : Around) (M : Addr → Prop) (s : Shared) (t : Tok) (vs : List Value) (Q : Value → Shared → Prop) (E : Value → Shared → Prop), Ok k A → (∀ a, M a → ∃ o, s.heap.get? a = some o) → RpL prog w s.heap M ds vs →
      (∀ v s', Kp G.T s s' → Rp prog w s'.heap M d v → Q v s') → wpAny (model prog w) A (call (.builtin id) (.str x t :: vs)) Q E s) : EvTo G k sc ρ (.Call (.Attribute o name apos) es [] pos) d := by
  intro A env M s Q E hok hv hr hQ
  refine method_any hok hv hr hbase PySem.F.plainAttrs_str slot hty he hfew hline (ho A env M s _ _ hok hv hr fun v s1 k1 r1 => ?_)
  simp only [Rp] at r1
  obtain ⟨t, rfl⟩ := r1
  refine ⟨k1, typeIs_str _ _ _, (fun _ q => nomatch q), fun vs s2 k2 r2 => ?_⟩
  exact hc A M s2 t vs Q E hok (hr.keeps (k1.trans k2)).dom r2 fun v s3 k3 r3 => hQ v s3 ((k1.trans k2).trans k3) r3
theorem EvTo.startswith {o e : Expr} {x y : Str} {apos pos : Pos} (ho : EvTo G k sc ρ o (.str x)) (hbase : ∀ env, attributeBase o "startswith" env (eval o env) = eval o env) (he : EvTo G k sc ρ e (.str y)) (hn : NotStar e) (hline : (apos.endLine == pos.line) = true) :
    EvTo G k sc ρ (.Call (.Attribute o "startswith" apos) [e] [] pos) (.bool (Txt.startswith x y)) :=
  EvTo.methS ho hbase PySem.F.slot_str_startswith PySem.F.type_str_startswith (.cons hn he .nil) (by simp) hline fun A M s t vs Q E hok hd r hQ => by
    obtain ⟨v, rfl, r1⟩ := r.one
    simp only [Rp] at r1
    obtain ⟨u, rfl⟩ := r1
    exact call_gives PySem.F.slot_str_startswith (typeIs_str _ _ _) PySem.F.entry_str_startswith (PySem.F.args_str_startswith_2 _ _) (gives_str_startswith x y t u) (hQ _ _ Kp.refl (by simp only [Rp]; rfl))
theorem EvTo.endswith {o e : Expr} {x y : Str} {apos pos : Pos} (ho : EvTo G k sc ρ o (.str x)) (hbase : ∀ env, attributeBase o "endswith" env (eval o env) = eval o env) (he : EvTo G k sc ρ e (.str y)) (hn : NotStar e) (hline : (apos.endLine == pos.line) = true) :
    EvTo G k sc ρ (.Call (.Attribute o "endswith" apos) [e] [] pos) (.bool (Txt.endswith x y)) :=
  EvTo.methS ho hbase PySem.F.slot_str_endswith PySem.F.type_str_endswith (.cons hn he .nil) (by simp) hline fun A M s t vs Q E hok hd r hQ => by
    obtain ⟨v, rfl, r1⟩ := r.one
    simp only [Rp] at r1
    obtain ⟨u, rfl⟩ := r1
    exact call_gives PySem.F.slot_str_endswith (typeIs_str _ _ _) PySem.F.entry_str_endswith (PySem.F.args_str_endswith_2 _ _) (gives_str_endswith x y t u) (hQ _ _ Kp.refl (by simp only [Rp]; rfl))
theorem EvTo.lower {o : Expr} {x : Str} {apos pos : Pos} (ho : EvTo G k sc ρ o (.str x)) (hbase : ∀ env, attributeBase o "lower" env (eval o env) = eval o env) (hline : (apos.endLine == pos.line) = true) (hfit : tooLong (Txt.lower x).length = false) :
    EvTo G k sc ρ (.Call (.Attribute o "lower" apos) [] [] pos) (.str (Txt.lower x)) :=
  EvTo.methS ho hbase PySem.F.slot_str_lower PySem.F.type_str_lower .nil (by simp) hline fun A M s t vs Q E hok hd r hQ => by
    simp only [RpL] at r
    subst r
    exact call_gives PySem.F.slot_str_lower (typeIs_str _ _ _) PySem.F.entry_str_lower (PySem.F.args_str_lower_1 _) (gives_str_lower x t hfit) ⟨fit_le hfit, hQ _ _ (Kp.tok _) (by simp only [Rp]; exact ⟨_, rfl⟩)⟩
theorem strs_rp {h : Heap} {M : Addr → Prop} : ∀ {ts : List Str} {vs : List Value}, RpL prog w h M (ts.map .str) vs → ∃ l : List (Str × Tok), vs = strValues l ∧ l.map (·.1) = ts
  | [], vs, r => by simp only [List.map_nil, RpL] at r; subst r; exact ⟨[], rfl, rfl⟩
  | x :: ts, vs, r => by
    simp only [List.map_cons, RpL, Rp] at r
    obtain ⟨v, q, rfl, ⟨t, rfl⟩, r2⟩ := r
    obtain ⟨l, rfl, h2⟩ := strs_rp r2
    exact ⟨(x, t) :: l, rfl, by simp [h2]⟩
theorem strs_rp' {h : Heap} {M : Addr → Prop} : ∀ (l : List (Str × Tok)), RpL prog w h M ((l.map (·.1)).map .str) (strValues l)
  | [] => RpL.nil
  | (x, t) :: l => RpL.cons (by simp [Rp]) (strs_rp' l)
theorem EvTo.join {o e : Expr} {sep : Str} {ts : List Str} {apos pos : Pos} (ho : EvTo G k sc ρ o (.str sep)) (hbase : ∀ env, attributeBase o "join" env (eval o env) = eval o env) (he : EvTo G k sc ρ e (.list (ts.map .str))) (hn : NotStar e) (hline : (apos.endLine == pos.line) = true) (hok' : JoinOk sep ts = true) :
    EvTo G k sc ρ (.Call (.Attribute o "join" apos) [e] [] pos) (.str (Txt.join sep ts)) :=
  EvTo.methS ho hbase PySem.F.slot_str_join PySem.F.type_str_join (.cons hn he .nil) (by simp) hline fun A M s t vs Q E hok hd r hQ => by
    obtain ⟨v, rfl, r1⟩ := r.one
    simp only [Rp] at r1
    obtain ⟨a, items, rfl, _, hp, r1, hb⟩ := r1
    obtain ⟨l, hl, rfl⟩ := strs_rp r1
    have hp' : s.heap.PlainList a (strValues l).toArray := by rw [← hl]; simpa using hp
    have hj : tooLong ((l.map (·.1)).toArray.foldl (· + ·.length + sep.length) 0) = false := by
      unfold JoinOk at hok'; rwa [Bool.not_eq_true'] at hok'
    refine call_meets PySem.F.slot_str_join (typeIs_str _ _ _) PySem.F.entry_str_join (PySem.F.args_str_join_2 _ _) (meets_str_join_list sep t a l hj) ⟨hp'.isList, post_join l ⟨joinOk_length hok', fun t' kk => hQ _ _ (Kp.tok _) (by simp [Rp])⟩⟩
theorem its_push {M : Addr → Prop} {s0 s : Shared} {ds : List PyData} {vs : List Value} {tk : Nat} (k : Kp G.T s0 s) (hr : RpL prog w s.heap M ds vs) (hl : ds.length ≤ lid) {Q : Value → Shared → Prop}
    (hQ : ∀ v s' N, Kp G.T s0 s' → (∀ a, N a → s0.heap.get? a = none ∧ (∃ o, s'.heap.get? a = some o) ∧ v = .ref a) → Its prog w s'.heap M N (.mu ds) v → Q v s') :
    Q (.ref s.heap.objs.size) { s with heap := s.heap.push { cls := .type "list", data := .seq vs.toArray }, toks := tk } := by
  have hn : s.heap.get? s.heap.objs.size = none := fresh_none (Nat.le_refl _)
  have hp : (s.heap.push { cls := .type "list", data := .seq vs.toArray }).get? s.heap.objs.size = some { cls := .type "list", data := .seq vs.toArray } := Heap.get?_push_size _ rfl
  refine hQ _ _ (· = s.heap.objs.size) (k.trans (Kp.push _ tk)) (fun a ha => ?_) ⟨_, vs.toArray, rfl, rfl, ⟨_, hp⟩, ?_, hl⟩
  · subst ha
    refine ⟨?_, ⟨_, hp⟩, rfl⟩
    cases e : s0.heap.get? s.heap.objs.size with
    | none => rfl
    | some o => obtain ⟨_, z⟩ := k.al e; rw [hn] at z; cases z
  · refine RpL.agr Agr.push _ _ (RpL.sub (fun a o e q => q.elim id fun q => ?_) _ _ hr)
    rw [q, hn] at e; cases e
theorem EvIt.split {o e : Expr} {x y : Str} {apos pos : Pos} (ho : EvTo G k sc ρ o (.str x)) (hbase : ∀ env, attributeBase o "split" env (eval o env) = eval o env) (he : EvTo G k sc ρ e (.str y)) (hn : NotStar e) (hline : (apos.endLine == pos.line) = true) (hy : (y.length == 0) = false) (hx : x.length ≤ sizeLine)
    (hn2 : (partsBetween x (occurrences x y 0 x.length (x.length + 1)) y.length).length ≤ sizeLine) (hl : (Txt.split x y).length ≤ lid) :
    EvIt G k sc ρ (.Call (.Attribute o "split" apos) [e] [] pos) (.mu ((Txt.split x y).map .str)) := by
  intro A env M s Q E hok hv hr hQ
  refine method_any hok hv hr hbase PySem.F.plainAttrs_str PySem.F.slot_str_split PySem.F.type_str_split (.cons hn he .nil) (by simp) hline (ho A env M s _ _ hok hv hr fun v s1 k1 r1 => ?_)
  simp only [Rp] at r1
  obtain ⟨t, rfl⟩ := r1
  refine ⟨k1, typeIs_str _ _ _, (fun _ q => nomatch q), fun vs s2 k2 r2 => ?_⟩
  obtain ⟨v, rfl, r⟩ := r2.one
  simp only [Rp] at r
  obtain ⟨u, rfl⟩ := r
  have fin : ∀ (l : List (Str × Tok)) (tk : Nat), l.map (·.1) = Txt.split x y → Q (.ref s2.heap.objs.size) { s2 with heap := s2.heap.push { cls := .type "list", data := .seq (strValues l).toArray }, toks := tk } := fun l tk hlm => by
    refine its_push (ds := (Txt.split x y).map .str) (k1.trans k2) (by rw [← hlm]; exact strs_rp' l) (by simpa using hl) hQ
  cases h1 : (decide (x.length < y.length) || decide (strKind x < strKind y))
  · cases hf : (occurrences x y 0 x.length (x.length + 1)).isEmpty
    · refine call_meets PySem.F.slot_str_split (typeIs_str _ _ _) PySem.F.entry_str_split (PySem.F.args_str_split_2 _ _) (meets_str_split_sep x y t u h1 hy hf hx hn2) ?_
      show Q _ _
      rw [strsFrom_eq]
      exact fin (numbered s2.toks _) _ ((numbered_texts _ _).trans ((if_neg (ne_true_of_eq_false h1)).trans (if_neg (ne_true_of_eq_false hf))).symm)
    · exact call_meets PySem.F.slot_str_split (typeIs_str _ _ _) PySem.F.entry_str_split (PySem.F.args_str_split_2 _ _) (meets_str_split_not_found x y t u h1 hy hf) (fin [(x, t)] s2.toks ((if_neg (ne_true_of_eq_false h1)).trans (if_pos hf)).symm)
  · exact call_meets PySem.F.slot_str_split (typeIs_str _ _ _) PySem.F.entry_str_split (PySem.F.args_str_split_2 _ _) (meets_str_split_cannot_occur x y t u h1) (fin [(x, t)] s2.toks (if_pos h1).symm)
theorem EvTo.catL {l r : Expr} {pos : Pos} {ds es : List PyData} (ha : EvL G k sc ρ l ds) (hb : EvL G k sc ρ r es) (hsz : (ds ++ es).length ≤ lid) : EvTo G k sc ρ (.BinOp l .Add r pos) (.list (ds ++ es)) := by
  intro A env M s Q E ho hv hr hQ
  refine wpAny_BinOp (ha A env M s _ _ ho hv hr fun a items s1 k1 h1 r1 b1 => hb A env M s1 _ _ ho hv (hr.keeps k1) fun b items2 s2 k2 h2 r2 b2 => ?_)
  obtain ⟨n1, e1⟩ := PL.gr h1 (k2.nt _)
  obtain ⟨n2, e2⟩ := h2
  have l1 : items.size = ds.length := by simpa using r1.length
  have l2 : items2.size = es.length := by simpa using r2.length
  rw [List.length_append] at hsz
  refine concat_meets ⟨_, e1, rfl⟩ ⟨_, e2, rfl⟩ noFill_list_add seq_list_add PySem.F.slot_list_add PySem.F.entry_list_add (PySem.F.args_list_add_2 _ _) (list_addW a b items items2 _ _ none none #[] #[] (by rw [l1, l2]; exact Nat.le_trans hsz lid_le)) ⟨e1, e2, ?_⟩
  have kk : Kp G.T s2 { s2 with heap := s2.heap.push { cls := .type "list", data := .seq (items ++ items2) }, toks := s2.toks } := Kp.push _ s2.toks
  refine hQ _ _ ((k1.trans k2).trans kk) ?_
  simp only [Rp]
  refine ⟨_, items ++ items2, rfl, not_M ((hr.keeps (k1.trans k2))).dom (fresh_none (Nat.le_refl _)), ⟨_, Heap.get?_push_size _ rfl⟩, ?_, by rw [List.length_append]; exact hsz⟩
  rw [Array.toList_append]
  exact RpL.append (RpL.agr (k2.trans kk).agr _ _ r1) (RpL.agr kk.agr _ _ r2)
theorem EvTo.ite {c a b : Expr} {pos : Pos} {t : Bool} {d : PyData} (hc : TrTo G k sc ρ c t) (h1 : t = true → EvTo G k sc ρ a d) (h2 : t = false → EvTo G k sc ρ b d) : EvTo G k sc ρ (.IfExp c a b pos) d := by
  intro A env M s Q E ho hv hr hQ
  refine IfExp_ (hc A env M s _ _ ho hv hr fun s1 k1 => ?_)
  cases t with
  | true => simp only [if_true]; exact h1 rfl A env M s1 Q E ho hv (hr.keeps k1) fun v s2 k2 r2 => hQ v s2 (k1.trans k2) r2
  | false => simp only [Bool.false_eq_true, if_false]; exact h2 rfl A env M s1 Q E ho hv (hr.keeps k1) fun v s2 k2 r2 => hQ v s2 (k1.trans k2) r2
theorem EvTo.bitLen {o : Expr} {i : Int} {apos pos : Pos} (ho : EvTo G k sc ρ o (.int i)) (hbase : ∀ env, attributeBase o "bit_length" env (eval o env) = eval o env) (hline : (apos.endLine == pos.line) = true) :
    EvTo G k sc ρ (.Call (.Attribute o "bit_length" apos) [] [] pos) (.int (Builtin.Int.intBits i)) := by
  intro A env M s Q E hok hv hr hQ
  refine method_any hok hv hr hbase PySem.F.plainAttrs_int PySem.F.slot_int_bit_length PySem.F.type_int_bit_length .nil (by simp) hline (ho A env M s _ _ hok hv hr fun v s1 k1 r1 => ?_)
  simp only [Rp] at r1
  obtain ⟨t, rfl⟩ := r1
  refine ⟨k1, rfl, (fun _ q => nomatch q), fun vs s2 k2 r2 => ?_⟩
  simp only [RpL] at r2
  subst r2
  exact call_int_bit_length (hQ _ _ ((k1.trans k2).trans (Kp.tok _)) (by simp [Rp]))
theorem CmpOk.inStrs {x : Str} {ts : List Str} : CmpOk G k .In (.str x) (.list (ts.map .str)) (ts.contains x) := by
  intro A M s u v Q E ho r1 r2 hQ
  simp only [Rp] at r1 r2
  obtain ⟨t, rfl⟩ := r1
  obtain ⟨a, items, rfl, _, hp, r, _⟩ := r2
  obtain ⟨l, hl, rfl⟩ := strs_rp r
  refine SeqAt.in_listAt (fun y => match y with | .str z _ => z == x | _ => false) hp.isList (fun y hy => ?_) ?_
  · have hy' : y ∈ strValues l := by rw [← hl]; simpa using hy
    obtain ⟨p, _, rfl⟩ := List.mem_map.mp (show y ∈ l.map fun p => Value.str p.1 p.2 from hy')
    exact SeqAt.EqAt.str_str _ _ _ _
  · have e : items.any (fun y => match y with | .str z _ => z == x | _ => false) = (l.map (·.1)).contains x := by
      rw [← Array.any_toList, hl]
      show (l.map fun p => Value.str p.1 p.2).any _ = _
      rw [List.any_map, List.contains_eq_any_beq, List.any_map]
      congr 1
      funext p
      show (p.1 == x) = (x == p.1)
      exact Bool.beq_comm
    rw [e]; exact hQ _ Kp.refl
theorem CmpOk.ninBools {x : Bool} {ts : List Bool} : CmpOk G k .NotIn (.bool x) (.list (ts.map .bool)) (!ts.contains x) := by
  intro A M s u v Q E ho r1 r2 hQ
  simp only [Rp] at r1 r2
  subst r1
  obtain ⟨a, items, rfl, _, hp, r, _⟩ := r2
  have hbs : ∀ {ts : List Bool} {vs : List Value}, RpL prog w s.heap M (ts.map .bool) vs → vs = ts.map .bool := by
    intro ts
    induction ts with
    | nil => intro vs r; simp only [List.map_nil, RpL] at r; exact r
    | cons b ts ih => intro vs r; simp only [List.map_cons, RpL, Rp] at r; obtain ⟨v, q, rfl, rfl, r2⟩ := r; rw [ih r2]; rfl
  have hl := hbs r
  refine SeqAt.notIn_listAt (fun y => match y with | .bool z => z == x | _ => false) hp.isList (fun y hy => ?_) ?_
  · have hy' : y ∈ ts.map Value.bool := by rw [← hl]; simpa using hy
    obtain ⟨p, _, rfl⟩ := List.mem_map.mp hy'
    exact SeqAt.EqAt.bool_bool _ _
  · have e : items.any (fun y => match y with | .bool z => z == x | _ => false) = ts.contains x := by
      rw [← Array.any_toList, hl, List.any_map, List.contains_eq_any_beq]
      congr 1
      funext p
      show (p == x) = (x == p)
      exact Bool.beq_comm
    rw [e]; exact hQ _ Kp.refl
theorem CmpOk.isnNone {d : PyData} (h : (∃ x, d = .str x) ∨ d = .none) : CmpOk G k .IsNot d .none (match d with | .none => false | _ => true) := by
  intro A M s u v Q E ho r1 r2 hQ
  simp only [Rp] at r2
  subst r2
  rcases h with ⟨x, rfl⟩ | rfl
  · simp only [Rp] at r1; obtain ⟨t, rfl⟩ := r1; exact isnot_str_none (hQ _ Kp.refl)
  · simp only [Rp] at r1; subst r1; exact isnot_none_none (hQ _ Kp.refl)
end
end Mine
end
section
open PySem PyProof.Rows
open PySem.Builtin.Str (partsBetween occurrences strKind tooLong)
namespace Mine
section
variable {prog : Program} {w : World} {G : Gl prog w} {k : Nat} {sc csc : Scope} {ρ ρ' ρc : VEnv}
noncomputable def findIn (x y : Str) (i j : Int) : Int := match occurrences x y (fromIndex x.length i) (min (fromIndex x.length j) x.length) 1 with | k :: _ => (k : Int) | [] => -1
theorem gives_find4 (x y : Str) (i j : Int) (t u v v' : Tok) : Gives (Builtin.«str.find» ⟨[.str x t, .str y u, .int i v, .int j v'], []⟩) (.int (findIn x y i j)) := by
  unfold findIn
  show Gives (match occurrences x y (fromIndex x.length i) (min (fromIndex x.length j) x.length) 1 with | k :: _ => PySem.retInt k | [] => (do rule "str.find.not-found"; PySem.retInt (-1))) _
  cases occurrences x y (fromIndex x.length i) (min (fromIndex x.length j) x.length) 1 with
  | nil => exact .rule (.of_eq rfl)
  | cons k _ => exact .of_eq rfl
theorem EvTo.find {o e1 e2 e3 : Expr} {x y : Str} {i j : Int} {apos pos : Pos} (ho : EvTo G k sc ρ o (.str x)) (hbase : ∀ env, attributeBase o "find" env (eval o env) = eval o env) (h1 : EvTo G k sc ρ e1 (.str y)) (h2 : EvTo G k sc ρ e2 (.int i)) (h3 : EvTo G k sc ρ e3 (.int j))
    (n1 : NotStar e1) (n2 : NotStar e2) (n3 : NotStar e3) (hline : (apos.endLine == pos.line) = true) :
    EvTo G k sc ρ (.Call (.Attribute o "find" apos) [e1, e2, e3] [] pos) (.int (findIn x y i j)) :=
  EvTo.methS ho hbase PySem.F.slot_str_find PySem.F.type_str_find (.cons n1 h1 (.cons n2 h2 (.cons n3 h3 .nil))) (by simp) hline fun A M s t vs Q E hok hd r hQ => by
    obtain ⟨a, b, c, rfl, r1, r2, r3⟩ := r.three
    simp only [Rp] at r1 r2 r3
    obtain ⟨u, rfl⟩ := r1
    obtain ⟨v, rfl⟩ := r2
    obtain ⟨v', rfl⟩ := r3
    exact call_gives PySem.F.slot_str_find (typeIs_str _ _ _) PySem.F.entry_str_find (PySem.F.args_str_find_4 _ _ _ _) (gives_find4 x y i j t u v v') (hQ _ _ (Kp.tok _) (by simp only [Rp]; exact ⟨_, rfl⟩))
theorem preSum_list (ns : List Int) : ∀ j, preSum (fun i => ns.getD i 0) j = (ns.take j).sum
  | 0 => by simp [preSum]
  | j + 1 => by
    rw [preSum, preSum_list ns j, List.take_add_one, List.sum_append]
    cases h : ns[j]? with
    | none => simp [List.getD, h]
    | some x => simp [List.getD, h]
theorem ints_rp {h : Heap} {M : Addr → Prop} {ns : List Int} {vs : List Value} (r : RpL prog w h M (ns.map .int) vs) {i : Nat} {v : Value} (hv : vs[i]? = some v) : ∃ t, v = .int (ns.getD i 0) t := by
  have hl := r.length
  have hi : i < ns.length := by have := (List.getElem?_eq_some_iff.mp hv).1; simpa [hl] using this
  have := r.of_get (i := i) (d := .int ns[i]) (by simp [hi]) hv
  simp only [Rp] at this
  obtain ⟨t, rfl⟩ := this
  exact ⟨t, by simp [List.getD, hi]⟩
theorem EvTo.sum {x : Str} {p pos : Pos} {e : Expr} {ns : List Int} (hx : sc.names.lookup x = some .globalImplicit) (hm : G.mg x = none) (hb : G.mb x = some (.builtin "sum")) (he : EvTo G k sc ρ e (.list (ns.map .int))) (hn : NotStar e) :
    EvTo G k sc ρ (.Call (.Name x p) [e] [] pos) (.int ns.sum) :=
  EvTo.blt hx hm hb (.cons hn he .nil) fun A M s vs Q E ho hd r _ hQ => by
    obtain ⟨v, rfl, r1⟩ := r.one
    simp only [Rp] at r1
    obtain ⟨a, items, rfl, hM, hl, rr, hbd⟩ := r1
    have hal : a < s.heap.objs.size := by obtain ⟨_, e⟩ := hl; exact Heap.lt_size e
    refine call_sum_walkG (wpAny_pyIter_list hl.isList ?_)
    have hp : Kp G.T s { s with heap := s.heap.push { cls := .type "list_iterator", data := .fields #[.ref a, .int 0 0] } } := Kp.push _ s.toks
    refine ⟨s.heap.objs.size, _, _, items.size, _, _, fun i => ns.getD i 0, rfl, Walks.list ho.in1 s.heap.objs.size a (Nat.ne_of_lt hal) items, ⟨⟨_, Heap.get?_push_size _ rfl, rfl, rfl⟩, (hl.at fun o e => Heap.get?_push_of_some _ e).isList⟩, ?_, ?_, ?_⟩
    · intro b hb
      simp only [Heap.size_push]
      rcases List.mem_cons.mp hb with h | h
      · subst h; exact Nat.lt_succ_self _
      · rw [List.mem_singleton.mp h]; exact Nat.lt_succ_of_lt hal
    · intro i v hv
      exact ints_rp rr (by simpa using hv)
    · intro h' tk t' hk
      have hlen : items.size = ns.length := by simpa using rr.length
      have e : preSum (fun i => ns.getD i 0) items.size = ns.sum := by rw [preSum_list, hlen, List.take_length]
      rw [e]
      refine hQ _ _ (Kp.mk' fun b o e => hk b o (fun q => ?_) (Heap.get?_push_of_some _ e)) (by simp only [Rp]; exact ⟨_, rfl⟩)
      rw [List.mem_singleton.mp q] at e
      exact absurd (Heap.lt_size e) (Nat.lt_irrefl _)
theorem EvTo.listRange {x y : Str} {p p' pos pos' : Pos} {e1 e2 : Expr} {a b : Int} (hx : sc.names.lookup x = some .globalImplicit) (hm : G.mg x = none) (hb : G.mb x = some (.type "list")) (hx' : sc.names.lookup y = some .globalImplicit) (hm' : G.mg y = none) (hb' : G.mb y = some (.type "range"))
    (h1 : EvTo G k sc ρ e1 (.int a)) (h2 : EvTo G k sc ρ e2 (.int b)) (n1 : NotStar e1) (n2 : NotStar e2) (hs : Builtin.Range.small a b 1 = true) (hl : (rangeL a b 1).length ≤ lid) :
    EvTo G k sc ρ (.Call (.Name x p) [.Call (.Name y p') [e1, e2] [] pos'] [] pos) (.list ((rangeL a b 1).map .int)) := by
  intro A env M s Q E ho hv hr hQ
  have hgx := hv.kindG x hx
  refine Call_Name rfl (Calls.Name_function_global hv.kind hgx (Calls.loadGlobal_builtin (hv.glob ▸ Nsp.gr G.g (hr.bnt _)) hm (hv.blt ▸ Nsp.gr G.b (hr.bnt _)) hb ?_) (hv.dbg (by rw [hgx]; simp)))
  refine PySem.callWith_type rfl (Calls.evalArgs_plain (Calls.spliced_cons (call_type ho hv hr hx' hm' hb' (.cons n1 h1 (.cons n2 h2 .nil)) fun vs s1 k1 r1 => ?_)))
  obtain ⟨u, v, rfl, r, r'⟩ := r1.two
  simp only [Rp] at r r'
  obtain ⟨t, rfl⟩ := r
  obtain ⟨t', rfl⟩ := r'
  refine call_range_2 (Calls.spliced_nil ?_)
  have hsz0 : 0 ≤ Builtin.Range.rangeSize a b 1 := by
    rw [PySem.rangeSize_one]; split <;> lia
  have hlen : (rangeL a b 1).length = (Builtin.Range.rangeSize a b 1).toNat := by simp [rangeL]
  refine call_list_range ho.hh (IsRange.new ..) hs (n := (Builtin.Range.rangeSize a b 1).toNat) (Int.toNat_of_nonneg hsz0).symm (by rw [← hlen]; exact Nat.le_trans hl (by decide)) fun h' tk acc' c' hk hget hit => ?_
  have k2 := k1.trans (Kp.push (s := s1) { cls := .type "range", data := .fields #[.int a t, .int b t', .int 1 s1.toks] } (s1.toks + 1))
  refine hQ _ _ (k2.trans (Kp.mk' (t := tk) hk)) ?_
  simp only [Rp]
  refine ⟨_, acc', rfl, not_M (hr.keeps k2).dom (fresh_none (Nat.le_refl _)), ⟨_, hget⟩, RpL.iff (by simp [hit.1, hlen]) fun i d v hd hvv => ?_, by simpa using hl⟩
  obtain ⟨tt, e⟩ := hit.2 i v (by simpa using hvv)
  subst e
  rw [List.getElem?_map] at hd
  unfold rangeL at hd
  rw [List.getElem?_map] at hd
  cases hi : (List.range (Builtin.Range.rangeSize a b 1).toNat)[i]? with
  | none => rw [hi] at hd; simp at hd
  | some j =>
    rw [hi] at hd
    have hj : j = i := by obtain ⟨h1, h2⟩ := List.getElem?_eq_some_iff.mp hi; simpa using h2.symm
    subst hj
    simp at hd; subst hd
    simp [Rp]
noncomputable def getF {α : Type} (F : List (Str × α)) (x : Str) : Option α := (F.find? fun kv => kv.1 = x).map (·.2)
noncomputable def EvD (G : Gl prog w) (k : Nat) (sc : Scope) (ρ : VEnv) (e : Expr) (F : List (Str × PyData)) : Prop :=
  ∀ (A : Around) (env : Env) (M : Addr → Prop) (s : Shared) (Q : Value → Shared → Prop) (E : Value → Shared → Prop), Ok k A → EnvOk sc env → VR G env M ρ s →
    (∀ a kvs s', Kp G.T s s' → (a == sysModules) = false → s'.heap.DictOf (PySem.strKind prog w) a kvs → RpD prog w s'.heap M (dk F) kvs → F.length ≤ lid → Q (.ref a) s') → wpAny (model prog w) A (eval e env) Q E s
theorem EvD.of {e : Expr} {F : List (Str × PyData)} (h : EvTo G k sc ρ e (.dict (dk F))) : EvD G k sc ρ e F := by
  intro A env M s Q E ho hv hr hQ
  refine h A env M s Q E ho hv hr fun v s1 k1 r1 => ?_
  simp only [Rp] at r1
  obtain ⟨a, kvs, rfl, _, h1, h2, h3, h4⟩ := r1
  exact hQ a kvs s1 k1 h1 h2 h3 (by simpa [dk_length] using h4)
theorem RpD.val {h : Heap} {M : Addr → Prop} {x : Str} : ∀ {F : List (Str × PyData)} {kvs : List (Str × Value)}, RpD prog w h M (dk F) kvs → match getF F x with | none => valueAt kvs x = none | some d => ∃ v, valueAt kvs x = some v ∧ Rp prog w h M d v
  | [], _, r => by simp only [dk, List.map_nil, RpD] at r; subst r; simp [getF, valueAt]
  | (y, d) :: F, _, r => by
    simp only [dk, List.map_cons, RpD] at r
    obtain ⟨z, v, q, rfl, h0, h1, h2⟩ := r
    cases h0
    have ih := RpD.val (x := x) (F := F) h2
    by_cases hy : y = x
    · simp [getF, valueAt, hy]; exact h1
    · simpa [getF, valueAt, hy] using ih
theorem EvTo.key {e i : Expr} {pos : Pos} {F : List (Str × PyData)} {x : Str} {d : PyData} (he : EvD G k sc ρ e F) (hi : EvTo G k sc ρ i (.str x)) (hd : getF F x = some d)
    (hs : ∀ o i', subscripted i false o i' = operate [o, i'] (getItem o i')) (hg : ∀ o r, letTemporaryGo e o r = pure ()) : EvTo G k sc ρ (.Subscript e i pos) d := by
  intro A env M s Q E ho hv hr hQ
  refine Subscript_ (he A env M s _ _ ho hv hr fun a kvs s1 k1 h1 h2 r1 hb => hi A env M s1 _ _ ho hv (hr.keeps k1) fun v s2 k2 r2 => ?_)
  simp only [Rp] at r2
  obtain ⟨t, rfl⟩ := r2
  have h2' := Dic.gr h2 (k2.nt _)
  have hval := RpD.val (x := x) (RpD.agr k2.agr _ _ r1)
  rw [hd] at hval
  obtain ⟨v, hv1, hv2⟩ := hval
  refine subscriptTail_builtin h2'.typeIs slot_dict_getitem.lookup (wpAny_getItem_of (k := x) (by simp [PySem.strKind, Value.isStrOf]) h2'.mapOf hv1 ?_) (hs _ _) (hg _)
  exact hQ v _ ((k1.trans k2).trans (Kp.tok _)) hv2
end
end Mine
end
section
open PySem PyProof.Rows
namespace Mine
section
noncomputable def fnOk (sc : Scope) (ps : List Str) : Bool :=
  sc.kind == .function && !sc.isGenerator && !sc.isCoroutine && decide (sc.names.map (·.1)).Nodup && decide ps.Nodup && sc.names.all (fun y => y.1 != ("__debug__" : Str) && y.1 != ("__classdict__" : Str) && y.2 != .free) &&
    ps.all fun p => sc.names.lookup p == some .local || sc.names.lookup p == some .cell
theorem bindL_get (kindOf : Str → Option NameKind) : ∀ (binds : List (Str × Value)) (m : Str → Option Value) (p : Str), (binds.map (·.1)).Nodup → kindOf p = some .local →
    (p ∉ binds.map (·.1) → bindL kindOf binds m p = m p) ∧ ∀ v, (p, v) ∈ binds → bindL kindOf binds m p = some v
  | [], m, p, _, _ => ⟨fun _ => rfl, fun v h => by cases h⟩
  | (n, u) :: r, m, p, hn, hk => by
    simp only [List.map_cons, List.nodup_cons] at hn
    have ih := bindL_get kindOf r (if kindOf n = some .local then fun y => if y = n then some u else m y else m) p hn.2 hk
    refine ⟨fun hp => ?_, fun v hv => ?_⟩
    · simp only [List.map_cons, List.mem_cons, not_or] at hp
      unfold bindL
      rw [ih.1 hp.2]
      split
      · show (if p = n then _ else _) = _; rw [if_neg hp.1]
      · rfl
    · unfold bindL
      rcases List.mem_cons.mp hv with e | e
      · cases e
        rw [ih.1 hn.1, if_pos hk]; simp
      · exact ih.2 v e
theorem bindC_get (kindOf : Str → Option NameKind) : ∀ (binds : List (Str × Value)) (m : Str → Option Value) (p : Str), (binds.map (·.1)).Nodup → kindOf p ≠ some .local →
    (p ∉ binds.map (·.1) → bindC kindOf binds m p = m p) ∧ ∀ v, (p, v) ∈ binds → bindC kindOf binds m p = some v
  | [], m, p, _, _ => ⟨fun _ => rfl, fun v h => by cases h⟩
  | (n, u) :: r, m, p, hn, hk => by
    simp only [List.map_cons, List.nodup_cons] at hn
    have ih := bindC_get kindOf r (if kindOf n = some .local then m else fun y => if y = n then some u else m y) p hn.2 hk
    refine ⟨fun hp => ?_, fun v hv => ?_⟩
    · simp only [List.map_cons, List.mem_cons, not_or] at hp
      unfold bindC
      rw [ih.1 hp.2]
      split
      · rfl
      · show (if p = n then _ else _) = _; rw [if_neg hp.1]
    · unfold bindC
      rcases List.mem_cons.mp hv with e | e
      · cases e
        rw [ih.1 hn.1, if_neg hk]; simp
      · exact ih.2 v e
section
variable {prog : Program} {w : World} {G : Gl prog w} {k : Nat} {sc csc : Scope} {ρ ρ' ρc : VEnv}
theorem CodeO.rec {h : Heap} {c : Addr} {q : Str} (x : CodeO h c q) : h.CodeRec (.ref c) q := by
  obtain ⟨o, vs, t, ho, _, hd, hv⟩ := x
  exact ⟨c, o, vs, t, rfl, ho, hd, hv⟩
noncomputable def DefAt (G : Gl prog w) (name : Str) (params : Arguments) (body : List Stmt) (scope : Scope) : Prop :=
  ∃ a c' o pm doc, G.mg name = some (.ref a) ∧ G.hB.get? a = some o ∧ o.data = .func (Calls.docDef name params body scope pm (.ref c') doc) ∧ CodeO G.hB c' name
structure ScopeOk (sc : Scope) (ps : List Str) : Prop where
  kind : sc.kind = .function
  gen : sc.isGenerator = false
  cor : sc.isCoroutine = false
  nd : (sc.names.map (·.1)).Nodup
  pnd : ps.Nodup
  dbg : sc.names.lookup ("__debug__" : Str) = none
  cd : sc.names.lookup ("__classdict__" : Str) = none
  free : ∀ x, (x, NameKind.free) ∉ sc.names
  pars : ∀ p, p ∈ ps → OwnName sc p
theorem fnOk.of {ps : List Str} (h : fnOk sc ps = true) : ScopeOk sc ps := by
  simp only [fnOk, Bool.and_eq_true, decide_eq_true_eq, List.all_eq_true, bne_iff_ne, Bool.or_eq_true, beq_iff_eq, Bool.not_eq_true'] at h
  obtain ⟨⟨⟨⟨⟨⟨h1, h2⟩, h3⟩, h4⟩, h5⟩, h6⟩, h7⟩ := h
  exact ⟨h1, h2, h3, h4, h5, lookup_none fun c hc => (h6 _ hc).1.1 rfl, lookup_none fun c hc => (h6 _ hc).1.2 rfl, fun x hx => (h6 _ hx).2 rfl, h7⟩
theorem mem_nodup {α : Type} {l : List (Str × α)} (hn : (l.map (·.1)).Nodup) {x : Str} {a b : α} (ha : (x, a) ∈ l) (hb : (x, b) ∈ l) : a = b := by
  induction l with
  | nil => cases ha
  | cons y r ih =>
    simp only [List.map_cons, List.nodup_cons] at hn
    rcases List.mem_cons.mp ha with e | ha <;> rcases List.mem_cons.mp hb with e' | hb
    · rw [← e'] at e; exact (Prod.mk.inj e).2
    · exact absurd (List.mem_map.mpr ⟨_, hb, by rw [← e]⟩) hn.1
    · exact absurd (List.mem_map.mpr ⟨_, ha, by rw [← e']⟩) hn.1
    · exact ih hn.2 ha hb
theorem zip_fst {α β : Type} : ∀ {ps : List α} {vs : List β}, vs.length = ps.length → (ps.zip vs).map (·.1) = ps
  | [], [], _ => rfl
  | p :: ps, v :: vs, h => by simp [zip_fst (ps := ps) (vs := vs) (by simpa using h)]
noncomputable def ExAt (G : Gl prog w) (k : Nat) (sc : Scope) (ρ : VEnv) (env : Env) (ss : List Stmt) (P : Out → Prop) : Prop :=
  ∀ (A : Around) (M0 L Wc Z : Addr → Prop) (s0 s : Shared) (Q : Flow → Shared → Prop) (E : Value → Shared → Prop), Ok k A → EnvOk sc env → St G sc env M0 L Wc Z s0 ρ s →
    (∀ ρ' Z' s', P (.next ρ') → St G sc env M0 L Wc Z' s0 ρ' s' → Ch G.T Wc Z Z' s s' → Q .next s') →
    (∀ d v s', P (.ret d) → Kp G.T s0 s' → Rp prog w s'.heap M0 d v → Q (.ret v) s') → wpAny (model prog w) A (execs ss env) Q E s
noncomputable def CodeOf (G : Gl prog w) (name : Str) (params : Arguments) (body : List Stmt) (scope : Scope) (c' : Addr) : Prop :=
  ∃ a o pm doc, G.mg name = some (.ref a) ∧ G.hB.get? a = some o ∧ o.data = .func (Calls.docDef name params body scope pm (.ref c') doc)
theorem call_body {name : Str} {params : Arguments} {body : List Stmt} {ps : List Str} (hD : DefAt G name params body sc) (hs : fnOk sc ps = true)
    (hbind : ∀ (pm c doc : Value) (vs : List Value), vs.length = ps.length → bindArgs (Calls.docDef name params body sc pm c doc) ⟨vs, []⟩ = pure (ps.zip vs)) :
    ∃ a, G.mg name = some (.ref a) ∧ (∃ o fd, G.hB.get? a = some o ∧ o.data = .func fd) ∧
      ∀ (A : Around) (M : Addr → Prop) (s : Shared) (vs : List Value) (ds : List PyData) (Q : Value → Shared → Prop) (E : Value → Shared → Prop), Ok (k + 1) A →
        (∀ b o, G.hB.get? b = some o → Gr G.T s.heap b o) → (∀ a, M a → ∃ o, s.heap.get? a = some o) → RpL prog w s.heap M ds vs → ds.length = ps.length →
        (∀ (cenv : Env) (s1 : Shared) (c' : Addr) (Wc : Addr → Prop) (Q' : Flow → Shared → Prop) (E' : Value → Shared → Prop), CodeOf G name params body sc c' → cenv.code = .ref c' → cenv.qual = name ++ ".<locals>." → cenv.frame = some cenv.locals → cenv.scope = sc →
          EnvOk sc cenv → Ok k (A.deeper cenv) → s.heap.get? cenv.locals = none → Kp G.T s s1 → (∀ b, Wc b → s.heap.get? b = none) → St G sc cenv M (fun _ => False) Wc (fun _ => False) s (ps.zip (ds.map B.own)) s1 →
          (∀ f s', Q (match f with | .ret v => v | _ => .none) s' → Q' f s') → (∀ e s', wpAny (model prog w) (A.deeper cenv) (leaving cenv e) (fun _ s'' => E e s'') E s' → E' e s') →
          wpAny (model prog w) (A.deeper cenv) (execs body cenv) Q' E' s1) →
        wpAny (model prog w) A (call (.ref a) vs) Q E s := by
  obtain ⟨a, c', o, pm, doc, hm, hg, hdat, hcr⟩ := hD
  have hCO : CodeOf G name params body sc c' := ⟨a, o, pm, doc, hm, hg, hdat⟩
  have hs := fnOk.of hs
  refine ⟨a, hm, ⟨o, _, hg, hdat⟩, fun A M s vs ds Q E ho hbase hdom hr hlen hex => ?_⟩
  have hvl : vs.length = ps.length := by rw [hr.length]; exact hlen
  have hbn : ((ps.zip vs).map (·.1)).Nodup := by rw [zip_fst hvl]; exact hs.pnd
  generalize hfd : Calls.docDef name params body sc pm (.ref c') doc = fd at hdat
  have hfs : fd.scope = sc := by rw [← hfd]; rfl
  have hlim : s.heap.NoLimit := by
    obtain ⟨mm, p, q⟩ := G.lim
    exact ⟨mm, Nsp.gr p (fun o n e => (hbase _ o e).nt n), q⟩
  have cellLook : ∀ p, sc.names.lookup p = some .cell → ∃ c, (p, c) ∈ cellsFrom (s.heap.objs.size + 1) sc.names [] ∧ (cellsFrom (s.heap.objs.size + 1) sc.names []).lookup p = some c := fun p hp => by
    obtain ⟨c, hc⟩ := cellsFrom_has sc.names (s.heap.objs.size + 1) p (mem_of_lookup hp)
    refine ⟨c, hc, lookup_of_mem hc fun c2 hc2 => ?_⟩
    have huniq : ∀ (l : List (Str × NameKind)) (n : Nat), (l.map (·.1)).Nodup → ∀ c c', (p, c) ∈ cellsFrom n l [] → (p, c') ∈ cellsFrom n l [] → c' = c := by
      intro l
      induction l with
      | nil => intro n _ c c' h; cases h
      | cons y r ih =>
        intro n hn c c' h h'
        obtain ⟨y1, y2⟩ := y
        simp only [List.map_cons, List.nodup_cons] at hn
        unfold cellsFrom at h h'
        split at h
        · rename_i hk
          rw [if_pos hk] at h'
          rw [cellsFrom_acc, List.mem_append] at h h'
          have hno : ∀ c, (y1, c) ∉ cellsFrom (n + 1) r [] := fun c hc => hn.1 (List.mem_map.mpr ⟨_, cellsFrom_names r _ _ _ hc, rfl⟩)
          rcases h with h | h <;> rcases h' with h' | h'
          · exact ih _ hn.2 c c' h h'
          · cases List.mem_singleton.mp h'; exact absurd h (hno c)
          · cases List.mem_singleton.mp h; exact absurd h' (hno c')
          · cases List.mem_singleton.mp h; cases List.mem_singleton.mp h'; rfl
        · rename_i hk
          rw [if_neg hk] at h'
          exact ih _ hn.2 c c' h h'
    exact huniq sc.names _ hs.nd c c2 hc hc2
  have hkinds : ∀ x, x ∈ ps.zip vs → sc.names.lookup x.1 = some .local ∨ (sc.names.lookup x.1 = some .cell ∧ ((cellsFrom (s.heap.objs.size + 1) sc.names []).lookup x.1).isSome = true) := fun x hx => by
    have hxp : x.1 ∈ ps := by rw [← zip_fst hvl]; exact List.mem_map.mpr ⟨x, hx, rfl⟩
    rcases hs.pars x.1 hxp with h | h
    · exact .inl h
    · obtain ⟨c, _, hc⟩ := cellLook x.1 h
      exact .inr ⟨h, by rw [hc]; rfl⟩
  have hroom : A.depth < recursionLimit := by
    have := ho.depth
    have e : recursionLimit = 1000 := rfl
    lia
  refine wpAny_call (codeAny_call_cells (fd := fd) (body := body) (binds := ps.zip vs) hroom ((hbase _ _ hg).nt (.func hdat)) hdat hlim (by rw [← hfd]; exact (hcr.gr (fun o _ e => hbase _ o e)).rec) (by rw [← hfd]; rfl) (by rw [← hfd]; exact hbind pm (.ref c') doc vs hvl) (by rw [← hfd]; rfl) (by rw [hfs]; exact hkinds) (fun s1 x => ?_)
    (by rw [hfs]; exact hs.cor) (by rw [hfs]; exact hs.gen) (by rw [hfs]; exact hs.kind))
  generalize hce : callEnvC fd s.heap.objs.size a = cenv at x
  have hsc : cenv.scope = sc := by rw [← hce, ← hfd]; rfl
  have hloc : cenv.locals = s.heap.objs.size := by rw [← hce]; rfl
  have hcel : cenv.cells = cellsFrom (s.heap.objs.size + 1) sc.names [] := by rw [← hce, ← hfd]; rfl
  have hko : ∀ y, cenv.kindOf y = sc.names.lookup y := fun y => by show cenv.scope.names.lookup y = _; rw [hsc]
  have hvc : EnvOk sc cenv := ⟨by rw [hsc]; exact hs.kind, by rw [← hce, ← hfd]; rfl, by rw [← hce, ← hfd]; rfl, fun y hy => by rw [hko, hy], fun y hy => by
      rcases hy with hy | hy
      · rw [hko, hy]; exact .inl rfl
      · exact absurd (mem_of_lookup hy) (hs.free y), fun y => by rw [hko], by rw [hko]; exact hs.dbg, fun y hy => by
      rcases hy with hy | hy
      · obtain ⟨c, _, hc⟩ := cellLook y hy; exact ⟨c, by rw [hcel]; exact hc⟩
      · exact absurd (mem_of_lookup hy) (hs.free y), by rw [hko]; exact hs.cd⟩
  let Wc : Addr → Prop := fun b => b = cenv.locals ∨ ∃ n, (n, b) ∈ cenv.cells
  have kp : Kp G.T s s1 := ⟨x.toInCall.same, fun b o e => .inl (x.toInCall.keep b o e)⟩
  have freshL : ∀ b, s.heap.objs.size ≤ b → s.heap.get? b = none := fun b hb => fresh_none hb
  have wNone : ∀ b, Wc b → s.heap.get? b = none := fun b hb => by
    rcases hb with rfl | ⟨n, hn⟩
    · exact freshL _ (by rw [hloc]; exact Nat.le_refl _)
    · exact freshL _ (Nat.le_of_lt (by have := x.above n b hn; rw [hloc] at this; exact this))
  have hcn : ∀ n c, (n, c) ∈ cenv.cells → cenv.cells.lookup n = some c := fun n c hn => by
    rw [hcel] at hn ⊢
    have hnm := cellsFrom_names sc.names _ n c hn
    have hl : sc.names.lookup n = some .cell := lookup_of_mem hnm fun c' hc' => mem_nodup hs.nd hc' hnm
    obtain ⟨c2, hc2, hc3⟩ := cellLook n hl
    rw [hc3]
    have : ∀ (c c2 : Addr), (n, c) ∈ cellsFrom (s.heap.objs.size + 1) sc.names [] → (cellsFrom (s.heap.objs.size + 1) sc.names []).lookup n = some c2 → c2 = c := fun c c2 hc hl2 => by
      have h0 := lookup_of_mem hc (fun c' hc' => by
        obtain ⟨c4, h4, h5⟩ := cellLook n hl
        have : ∀ c', (n, c') ∈ cellsFrom (s.heap.objs.size + 1) sc.names [] → c' = c4 := fun c' hc' => by
          have hu := fun (l : List (Str × NameKind)) => l
          exact by
            have hnd2 : ∀ (l : List (Str × NameKind)) (k : Nat), (l.map (·.1)).Nodup → ((cellsFrom k l []).map (·.1)).Nodup := by
              intro l
              induction l with
              | nil => intro k _; exact List.nodup_nil
              | cons y r ih =>
                intro k hn
                obtain ⟨y1, y2⟩ := y
                simp only [List.map_cons, List.nodup_cons] at hn
                unfold cellsFrom
                split
                · rw [cellsFrom_acc, List.map_append, List.nodup_append]
                  refine ⟨ih _ hn.2, by simp, fun z hz z' hz' => ?_⟩
                  simp at hz'
                  subst hz'
                  intro e
                  subst e
                  obtain ⟨p, hp, rfl⟩ := List.mem_map.mp hz
                  exact hn.1 (List.mem_map.mpr ⟨_, cellsFrom_names r _ _ _ hp, rfl⟩)
                · exact ih _ hn.2
            exact mem_nodup (hnd2 sc.names _ hs.nd) hc' h4
        rw [this c' hc', this c hc])
      rw [h0] at hl2; exact (Option.some.inj hl2).symm
    rw [this c c2 hn hc3]
  have hcell : ∀ n c, (n, c) ∈ cenv.cells → s1.heap.IsCell c (bindC cenv.kindOf (ps.zip vs) (fun _ => none) n) := fun n c hn => x.cell n c (hcn n c hn)
  have wDom : ∀ b, Wc b → ∃ o, s1.heap.get? b = some o := fun b hb => by
    rcases hb with rfl | ⟨n, hn⟩
    · obtain ⟨o, _, _, e, _⟩ := x.toInCall.ns; exact ⟨o, e⟩
    · obtain ⟨o, e, _⟩ := hcell n b hn; exact ⟨o, e⟩
  have hst : St G sc cenv M (fun _ => False) Wc (fun _ => False) s (ps.zip (ds.map B.own)) s1 := by
    refine ⟨⟨⟨⟨_, x.toInCall.ns⟩, .inl rfl, fun y hy => ?_, fun b ob hb e => ?_⟩, ⟨fun b ob e => (hbase b ob e).trans kp.code (kp.tk b), fun b hb => ?_, fun y b hy => ?_, fun y c hy => .inr (.inl (.inr ⟨y, mem_of_lookup hy⟩)), ?_⟩, fun b hb => .inr (.inl hb), fun b hb => ?_, fun y b hy hb => ?_, fun y c hy => .inl (.inr ⟨y, mem_of_lookup hy⟩), fun b hb => hb.elim⟩,
      kp, fun b hb => ?_, hdom, hbase, fun b hb => hb.elim, fun b hb => hb.elim, fun b _ hb => hb, fun y c hy => .inr ⟨y, mem_of_lookup hy⟩, fun y z b c b' hy hz hb => ?_⟩
    · obtain ⟨c, h1, h2⟩ := cellLook y hy
      rw [← hcel] at h1 h2
      exact ⟨by rw [hko, hy], c, _, h2, hcell y c h1, .inr ⟨y, h1⟩, Nat.ne_of_gt (x.above y c h1), fun z hz => name_of_addr x.apart (mem_of_lookup hz) h1⟩
    · rcases hb with rfl | ⟨n, hn⟩
      · exact .inl rfl
      · obtain ⟨o', e', h⟩ := hcell n b hn
        rw [e'] at e; cases e; exact .inr ⟨_, h⟩
    · rcases hb with hb | hb | hb | hb
      · obtain ⟨o, e⟩ := hdom b hb; exact kp.al e
      · exact wDom b hb
      · exact hb.elim
      · exact hb.elim
    · obtain ⟨i, hi, hpi⟩ := List.mem_iff_getElem.mp hy
      have hi' : i < ps.length := by rw [List.length_zip] at hi; lia
      have hd : i < ds.length := by lia
      have hvi : i < vs.length := by lia
      rw [List.getElem_zip] at hpi
      simp only [List.getElem_map, Prod.mk.injEq] at hpi
      obtain ⟨rfl, rfl⟩ := hpi
      have hmem : (ps[i], vs[i]) ∈ ps.zip vs := List.mem_iff_getElem.mpr ⟨i, by rw [List.length_zip]; lia, by rw [List.getElem_zip]⟩
      refine ⟨vs[i], ?_, ?_⟩
      · rcases hs.pars ps[i] (List.getElem_mem _) with h | h
        · exact .inl ⟨by rw [hko, h], _, x.toInCall.ns, (bindL_get cenv.kindOf _ _ ps[i] hbn (by rw [hko, h])).2 _ hmem⟩
        · obtain ⟨c, h1, h2⟩ := cellLook ps[i] h
          rw [← hcel] at h1 h2
          have hbc := (bindC_get cenv.kindOf (ps.zip vs) (fun _ => none) ps[i] hbn (by rw [hko, h]; decide)).2 _ hmem
          exact .inr ⟨.inl (by rw [hko, h]), c, h2, hbc ▸ hcell _ c h1⟩
      · have r1 := hr.of_get (i := i) (d := ds[i]) (by simp [hd]) (v := vs[i]) (by simp [hvi])
        refine Rp.agr kp.agr _ _ (Rp.sub (fun b o e q => ?_) _ _ r1)
        rcases q with q | q | q | q
        · exact q
        · rw [wNone b q] at e; cases e
        · exact q.elim
        · exact q.elim
    · rw [zip_fst (by simpa using hlen)]; exact hs.pnd
    · cases e : G.hB.get? b with
      | none => rfl
      | some o' => obtain ⟨_, z⟩ := (hbase b o' e).al; rw [wNone b hb] at z; cases z
    · obtain ⟨i, hi, hpi⟩ := List.mem_iff_getElem.mp hy
      rw [List.getElem_zip] at hpi
      simp only [List.getElem_map, Prod.mk.injEq] at hpi
      rw [← hpi.2] at hb; cases hb
    · rcases hb with hb | hb | hb
      · exact wNone b hb
      · exact hb.elim
      · exact hb.elim
    · obtain ⟨i, hi, hpi⟩ := List.mem_iff_getElem.mp hy
      rw [List.getElem_zip] at hpi
      simp only [List.getElem_map, Prod.mk.injEq] at hpi
      rw [← hpi.2] at hb; cases hb
  exact hex cenv s1 c' Wc _ _ hCO (by rw [← hce, ← hfd]; rfl) (by rw [← hce, ← hfd]; rfl) (by rw [← hce]; rfl) hsc hvc (ho.deeper cenv) (wNone _ (.inl rfl)) kp wNone hst (fun f s' h => h) (fun e s' h => h)
theorem FnOk.of1 {name : Str} {params : Arguments} {body : List Stmt} {ps : List Str} {f : List PyData → PyData → Prop} (hD : DefAt G name params body sc) (hs : fnOk sc ps = true)
    (hbind : ∀ (pm c doc : Value) (vs : List Value), vs.length = ps.length → bindArgs (Calls.docDef name params body sc pm c doc) ⟨vs, []⟩ = pure (ps.zip vs))
    (hbody : ∀ ds d, f ds d → ds.length = ps.length ∧ ∀ env c', CodeOf G name params body sc c' → env.code = .ref c' → env.qual = name ++ ".<locals>." → ExAt G k sc (ps.zip (ds.map B.own)) env body (fun o => o = .ret d ∨ ((∃ ρ, o = .next ρ) ∧ d = .none))) : FnOk G name (k + 1) f := by
  obtain ⟨a, hm, hfd, hcall⟩ := call_body (k := k) hD hs hbind
  refine ⟨a, hm, hfd, fun A M s vs ds d Q E ho hbase hdom hr hf hQ => ?_⟩
  obtain ⟨hlen, hex⟩ := hbody ds d hf
  refine hcall A M s vs ds Q E ho hbase hdom hr hlen fun cenv s1 c' Wc Q' E' hCO hcode hqual _ _ hvc hok _ _ _ hst hq _ => ?_
  refine hex cenv c' hCO hcode hqual (A.deeper cenv) M (fun _ => False) Wc (fun _ => False) s s1 _ _ hok hvc hst (fun ρ1 Z1 s2 hp t2 _ => hq _ _ ?_) fun d' v s2 hp hk hr' => hq _ _ ?_
  · rcases hp with hp | ⟨_, rfl⟩
    · cases hp
    · exact hQ .none s2 t2.kp (by simp [Rp])
  · rcases hp with hp | ⟨⟨ρ1, hp⟩, _⟩
    · cases hp; exact hQ v s2 hk hr'
    · cases hp
theorem FnOk.of {name : Str} {params : Arguments} {body : List Stmt} {ps : List Str} {f : List PyData → PyData → Prop} (hD : DefAt G name params body sc) (hs : fnOk sc ps = true)
    (hbind : ∀ (pm c doc : Value) (vs : List Value), vs.length = ps.length → bindArgs (Calls.docDef name params body sc pm c doc) ⟨vs, []⟩ = pure (ps.zip vs))
    (hbody : ∀ ds d, f ds d → ds.length = ps.length ∧ ExTo G k sc (ps.zip (ds.map B.own)) body (fun o => o = .ret d ∨ ((∃ ρ, o = .next ρ) ∧ d = .none))) : FnOk G name (k + 1) f :=
  .of1 hD hs hbind fun ds d h => ⟨(hbody ds d h).1, fun env _ _ _ _ A => (hbody ds d h).2 A env⟩
end
end
section
noncomputable def closOk (sc : Scope) (ps : List Str) : Bool :=
  sc.kind == .function && !sc.isGenerator && !sc.isCoroutine && decide (sc.names.map (·.1)).Nodup && decide ps.Nodup && sc.names.all (fun y => y.1 != ("__debug__" : Str) && y.1 != ("__classdict__" : Str) && y.2 != .cell) &&
    ps.all fun p => sc.names.lookup p == some .local
section
variable {prog : Program} {w : World} {G : Gl prog w} {k : Nat} {sc : Scope} {ρ ρ' : VEnv}
theorem clos_run {ps : List Str} {A : Around} {s : Shared} {Q : Value → Shared → Prop} {E : Value → Shared → Prop} {f c' : Addr} {o : Obj} {fd : FuncData} {body : List Stmt} {vs : List Value} {ds : List PyData} {M Z : Addr → Prop} {ρf : VEnv}
    (ho : Ok (k + 1) A) (hbase : ∀ b o, G.hB.get? b = some o → Gr G.T s.heap b o) (hdom : ∀ a, M a → ∃ o, s.heap.get? a = some o)
    (hf : s.heap.get? f = some o) (hd : o.data = .func fd) (hsc : fd.scope = sc) (hgl : fd.globals = mainGlobals) (hbl : fd.builtins = builtinsNs) (hcode : fd.code = .ref c') (hco : CodeO s.heap c' fd.qualname) (hbody : fd.body = .stmts body)
    (hbind : bindArgs fd ⟨vs, []⟩ = pure (ps.zip vs)) (hs : closOk sc ps = true) (hfree : ∀ x, sc.names.lookup x = some .free → ∃ c, fd.closure.lookup x = some c) (hcz : ∀ x c, fd.closure.lookup x = some c → Z c) (hzM : ∀ a, Z a → M a)
    (hlen : ds.length = ps.length) (hr : RpL prog w s.heap M ds vs)
    (hρ : ∀ x b, (x, b) ∈ ρf → sc.names.lookup x = some .free ∧ ∃ d c v, b = .own d ∧ fd.closure.lookup x = some c ∧ s.heap.IsCell c (some v) ∧ Rp prog w s.heap M d v) (hρn : (ρf.map (·.1)).Nodup)
    (h : ∀ env s1 E', EnvOk sc env → env.cells = fd.closure → Ok k (A.deeper env) → Kp G.T s s1 → s.heap.get? env.locals = none → Fm G sc env (· = env.locals) Z (fun a => M a ∨ a = env.locals) (ρf ++ ps.zip (ds.map B.own)) s1 →
      wpAny (model prog w) (A.deeper env) (execs body env) (fun r s' => match r with | .ret v => Q v s' | _ => Q .none s') E' s1) :
    wpAny (model prog w) A (call (.ref f) vs) Q E s := by
  simp only [closOk, Bool.and_eq_true, decide_eq_true_eq, List.all_eq_true, bne_iff_ne, beq_iff_eq, Bool.not_eq_true'] at hs
  obtain ⟨⟨⟨⟨⟨⟨h1, h2⟩, h3⟩, h4⟩, h5⟩, h6⟩, h7⟩ := hs
  have hvl : vs.length = ps.length := by rw [hr.length]; exact hlen
  have hbn : ((ps.zip vs).map (·.1)).Nodup := by rw [zip_fst hvl]; exact h5
  have hroom : A.depth < recursionLimit := by
    have := ho.depth
    have e : recursionLimit = 1000 := rfl
    lia
  have hlim : s.heap.NoLimit := by
    obtain ⟨mm, p, q⟩ := G.lim
    exact ⟨mm, Nsp.gr p (fun o n e => (hbase _ o e).nt n), q⟩
  refine wpAny_call (codeAny_call_function hroom hf hd (by rw [hsc]; exact h3) (by rw [hsc]; exact h2) hbody (hcode ▸ hco.rec) ?_)
  rw [hbind, hsc, hgl, hbl, hcode]
  refine wpAny_pure (wpAny_newFunctionEnv (fun x hx => (h6 x hx).2) (fun x hx => h7 _ (by rw [← zip_fst hvl]; exact List.mem_map.mpr ⟨x, hx, rfl⟩)) (fun h' hn hsb => ?_) h1)
  generalize hce : newEnv sc s.heap.objs.size mainGlobals fd.closure (fd.qualname ++ ".<locals>.") (some f) (.ref c') none builtinsNs = env
  have hloc : env.locals = s.heap.objs.size := by rw [← hce]; rfl
  have hcel : env.cells = fd.closure := by rw [← hce]; rfl
  have hko : ∀ y, env.kindOf y = sc.names.lookup y := fun y => by rw [← hce]; rfl
  have hknd : env.scope.kind = .function := by rw [← hce]; exact h1
  have hge : env.globals = mainGlobals := by rw [← hce]; rfl
  have hbe : env.builtins = builtinsNs := by rw [← hce]; rfl
  have hnoC : ∀ y, sc.names.lookup y = some .cell → False := fun y hy => (h6 _ (mem_of_lookup hy)).2 rfl
  have hv : EnvOk sc env := ⟨hknd, hge, hbe, fun y hy => by rw [hko, hy], fun y hy => by rw [hko]; exact hy, fun y => by rw [hko],
    by rw [hko]; exact lookup_none fun c hc => (h6 _ hc).1.1 rfl, fun y hy => by
      rcases hy with hy | hy
      · exact (hnoC y hy).elim
      · rw [hcel]; exact hfree y hy, by rw [hko]; exact lookup_none fun c hc => (h6 _ hc).1.2 rfl⟩
  have keep : ∀ b o, s.heap.get? b = some o → h'.get? b = some o := fun b o e => (hsb.2 b (fun q => by rw [q, fresh_none (Nat.le_refl _)] at e; cases e)).trans (Heap.get?_push_of_some _ e)
  have kp : Kp G.T s { s with heap := h', toks := s.toks + (ps.zip vs).length } := Kp.mk' keep
  have hL : s.heap.get? env.locals = none := by rw [hloc]; exact fresh_none (Nat.le_refl _)
  have hnl : h'.Ns env.locals (fun x => (ps.zip vs).reverse.lookup x) := by rw [hloc]; exact hn
  refine ⟨hlim.keeps keep, codeAny_func ?_⟩
  refine wpAny_mono (h env _ _ hv hcel (ho.deeper env) kp hL ?_) (fun r s' hq => by cases r <;> exact hq) (fun _ _ z => z)
  refine ⟨⟨⟨_, hnl⟩, rfl, fun y hy => (hnoC y hy).elim, fun a ob ha _ => .inl ha⟩, ⟨fun b ob e => (hbase b ob e).trans kp.code (kp.tk b), fun a ha => ?_, fun x b hx => ?_, fun x c hx => .inl (hzM _ (hcz x c (hcel ▸ hx))), ?_⟩, fun a ha => .inr ha, fun a ha => ?_, fun x b hx hb => ?_, fun x c hx => .inr (hcz x c (hcel ▸ hx)), fun a ha => .inl (hzM a ha)⟩
  · rcases ha with ha | rfl
    · exact kp.al (hdom a ha).choose_spec
    · obtain ⟨o', _, _, e, _⟩ := hnl; exact ⟨o', e⟩
  · have sub : ∀ a o, s.heap.get? a = some o → (M a ∨ a = env.locals) → M a := fun a o' e q => q.elim id fun q => by rw [q, hL] at e; cases e
    rcases List.mem_append.mp hx with hx | hx
    · obtain ⟨hf', d, c, v, rfl, hc, hi, r⟩ := hρ x b hx
      exact ⟨v, .inr ⟨.inr (by rw [hko, hf']), c, by rw [hcel]; exact hc, Cel.gr hi (kp.nt _)⟩, Rp.agr kp.agr _ _ (Rp.sub sub _ _ r)⟩
    · obtain ⟨i, hi, hpi⟩ := List.mem_iff_getElem.mp hx
      have hi' : i < ps.length := by rw [List.length_zip] at hi; lia
      have hdl : i < ds.length := by lia
      have hvi : i < vs.length := by lia
      rw [List.getElem_zip] at hpi
      simp only [List.getElem_map, Prod.mk.injEq] at hpi
      obtain ⟨rfl, rfl⟩ := hpi
      have hmem : (ps[i], vs[i]) ∈ ps.zip vs := List.mem_iff_getElem.mpr ⟨i, by rw [List.length_zip]; lia, by rw [List.getElem_zip]⟩
      refine ⟨vs[i], .inl ⟨by rw [hko]; exact h7 _ (List.getElem_mem _), _, hnl, ?_⟩, Rp.agr kp.agr _ _ (Rp.sub sub _ _ (hr.of_get (i := i) (d := ds[i]) (by simp [hdl]) (v := vs[i]) (by simp [hvi])))⟩
      exact lookup_of_mem (List.mem_reverse.mpr hmem) fun c' hc' => mem_nodup hbn (List.mem_reverse.mp hc') hmem
  · rw [List.map_append, zip_fst (by simpa using hlen), List.nodup_append]
    refine ⟨hρn, h5, fun a ha b hb q => ?_⟩
    obtain ⟨⟨x, b'⟩, hx, rfl⟩ := List.mem_map.mp ha
    have := (hρ x b' hx).1
    rw [show x = b from q, h7 b hb] at this; cases this
  · rw [ha]
    cases e : G.hB.get? env.locals with
    | none => rfl
    | some o' => obtain ⟨_, z⟩ := (hbase _ o' e).al; rw [hL] at z; cases z
  · rcases List.mem_append.mp hx with hx | hx
    · obtain ⟨_, d, _, _, rfl, _⟩ := hρ x b hx; cases hb
    · obtain ⟨i, hi, hpi⟩ := List.mem_iff_getElem.mp hx
      rw [List.getElem_zip] at hpi
      simp only [List.getElem_map, Prod.mk.injEq] at hpi
      rw [← hpi.2] at hb; cases hb
theorem Fm.assign {A : Around} {env : Env} {Wc Z M : Addr → Prop} {s : Shared} {Q : Flow → Shared → Prop} {E : Value → Shared → Prop} {y : Str} {p pos : Pos} {e : Expr} {d : PyData} (ho : Ok k A) (hv : EnvOk sc env) (f : Fm G sc env Wc Z M ρ s)
    (he : EvTo G k sc ρ e d) (hy : OwnName sc y) (hu : Upd y (.own d) ρ ρ') (h : ∀ s', KB G.T Wc s s' → Fm G sc env Wc Z M ρ' s' → Q .next s') (hs : swapsWith e (some (.Name y p)) pos.line env = pure false) :
    wpAny (model prog w) A (exec (.Assign [.Name y p] e pos) env) Q E s := by
  rw [exec_Assign_Name env y p e pos hs]
  refine wpAny_bind (wpAny_standAt (wpAny_bind (he A env _ s _ _ ho hv f.vr fun v s1 k1 r1 => ?_)))
  exact wpAny_bind (wpAny_standAt (wpAny_bind (wpAny_bindName ((f.keeps k1).store hv hy hu r1 fun s2 k2 f2 _ => wpAny_pure (h s2 ((KB.of k1).trans k2) f2)))))
end
section
variable {prog : Program} {w : World} {G : Gl prog w} {k : Nat} {sc : Scope} {ρ ρ' : VEnv}
open PySem.W in
theorem makeFunction_M {M : Model} {A : Around} {E : Value → Shared → Prop} {s : Shared} {name qual : Str} {params : Arguments} {body : List Stmt} {scope : Scope} {env : Env} {c P : Addr} {ps : Array Value} {pos : Pos} {firstLine : Nat} {mg : Str → Option Value}
    {clos : List (Str × Addr)} {Q : Value → Shared → Prop} (hcl : closureFor scope env = pure clos) (hge0 : env.globals = mainGlobals) (hg : s.heap.Ns mainGlobals mg) (hcode : env.code = .ref c) (C : CodeHd s.heap c P) (hP : s.heap.get? P = some (tabObj ps)) (ht : TriplesOk ps.toList)
    (hnf : codeAmong pos ps.toList = none) (hgP : mainGlobals ≠ P) (hb : s.heap.BuiltinsAt mg P)
    (h : ∀ c' ctv doc h' tk, Heap.ExtBut P s.heap h' → s.heap.objs.size ≤ h'.objs.size → CodeO h' c' qual → h'.get? P = some (tabObj (ps ++ #[rawInt pos.line, rawInt pos.col, .ref c'])) →
      Q (.ref h'.objs.size) { s with heap := h'.push (fnMade name qual params body scope clos doc ((mg "__name__").getD .none) c' ctv), toks := tk }) :
    wpAny M A (makeFunction name qual params (.stmts body) scope env [] [] [] pos firstLine) Q E s := by
  rw [makeFunction_eq]
  simp only [List.zip_nil_right, List.filterMap_nil, List.isEmpty_nil, if_true, pure_bind]
  have mk : ∀ {h' : Heap} {c' : Addr}, h'.CodeRec (.ref c') qual → (∃ P', s.heap.objs.size ≤ P' ∧ h'.IsCode c' P' #[] ∧ h'.TableAt c' P' #[]) → CodeO h' c' qual := by
    rintro h' c' ⟨c2, o, vs, t, e, ho, hd, hv⟩ ⟨P', _, _, ⟨⟨o2, vs2, ho2, hc2, hd2, _⟩, _⟩⟩
    cases e
    rw [ho] at ho2; cases ho2
    exact ⟨o, vs, t, ho, hc2, hd, hv⟩
  obtain ⟨bm, ob, hbm, hne0, _, hneP, hbo, hcls, hdict, hdata⟩ := hb
  unfold makeTail
  rw [hcl, hge0]
  refine wpAny_bind (wpAny_pure ?_)
  cases clos with
  | nil =>
    simp only [List.isEmpty_nil, if_true]
    refine wpAny_bind (wpAny_pure ?_)
    refine wpAny_bind (wpAny_functionCodeX hcode (C.code hP ht) (C.tab hP) hnf fun c' h' tk hx hge hlt _ hrec htb hpp => ?_)
    have hg' := hg.extBut hx hgP
    have hsz : s.heap.objs.size ≤ h'.objs.size := Nat.le_of_lt (Nat.lt_of_le_of_lt hge hlt)
    refine wpAny_bind (wpAny_builtinsFor hg' hbm hne0 (hx _ _ hneP hbo) hcls hdict hdata ?_)
    refine wpAny_bind (wpAny_nsGet hg' ?_)
    cases hdoc : docOf body with
    | none => exact wpAny_bind (wpAny_pure (wpAny_newObj_type (h c' .none .none h' tk hx hsz (mk hrec hpp) htb.2) (by size_fits)))
    | some t => exact wpAny_bind (wpAny_mkText (wpAny_newObj_type (h c' .none _ h' _ hx hsz (mk hrec hpp) htb.2) (by size_fits)))
  | cons q r =>
    simp only [List.isEmpty_cons, Bool.false_eq_true, if_false]
    refine wpAny_bind (wpAny_newTextTuple ?_)
    refine wpAny_bind (wpAny_functionCodeX hcode ((C.keeps fun b o e => Heap.get?_push_of_some _ e).code (Heap.get?_push_of_some _ hP) ht) ((C.keeps fun b o e => Heap.get?_push_of_some _ e).tab (Heap.get?_push_of_some _ hP)) hnf fun c' h' tk hx hge hlt _ hrec htb hpp => ?_)
    have hg' := (hg.push _).extBut hx hgP
    have hx' : Heap.ExtBut P s.heap h' := fun b o hb' e => hx b o hb' (Heap.get?_push_of_some _ e)
    have hge' : s.heap.objs.size ≤ c' := Nat.le_trans (by rw [Heap.size_push]; lia) hge
    have hsz : s.heap.objs.size ≤ h'.objs.size := Nat.le_of_lt (Nat.lt_of_le_of_lt hge' hlt)
    have hpp' : ∃ P', s.heap.objs.size ≤ P' ∧ h'.IsCode c' P' #[] ∧ h'.TableAt c' P' #[] := let ⟨P', a, b⟩ := hpp; ⟨P', Nat.le_trans (by rw [Heap.size_push]; lia) a, b⟩
    refine wpAny_bind (wpAny_builtinsFor hg' hbm hne0 (hx' _ _ hneP hbo) hcls hdict hdata ?_)
    refine wpAny_bind (wpAny_nsGet hg' ?_)
    cases hdoc : docOf body with
    | none => exact wpAny_bind (wpAny_pure (wpAny_newObj_type (h c' _ .none h' tk hx' hsz (mk hrec hpp') htb.2) (by size_fits)))
    | some t => exact wpAny_bind (wpAny_mkText (wpAny_newObj_type (h c' _ _ h' _ hx' hsz (mk hrec hpp') htb.2) (by size_fits)))
structure TabDef (G : Gl prog w) (c P : Addr) (pos : Pos) (qual : Str) : Prop where
  hd : PySem.W.CodeHd G.hB c P
  tab : G.hB.get? P = some (tabO #[])
  at' : G.T P pos.line pos.col qual
  only : ∀ l cl q, G.T P l cl q → l = pos.line ∧ cl = pos.col ∧ q = qual
  bm : G.hB.BuiltinsAt G.mg P
open PySem.W in
theorem def_nested {A : Around} {env : Env} {s : Shared} {Q : Value → Shared → Prop} {E : Value → Shared → Prop} {nm qual : Str} {params : Arguments} {body : List Stmt} {isc : Scope} {c P : Addr} {pos : Pos} {fl : Nat} {clos : List (Str × Addr)}
    (T : TabDef G c P pos qual) (hbase : ∀ b o, G.hB.get? b = some o → Gr G.T s.heap b o) (hge : env.globals = mainGlobals) (hcode : env.code = .ref c) (hcl : closureFor isc env = pure clos)
    (h : ∀ f c2 ctv doc s', Kp G.T s s' → s.heap.get? f = none → s'.heap.get? f = some (fnMade nm qual params body isc clos doc ((G.mg "__name__").getD .none) c2 ctv) → CodeO s'.heap c2 qual → Q (.ref f) s') :
    wpAny (model prog w) A (makeFunction nm qual params (.stmts body) isc env [] [] [] pos fl) Q E s := by
  have hnt : ∀ b o, NT o → G.hB.get? b = some o → s.heap.get? b = some o := fun b o n e => (hbase b o e).nt n
  have hg : s.heap.Ns mainGlobals G.mg := Nsp.gr G.g (hnt _)
  have hgP : mainGlobals ≠ P := fun q => by
    obtain ⟨o, es, ep, e, hd, _⟩ := G.g
    rw [q, T.tab] at e; cases e; cases hd
  have C : CodeHd s.heap c P := by
    obtain ⟨o, vs, file, tf, flags, tg, inF, text, tt, e, hc, r⟩ := T.hd
    exact ⟨o, vs, file, tf, flags, tg, inF, text, tt, hnt _ _ (.cls hc) e, hc, r⟩
  have hb : s.heap.BuiltinsAt G.mg P := by
    obtain ⟨bm, o, h1, h2, h3, h4, h5, h6, r⟩ := T.bm
    exact ⟨bm, o, h1, h2, h3, h4, hnt _ _ (.cls h6) h5, h6, r⟩
  rcases hbase P _ T.tab with hP | ⟨l, cl, q, c2, hT, _, hP, hc2⟩
  · refine makeFunction_M hcl hge hg hcode C hP trivial rfl hgP hb fun c' ctv doc h' tk hx hsz hco hP' => ?_
    refine h _ c' ctv doc _ ⟨⟨_, _, rfl⟩, fun b o e => ?_⟩ (fresh_none hsz) (Heap.get?_push_size _ rfl) ?_
    · by_cases hbP : b = P
      · subst hbP
        rw [hP] at e; cases e
        refine .inr ⟨pos.line, pos.col, qual, c', T.at', rfl, ?_, ?_⟩
        · exact Heap.get?_push_of_some _ (by simpa [tabO] using hP')
        · exact hco.gr (T := G.T) fun o _ e => .inl (Heap.get?_push_of_some _ e)
      · exact .inl (Heap.get?_push_of_some _ (hx b o hbP e))
    · exact hco.gr (T := G.T) fun o _ e => .inl (Heap.get?_push_of_some _ e)
  · obtain ⟨rfl, rfl, rfl⟩ := T.only _ _ _ hT
    refine makeFunction_hit (cv := .ref c2) hcl hge hg hcode C hP trivial ?_ hb fun ctv doc h' tk hk hsz => ?_
    · simp [codeAmong, rawInt]
    · refine h _ c2 ctv doc _ ⟨⟨_, _, rfl⟩, fun b o e => .inl (Heap.get?_push_of_some _ (hk b o e))⟩ (fresh_none hsz) (Heap.get?_push_size _ rfl) ?_
      exact hc2.gr (T := G.T) fun o _ e => .inl (Heap.get?_push_of_some _ (hk _ _ e))
end
end
section
section
variable {prog : Program} {w : World} {G : Gl prog w} {k : Nat} {sc : Scope} {ρ ρ' : VEnv}
theorem RpL.rep {h : Heap} {M : Addr → Prop} {d : PyData} {v : Value} (r : Rp prog w h M d v) : ∀ n : Nat, RpL prog w h M (List.replicate n d) (List.replicate n v)
  | 0 => RpL.nil
  | n + 1 => by rw [List.replicate_succ, List.replicate_succ]; exact RpL.cons r (RpL.rep r n)
theorem EvIt.rep {l r : Expr} {pos : Pos} {d : PyData} {n : Int} (hl : EvTo G k sc ρ l (.list [d])) (hr : EvTo G k sc ρ r (.int n)) (hn : n.toNat ≤ lid) (hlo : -(2 ^ 62 : Int) ≤ n) : EvIt G k sc ρ (.BinOp l .Mult r pos) (.mu (List.replicate n.toNat d)) := by
  intro A env M s Q E ho hv hvr hQ
  refine wpAny_BinOp (hl A env M s _ _ ho hv hvr fun u s1 k1 r1 => hr A env M s1 _ _ ho hv (hvr.keeps k1) fun v s2 k2 r2 => ?_)
  simp only [Rp] at r1 r2
  obtain ⟨a, items, rfl, hM, hp, rr, _⟩ := r1
  obtain ⟨t, rfl⟩ := r2
  obtain ⟨v, hv1, rv⟩ := rr.one
  have hp2 := PL.gr hp (k2.nt _)
  obtain ⟨n0, e0⟩ := id hp2
  have hsz : items.size = 1 := by have := congrArg List.length hv1; simpa using this
  have hlid : lid = 1048576 := rfl
  have hn' : n.toNat ≤ 1048576 := by rw [← hlid]; exact hn
  have hsz' : items.size * n.toNat ≤ 1048576 := by rw [hsz]; lia
  refine wpAny_binaryOp_repeat_ref (T := "list") (U := "int") (by decide) ⟨_, e0, rfl⟩ (fun s' => typeIs_int s' n t) noFill_list_mul F.fills_int_mul F.slot_int_rmul repeat_list F.slot_int_index.lookup
    (call_meets F.slot_int_rmul (typeIs_int s2 n t) F.entry_int_rmul (F.args_int_rmul_2 _ _) (lm_int_rmul_list_any n t a items n0 none #[])
      ⟨e0, rfl, ⟨_, e0, rfl⟩, call_meets F.slot_list_mul ⟨_, e0, rfl⟩ F.entry_list_mul (F.args_list_mul_2 _ _)
        (lm_list_mul_any a items n0 none #[] n t (by simp [Builtin.List.listFitsIndex]; lia) (by lia) (by simp [Builtin.List.listTooLong, sizeLine]; lia))
        ⟨e0, ?_⟩⟩)
  rw [listMul_foldl_if, hv1, lm_rep_flat_one]
  have hn : s2.heap.get? s2.heap.objs.size = none := fresh_none (Nat.le_refl _)
  have hq : (s2.heap.push { cls := .type "list", data := .seq (List.replicate n.toNat v).toArray }).PlainList s2.heap.objs.size (List.replicate n.toNat v).toArray := ⟨_, Heap.get?_push_size _ rfl⟩
  refine hQ _ _ (· = s2.heap.objs.size) ((k1.trans k2).trans (Kp.push _ s2.toks)) (fun b hb => ?_) ⟨_, _, rfl, rfl, hq, ?_, by rw [List.length_replicate, hlid]; exact hn'⟩
  · subst hb
    refine ⟨?_, ⟨_, hq.choose_spec⟩, rfl⟩
    cases e : s.heap.get? s2.heap.objs.size with
    | none => rfl
    | some o => obtain ⟨_, z⟩ := (k1.trans k2).al e; rw [hn] at z; cases z
  · refine RpL.agr Agr.push _ _ (RpL.sub (fun b o e q => q.elim id fun q => ?_) _ _ (RpL.agr k2.agr _ _ (RpL.rep rv n.toNat)))
    rw [q, hn] at e; cases e
theorem wpAny_setItem_pl {A : Around} {E : Value → Shared → Prop} {s : Shared} {l : Addr} {items : Array Value} {k : Int} {t : Tok} {v : Value} {Q : Unit → Shared → Prop} (hp : s.heap.PlainList l items)
    (h0 : 0 ≤ k) (hfit : k < 2 ^ 63) (hn : k < items.size)
    (hQ : ∀ h', h'.PlainList l (items.setIfInBounds k.toNat v) → Heap.SameBut l s.heap h' → Q () { s with heap := h' }) :
    wpAny (model prog w) A (setItem (.ref l) (.int k t) v) Q E s := by
  obtain ⟨n, hol⟩ := id hp
  have hl := hp.isList
  obtain ⟨o, ho, hc, ne, hd⟩ := id hl
  unfold setItem
  try with_reducible refine wpAny_holding ?_
  first | refine wpAny_bind (wpAny_pure ?_) | skip
  refine wpAny_bind (wpAny_sequenceKey hl.typeIs (by decide) ?_)
  refine wpAny_bind (wpAny_callSpecial?_slot (name := Str.ofString "__setitem__") hl.typeIs slot_list_setitem
    (wpAny_call_entry slot_list_setitem hl.typeIs entry_list_setitem ?_ (args_list_setitem _ _ _)))
  show wpAny _ _ (Builtin.List.listSubscript? (.int k t) >>= _) _ _ s
  refine wpAny_bind (wpAny_listSubscript_int (fitsIndex_of h0 hfit) ?_)
  clear hfit
  obtain ⟨j, rfl⟩ := Int.eq_ofNat_of_zero_le h0
  have hj : j < items.size := by lia
  have hx' : items[j]? = some items[j] := Array.getElem?_eq_getElem hj
  show wpAny _ _ ((seqItemAt l j >>= fun r => pure (r.map (j, ·))) >>= _) _ _ s
  refine wpAny_bind (wpAny_bind (wpAny_seqItemAt ho hd (wpAny_pure ?_)))
  rw [hx']
  show wpAny _ _ (setSeqItemAt l j v >>= _) _ _ s
  have hfin : (s.heap.update l (Obj.mapSeq (·.setIfInBounds j v))).PlainList l (items.setIfInBounds j v) := ⟨_, IsL.update (n := n) hol _⟩
  refine wpAny_bind (wpAny_setSeqItemAt ho hd ?_)
  first
    | exact wpAny_bind (wpAny_pure (wpAny_pure ⟨.none, rfl, wpAny_pure (hQ _ hfin (Heap.SameBut.update ..))⟩))
    | exact wpAny_pure ⟨.none, rfl, wpAny_pure (hQ _ hfin (Heap.SameBut.update ..))⟩
end
end
section
theorem or_sub (x s : Nat) : x ||| (x / 2 ^ s * 2 ^ s) = x := by
  apply Nat.eq_of_testBit_eq
  intro i
  rw [← Nat.shiftRight_eq_div_pow, ← Nat.shiftLeft_eq, Nat.testBit_or, Nat.testBit_shiftLeft, Nat.testBit_shiftRight]
  by_cases h : i ≥ s
  · simp [h, Nat.add_sub_cancel' h]
  · simp [h]
theorem and_sub (x s : Nat) : x &&& (x / 2 ^ s * 2 ^ s) = x / 2 ^ s * 2 ^ s := by
  apply Nat.eq_of_testBit_eq
  intro i
  rw [← Nat.shiftRight_eq_div_pow, ← Nat.shiftLeft_eq, Nat.testBit_and, Nat.testBit_shiftLeft, Nat.testBit_shiftRight]
  by_cases h : i ≥ s
  · simp [h, Nat.add_sub_cancel' h]
  · simp [h]
theorem bitNot_bitNot (x : Int) : Builtin.bitNot (Builtin.bitNot x) = x := by
  unfold Builtin.bitNot; lia
theorem bitAnd_nat (x y : Nat) : Builtin.bitAnd (x : Int) (y : Int) = ((x &&& y : Nat) : Int) := by
  unfold Builtin.bitAnd; simp
theorem bitOr_nat (x y : Nat) : Builtin.bitOr (x : Int) (y : Int) = ((x ||| y : Nat) : Int) := by
  have hx : ¬ (0 ≤ Builtin.bitNot (x : Int)) := by unfold Builtin.bitNot; lia
  have hy : ¬ (0 ≤ Builtin.bitNot (y : Int)) := by unfold Builtin.bitNot; lia
  unfold Builtin.bitOr Builtin.bitAnd
  simp only [hx, hy, decide_false, bitNot_bitNot, Int.toNat_natCast]
theorem bitXor_low (x s : Nat) : Builtin.bitXor (x : Int) ((x / 2 ^ s * 2 ^ s : Nat) : Int) = ((x % 2 ^ s : Nat) : Int) := by
  unfold Builtin.bitXor
  rw [bitOr_nat, bitAnd_nat, or_sub, and_sub]
  have := Nat.div_add_mod x (2 ^ s)
  have h2 : x / 2 ^ s * 2 ^ s = 2 ^ s * (x / 2 ^ s) := Nat.mul_comm _ _
  lia
noncomputable def digN (n x : Nat) : Nat → List Nat
  | 0 => []
  | m + 1 => x % 2 ^ n :: digN n (x / 2 ^ n) m
noncomputable def digs (n x m : Nat) : List PyData := (digN n x m).map fun (z : Nat) => PyData.int (z : Int)
theorem digN_length (n : Nat) : ∀ (m x : Nat), (digN n x m).length = m
  | 0, _ => rfl
  | m + 1, x => by simp [digN, digN_length n m]
theorem digs_length (n x m : Nat) : (digs n x m).length = m := by simp [digs, digN_length]
theorem digN_append (n : Nat) : ∀ (h m x : Nat), digN n x (h + m) = digN n (x % 2 ^ (n * h)) h ++ digN n (x / 2 ^ (n * h)) m
  | 0, m, x => by simp [digN]
  | h + 1, m, x => by
    have e : h + 1 + m = (h + m) + 1 := by lia
    rw [e]
    simp only [digN, List.cons_append]
    have e1 : 2 ^ (n * (h + 1)) = 2 ^ n * 2 ^ (n * h) := by rw [← Nat.pow_add]; congr 1; rw [Nat.mul_add]; lia
    have p1 : x % 2 ^ (n * (h + 1)) % 2 ^ n = x % 2 ^ n := by rw [e1]; exact Nat.mod_mul_right_mod x _ _
    have p2 : x % 2 ^ (n * (h + 1)) / 2 ^ n = x / 2 ^ n % 2 ^ (n * h) := by rw [e1]; exact Nat.mod_mul_right_div_self x _ _
    have p3 : x / 2 ^ (n * (h + 1)) = x / 2 ^ n / 2 ^ (n * h) := by rw [e1, Nat.div_div_eq_div_mul]
    rw [p1, p2, p3, digN_append n h m (x / 2 ^ n)]
theorem digs_append (n x h m : Nat) : digs n x (h + m) = digs n (x % 2 ^ (n * h)) h ++ digs n (x / 2 ^ (n * h)) m := by
  simp only [digs, digN_append, List.map_append]
theorem digs_one {n x : Nat} (h : x < 2 ^ n) : digs n x 1 = [.int (x : Int)] := by
  simp [digs, digN, Nat.mod_eq_of_lt h]
noncomputable def undig (n : Nat) : List Nat → Nat
  | [] => 0
  | z :: r => z + 2 ^ n * undig n r
theorem undig_append (n : Nat) : ∀ a b : List Nat, undig n (a ++ b) = undig n a + 2 ^ (n * a.length) * undig n b
  | [], b => by simp [undig]
  | z :: r, b => by
    simp only [List.cons_append, undig, undig_append n r b, List.length_cons]
    have e1 : 2 ^ (n * (r.length + 1)) = 2 ^ n * 2 ^ (n * r.length) := by rw [← Nat.pow_add]; congr 1; rw [Nat.mul_add]; lia
    rw [e1, Nat.mul_add, Nat.mul_assoc]; lia
theorem undig_digN (n : Nat) : ∀ (m x : Nat), x < 2 ^ (n * m) → undig n (digN n x m) = x
  | 0, x, h => by simp at h; simp [digN, undig, h]
  | m + 1, x, h => by
    have e1 : 2 ^ (n * (m + 1)) = 2 ^ n * 2 ^ (n * m) := by rw [← Nat.pow_add]; congr 1; rw [Nat.mul_add]; lia
    simp only [digN, undig]
    rw [undig_digN n m (x / 2 ^ n) (Nat.div_lt_of_lt_mul (e1 ▸ h))]
    exact Nat.mod_add_div x (2 ^ n)
theorem intBits_le {x m : Nat} (h : x < 2 ^ m) : Builtin.Int.intBits (x : Int) ≤ m := by
  unfold Builtin.Int.intBits
  by_cases h0 : x = 0
  · simp [h0]
  · have : ((x : Int) == 0) = false := by simp [h0]
    rw [this, if_neg (by decide), Int.natAbs_natCast]
    exact (Nat.log2_lt h0).mpr h
theorem fdiv_nat (x s : Nat) : ((x : Int)).fdiv (2 ^ s) = ((x / 2 ^ s : Nat) : Int) := by
  rw [Int.fdiv_eq_ediv_of_nonneg _ (by exact Int.le_of_lt (Int.pow_pos (by decide)))]
  simp
theorem RpL.set {prog : Program} {w : World} {h : Heap} {M : Addr → Prop} {ds : List PyData} {vs : List Value} (r : RpL prog w h M ds vs) (j : Nat) {d : PyData} {v : Value} (hd : Rp prog w h M d v) : RpL prog w h M (ds.set j d) (vs.set j v) := by
  refine RpL.iff (by simp [r.length]) fun i d' v' q1 q2 => ?_
  rw [List.getElem?_set] at q1 q2
  by_cases e : j = i
  · rw [if_pos e] at q1 q2
    split at q1
    · split at q2
      · cases q1; cases q2; exact hd
      · cases q2
    · cases q1
  · rw [if_neg e] at q1 q2; exact r.of_get q1 q2
section
variable {prog : Program} {w : World} {G : Gl prog w} {k : Nat} {sc : Scope} {ρ ρ' : VEnv}
theorem exec_ite {A : Around} {env : Env} {M : Addr → Prop} {s : Shared} {Q : Flow → Shared → Prop} {E : Value → Shared → Prop} {test : Expr} {body orelse : List Stmt} {pos : Pos} {b : Bool} (ho : Ok k A) (hv : EnvOk sc env) (hr : VR G env M ρ s)
    (hc : TrTo G k sc ρ test b) (h : ∀ s', Kp G.T s s' → wpAny (model prog w) A (execs (if b then body else orelse) env) Q E s') : wpAny (model prog w) A (exec (.If test body orelse pos) env) Q E s := by
  rw [exec_If]
  refine wpAny_bind (wpAny_standAt (wpAny_bind (hc A env _ s _ _ ho hv hr fun s1 k1 => ?_)))
  have := h s1 k1
  cases b with
  | true => simp only [if_true] at this ⊢; exact this
  | false => simp only [Bool.false_eq_true, if_false] at this ⊢; exact this
end
end
section
section
variable {prog : Program} {w : World} {G : Gl prog w} {k : Nat} {sc : Scope} {ρ : VEnv}
theorem Set.gr {K : Type} [DecidableEq K] {knd : KeyKind prog w K} {h h' : Heap} {a : Addr} {S : K → Bool} {n : Nat} (x : h.SetOf knd a S n) (e : ∀ o, NT o → h.get? a = some o → h'.get? a = some o) : h'.SetOf knd a S n := by
  obtain ⟨o, es, ep, t, q, hx, r⟩ := x
  exact ⟨o, es, ep, t, e _ (.cls hx.1) q, hx, r⟩
theorem glob_name {x : Str} {p : Pos} {v : Value} (hx : sc.names.lookup x = some .globalImplicit) (hm : G.mg x = some v) {A : Around} {env : Env} {M : Addr → Prop} {s : Shared} {Q : Value → Shared → Prop} {E : Value → Shared → Prop}
    (hv : EnvOk sc env) (hr : VR G env M ρ s) (h : Q v s) : wpAny (model prog w) A (eval (.Name x p) env) Q E s := by
  have hgx := hv.kindG x hx
  exact Calls.Name_function_global hv.kind hgx (Calls.loadGlobal_global (hv.glob ▸ Nsp.gr G.g (hr.bnt _)) hm h) (hv.dbg (by rw [hgx]; simp))
theorem EvTo.inSet {l : Expr} {x : Str} {p pos : Pos} {i : Int} {S : Int → Bool} {a : Addr} {n : Nat} (hx : sc.names.lookup x = some .globalImplicit) (hm : G.mg x = some (.ref a)) (hS : G.hB.SetOf (intKind prog w) a S n) (hl : EvTo G k sc ρ l (.int i)) :
    EvTo G k sc ρ (.Compare l [.In] [.Name x p] pos) (.bool (S i)) := by
  intro A env M s Q E ho hv hr hQ
  refine wpAny_Compare1 (hl A env M s _ _ ho hv hr fun u s1 k1 r1 => glob_name hx hm hv (hr.keeps k1) ?_) rfl
  simp only [Rp] at r1
  obtain ⟨t, rfl⟩ := r1
  exact wpAny_inSet_of (intKind_is prog w i t) rfl (Set.gr hS ((hr.keeps k1).bnt _)) (hQ _ _ (k1.trans (Kp.tok _)) (by simp [Rp]))
noncomputable def getT (T : List (Int × Str)) (i : Int) : Option Str := (T.find? fun kv => kv.1 = i).map (·.2)
noncomputable def optS : Option Str → PyData
  | none => .none
  | some x => .str x
noncomputable def TabAt (G : Gl prog w) (x : Str) (T : List (Int × Str)) : Prop :=
  ∃ a kvs, G.mg x = some (.ref a) ∧ (a == sysModules) = false ∧ G.hB.DictOf (intKind prog w) a kvs ∧ ∀ i, match getT T i with | none => valueAt kvs i = none | some y => ∃ t, valueAt kvs i = some (.str y t)
theorem EvTo.tabGet {e : Expr} {x : Str} {p apos pos : Pos} {i : Int} {T : List (Int × Str)} (hx : sc.names.lookup x = some .globalImplicit) (hT : TabAt G x T) (he : EvTo G k sc ρ e (.int i)) (n1 : NotStar e)
    (hbase : ∀ env, attributeBase (.Name x p) "get" env (eval (.Name x p) env) = eval (.Name x p) env) (hline : (apos.endLine == pos.line) = true) : EvTo G k sc ρ (.Call (.Attribute (.Name x p) "get" apos) [e] [] pos) (optS (getT T i)) := by
  intro A env M s Q E hok hv hr hQ
  obtain ⟨a, kvs, hm, hsm, hd, hval⟩ := hT
  refine method_any hok hv hr hbase PySem.F.plainAttrs_dict PySem.F.slot_dict_get PySem.F.type_dict_get (.cons n1 he .nil) (by simp) hline (glob_name hx hm hv hr ?_)
  have hd1 := Dic.gr hd (hr.bnt _)
  refine ⟨Kp.refl, hd1.typeIs, hd1.mapOf.noDict, fun vs s2 k2 r2 => ?_⟩
  obtain ⟨u, rfl, q1⟩ := r2.one
  simp only [Rp] at q1
  obtain ⟨t, rfl⟩ := q1
  have hd' := Dic.gr hd1 (k2.nt _)
  refine call_meetsIn PySem.F.slot_dict_get hd'.typeIs PySem.F.entry_dict_get (PySem.F.args_dict_get_2 _ _) (meets_dict_get (PySem.intKind prog w) a (k := i) (intKind_is prog w i t) hsm) ⟨_, hd'.mapOf, ?_⟩
  have hv1 := hval i
  refine hQ _ _ (k2.trans (Kp.tok _)) ?_
  cases hF : getT T i with
  | none => rw [hF] at hv1; simp only at hv1; rw [hv1]; simp [optS, Rp]
  | some y => rw [hF] at hv1; obtain ⟨t', hv1⟩ := hv1; rw [hv1]; simp [optS, Rp]
end
end
section
section
variable {prog : Program} {w : World} {G : Gl prog w} {k : Nat} {sc csc : Scope} {ρ ρc : VEnv}
theorem BindTo.nameNew {y : Str} {p : Pos} {x : PyData} (hy : OwnName sc y) (hn : NotIn y ρ) : BindTo G k sc ρ (.Name y p) x ((y, .own x) :: ρ) := BindTo.name hy (.fresh hn)
theorem EvTo.cmpN {α : Type} {f g : α → PyData} {elt iter : Expr} {y : Str} {p pos : Pos} {xs : List α}
    (hc : compOk sc csc = true) (hρ : Filt csc ρ ρc) (hit : ItTo G k sc ρ (.Name y p) false iter (xs.map f)) (hs : ∀ env x, foldedSetIterable iter env x = pure x)
    (hy : OwnName csc y) (hn : NotIn y ρc) (he : ∀ x, x ∈ xs → EvTo G k csc ((y, .own (f x)) :: ρc) elt (g x)) (hl : xs.length ≤ lid) :
    EvTo G k sc ρ (.ListComp elt [⟨.Name y p, iter, [], 0⟩] csc pos) (.list (xs.map g)) :=
  EvTo.compMap (ρ' := fun x => (y, .own (f x)) :: ρc) hc hρ hit hs (fun x => .nameNew hy hn) (fun x q h => List.mem_cons_of_mem _ h) he hl
theorem EvTo.cmpIfN {α : Type} {f g : α → PyData} {elt iter c : Expr} {y : Str} {p pos : Pos} {xs : List α} {b : α → Bool}
    (hc : compOk sc csc = true) (hρ : Filt csc ρ ρc) (hit : ItTo G k sc ρ (.Name y p) false iter (xs.map f)) (hs : ∀ env x, foldedSetIterable iter env x = pure x)
    (hy : OwnName csc y) (hn : NotIn y ρc) (hp : ∀ x, x ∈ xs → TrTo G k csc ((y, .own (f x)) :: ρc) c (b x)) (he : ∀ x, x ∈ xs → b x = true → EvTo G k csc ((y, .own (f x)) :: ρc) elt (g x)) (hl : xs.length ≤ lid) :
    EvTo G k sc ρ (.ListComp elt [⟨.Name y p, iter, [c], 0⟩] csc pos) (.list ((xs.filter b).map g)) :=
  EvTo.compIf (ρ' := fun x => (y, .own (f x)) :: ρc) hc hρ hit hs (fun x => .nameNew hy hn) (fun x q h => List.mem_cons_of_mem _ h) hp he hl
theorem BindTo.pairNew {y z : Str} {p q pos : Pos} {c : Nat} {x u : PyData} (hy : OwnName sc y) (hz : OwnName sc z) (hn : NotIn y ρ) (hm : NotIn z ρ) (hne : y ≠ z) : BindTo G k sc ρ (.Tuple [.Name y p, .Name z q] c pos) (.tuple [x, u]) ((z, .own u) :: (y, .own x) :: ρ) :=
  BindTo.tuple (.cons _ _ _ _ _ _ _ (fun _ _ => rfl) (.nameNew hy hn) (.cons _ _ _ _ _ _ _ (fun _ _ => rfl) (.nameNew hz (.cons hne hm)) (.nil _)))
theorem EvTo.cmpIfP {α : Type} {f1 f2 g : α → PyData} {elt iter c : Expr} {y z : Str} {p q tp pos : Pos} {cc : Nat} {xs : List α} {b : α → Bool}
    (hc : compOk sc csc = true) (hρ : Filt csc ρ ρc) (hit : ItTo G k sc ρ (.Tuple [.Name y p, .Name z q] cc tp) false iter (xs.map fun x => .tuple [f1 x, f2 x])) (hs : ∀ env x, foldedSetIterable iter env x = pure x)
    (hy : OwnName csc y) (hz : OwnName csc z) (hn : NotIn y ρc) (hm : NotIn z ρc) (hne : y ≠ z) (hp : ∀ x, x ∈ xs → TrTo G k csc ((z, .own (f2 x)) :: (y, .own (f1 x)) :: ρc) c (b x)) (he : ∀ x, x ∈ xs → b x = true → EvTo G k csc ((z, .own (f2 x)) :: (y, .own (f1 x)) :: ρc) elt (g x)) (hl : xs.length ≤ lid) :
    EvTo G k sc ρ (.ListComp elt [⟨.Tuple [.Name y p, .Name z q] cc tp, iter, [c], 0⟩] csc pos) (.list ((xs.filter b).map g)) :=
  EvTo.compIf (ρ' := fun x => (z, .own (f2 x)) :: (y, .own (f1 x)) :: ρc) hc hρ hit hs (fun x => .pairNew hy hz hn hm hne) (fun x q h => List.mem_cons_of_mem _ (List.mem_cons_of_mem _ h)) hp he hl
theorem enumD_map {α : Type} (f : α → PyData) : ∀ (xs : List α) (n : Nat), enumD n (xs.map f) = (xs.zipIdx n).map fun x => .tuple [.int (x.2 : Int), f x.1]
  | [], _ => rfl
  | x :: xs, n => by simp [enumD, List.zipIdx_cons, enumD_map f xs (n + 1)]
theorem rangeL_nat (n : Nat) : rangeL 0 (n : Int) 1 = (List.range n).map fun i : Nat => (i : Int) := by
  unfold rangeL Builtin.Range.rangeSize
  simp only [Int.zero_lt_one, if_true, Int.zero_add, Int.mul_one]
  by_cases h : (0 : Int) < n
  · rw [if_pos h]
    have : ((n : Int) - 0 - 1) / 1 + 1 = n := by lia
    rw [this]; rfl
  · rw [if_neg h]
    have : n = 0 := by lia
    subst this; rfl
theorem small_nat {n : Nat} (h : n < 2 ^ 30) : Builtin.Range.small 0 (n : Int) 1 = true := small_one (by decide) (by decide) (by lia) (by lia)
theorem ItTo.rangeN {tgt : Expr} {cf : Bool} {x : Str} {p pos : Pos} {e : Expr} {n : Nat} (hx : sc.names.lookup x = some .globalImplicit) (hm : G.mg x = none) (hb : G.mb x = some (.type "range")) (he : EvTo G k sc ρ e (.int (n : Int))) (hn : NotStar e)
    (hs : n < 2 ^ 30) : ItTo G k sc ρ tgt cf (.Call (.Name x p) [e] [] pos) ((List.range n).map fun i : Nat => .int (i : Int)) := by
  have := ItTo.range1 (tgt := tgt) (cf := cf) (p := p) (pos := pos) hx hm hb he hn (small_nat hs)
  rw [rangeL_nat, List.map_map] at this
  exact this
end
end
section
section
variable {prog : Program} {w : World} {G : Gl prog w} {k : Nat} {sc csc : Scope} {ρ ρc : VEnv}
inductive EvPairs (G : Gl prog w) (k : Nat) (sc : Scope) (ρ : VEnv) : List (Option Expr) → List Expr → List (Str × PyData) → Prop
  | nil : EvPairs G k sc ρ [] [] []
  | cons {ke ve ks vs x d F} : EvTo G k sc ρ ke (.str x) → EvTo G k sc ρ ve d → EvPairs G k sc ρ ks vs F → EvPairs G k sc ρ (some ke :: ks) (ve :: vs) ((x, d) :: F)
theorem EvPairs.shape {keys : List (Option Expr)} {values : List Expr} {F : List (Str × PyData)} (h : EvPairs G k sc ρ keys values F) : keys.all (·.isSome) = true ∧ keys.length = values.length := by
  induction h with
  | nil => exact ⟨rfl, rfl⟩
  | cons _ _ _ ih => exact ⟨by simpa using ih.1, by simp [ih.2]⟩
theorem EvPairs.run {keys : List (Option Expr)} {values : List Expr} {F : List (Str × PyData)} (h : EvPairs G k sc ρ keys values F) : ∀ {A : Around} {env : Env} {M : Addr → Prop} {s : Shared} {Q : List (Value × Value) → Shared → Prop} {E : Value → Shared → Prop} {pos : Pos},
    Ok k A → EnvOk sc env → VR G env M ρ s → (∀ vs kvs s', Kp G.T s s' → allStrKeys vs = true → strPairs vs = kvs → RpD prog w s'.heap M (dk F) kvs → Q vs s') → wpAny (model prog w) A (evalPairs (pairTrees keys values env pos)) Q E s := by
  induction h with
  | nil => intro A env M s Q E pos ho hv hr hQ; exact pairTrees_nil_walk (hQ [] [] s Kp.refl rfl rfl (by simp [dk, RpD]))
  | @cons ke ve ks vs x d F hk hd _ ih =>
    intro A env M s Q E pos ho hv hr hQ
    refine pairTrees_cons_walk (hk A env M s _ _ ho hv hr fun u s1 k1 r1 => hd A env M s1 _ _ ho hv (hr.keeps k1) fun v s2 k2 r2 => ih ho hv (hr.keeps (k1.trans k2)) fun vs kvs s3 k3 h1 h2 h3 => ?_)
    simp only [Rp] at r1
    obtain ⟨t, rfl⟩ := r1
    refine hQ _ ((x, v) :: kvs) s3 ((k1.trans k2).trans k3) h1 (by simp [strPairs, h2]) ?_
    simp only [dk, List.map_cons, RpD]
    exact ⟨x, v, kvs, rfl, rfl, Rp.agr k3.agr _ _ r2, h3⟩
theorem EvTo.dictS {keys : List (Option Expr)} {values : List Expr} {F : List (Str × PyData)} {pos : Pos} (h : EvPairs G k sc ρ keys values F) (h0 : keys ≠ []) (hlen : keys.length ≤ 15) (hn : (F.map (·.1)).Nodup) (hF : F.length ≤ lid) :
    EvTo G k sc ρ (.Dict keys values pos) (.dict (dk F)) := by
  intro A env M s Q E ho hv hr hQ
  have hsh := h.shape
  have hfn : s.heap.get? s.heap.objs.size = none := fresh_none (Nat.le_refl _)
  refine wpAny_Dict_walk (knd := PySem.strKind prog w) hsh.1 hsh.2 h0 hlen ?_
  have k0 : Kp G.T s { s with heap := s.heap.push { cls := .type "dict", data := .dict #[] } } := Kp.push _ s.toks
  have hr0 : VR G env (fun a => M a ∨ a = s.heap.objs.size) ρ { s with heap := s.heap.push { cls := .type "dict", data := .dict #[] } } :=
    hr.grow k0 (fun b hb => hb ▸ hfn) (fun b hb => hb ▸ ⟨_, Heap.get?_push_size _ rfl⟩)
  have hd0 : (s.heap.push { cls := .type "dict", data := .dict #[] }).DictOf (PySem.strKind prog w) s.heap.objs.size [] := Heap.DictOf.new s.heap
  refine h.run ho hv hr0 fun vs kvs s1 k1 a1 a2 a3 => ?_
  have hkeys := RpD.keys a3
  have hd1 : s1.heap.DictOf (PySem.strKind prog w) s.heap.objs.size [] := Dic.gr hd0 (k1.nt _)
  refine display_done_str a1 (by rw [a2, hkeys]; exact hn) hd1 fun h' hd' hs' => ?_
  rw [a2] at hd'
  have kk : Kp G.T s { s1 with heap := h', toks := s1.toks + vs.length } := by
    obtain ⟨⟨h1, t1, rfl⟩, hk1⟩ := k0.trans k1
    refine ⟨⟨h', _, rfl⟩, fun b o e => (hk1 b o e).trans (fun c o2 ic e2 => .inl ((hs'.2 c fun q => ?_).trans e2)) fun o2 e2 => .inl ((hs'.2 b fun q => by rw [q, hfn] at e; cases e).trans e2)⟩
    obtain ⟨od, es, ep, hod, _, hdd, _⟩ := hd1
    rw [q] at e2
    rw [hod] at e2; cases e2
    exact notCoD hdd ic
  refine hQ _ _ kk ?_
  simp only [Rp]
  refine ⟨s.heap.objs.size, kvs, rfl, fun q => ?_, ?_, hd', RpD.sub (fun a o e q => .inl q) _ _ (RpD.agr (fun b o hb n e => (hs'.2 b fun q => hb (.inr q)).trans e) _ _ a3), by rw [dk_length]; exact hF⟩
  · obtain ⟨o, e⟩ := hr.dom _ q
    rw [hfn] at e; cases e
  · obtain ⟨_, h0⟩ := (hr.base mainGlobals _ G.g.choose_spec.choose_spec.choose_spec.1).al
    have hlt : mainGlobals < s.heap.objs.size := Heap.lt_size h0
    have : (1 : Nat) < s.heap.objs.size := Nat.lt_of_le_of_lt (by decide) hlt
    exact beq_eq_false_iff_ne.mpr (Nat.ne_of_gt this)
theorem ExTo.body {ss ss' : List Stmt} {P : Out → Prop} (h : ss = ss') (hx : ExTo G k sc ρ ss' P) : ExTo G k sc ρ ss P := h ▸ hx
noncomputable def natL (xs : List Nat) : List PyData := xs.map fun z : Nat => .int (z : Int)
theorem EvTo.natC {n c : Nat} {pos : Pos} : EvTo G k sc ρ (.Constant (.int (n : Int)) c pos) (.int (n : Int)) := EvTo.intC
theorem EvTo.addN {l r : Expr} {pos : Pos} {a b : Nat} (ha : EvTo G k sc ρ l (.int (a : Int))) (hb : EvTo G k sc ρ r (.int (b : Int))) : EvTo G k sc ρ (.BinOp l .Add r pos) (.int ((a + b : Nat) : Int)) :=
  EvTo.cast (EvTo.add ha hb) (by rw [Int.natCast_add])
theorem EvTo.subN {l r : Expr} {pos : Pos} {a b : Nat} (ha : EvTo G k sc ρ l (.int (a : Int))) (hb : EvTo G k sc ρ r (.int (b : Int))) (h : b ≤ a) : EvTo G k sc ρ (.BinOp l .Sub r pos) (.int ((a - b : Nat) : Int)) :=
  EvTo.cast (EvTo.sub ha hb) (by rw [Int.ofNat_sub h])
theorem EvTo.mulN {l r : Expr} {pos : Pos} {a b : Nat} (ha : EvTo G k sc ρ l (.int (a : Int))) (hb : EvTo G k sc ρ r (.int (b : Int))) (hm : IntMulOk (a : Int) (b : Int)) : EvTo G k sc ρ (.BinOp l .Mult r pos) (.int ((a * b : Nat) : Int)) :=
  EvTo.cast (EvTo.mul ha hb hm) (by rw [Int.natCast_mul])
theorem EvTo.modN {l r : Expr} {pos : Pos} {a b : Nat} (ha : EvTo G k sc ρ l (.int (a : Int))) (hb : EvTo G k sc ρ r (.int (b : Int))) (h0 : b ≠ 0) : EvTo G k sc ρ (.BinOp l .Mod r pos) (.int ((a % b : Nat) : Int)) :=
  EvTo.cast (EvTo.fmod ha hb (by lia)) (by rw [Int.fmod_eq_emod_of_nonneg _ (by lia)]; rfl)
theorem EvTo.divN {l r : Expr} {pos : Pos} {a b : Nat} (ha : EvTo G k sc ρ l (.int (a : Int))) (hb : EvTo G k sc ρ r (.int (b : Int))) (h0 : b ≠ 0) (hs : b.log2 < 9000) : EvTo G k sc ρ (.BinOp l .FloorDiv r pos) (.int ((a / b : Nat) : Int)) :=
  EvTo.cast (EvTo.fdiv ha hb (by lia) (by simpa using hs)) (by rw [Int.fdiv_eq_ediv_of_nonneg _ (by lia)]; rfl)
theorem EvTo.powN {l r : Expr} {pos : Pos} {a b : Nat} (ha : EvTo G k sc ρ l (.int (a : Int))) (hb : EvTo G k sc ρ r (.int (b : Int))) (hs : (Builtin.Int.intBits (a : Int) : Int) * b ≤ 2 ^ 27) : EvTo G k sc ρ (.BinOp l .Pow r pos) (.int ((a ^ b : Nat) : Int)) :=
  EvTo.cast (EvTo.pow ha hb (by lia) hs) (by rw [Int.toNat_natCast, Int.natCast_pow])
theorem EvTo.itemNat {e i : Expr} {pos : Pos} {xs : List Nat} {n v : Nat} (he : EvL G k sc ρ e (natL xs)) (hi : EvTo G k sc ρ i (.int (n : Int))) (hd : xs[n]? = some v)
    (hs : ∀ o i', subscripted i false o i' = operate [o, i'] (getItem o i')) : EvTo G k sc ρ (.Subscript e i pos) (.int (v : Int)) :=
  EvTo.item he hi (by lia) (by rw [Int.toNat_natCast]; unfold natL; rw [List.getElem?_map, hd]; rfl) hs
variable {ρ' : VEnv}
theorem Step.cmpN {α : Type} {f g : α → PyData} {elt iter : Expr} {y z : Str} {p q pos spos : Pos} {xs : List α}
    (hc : compOk sc csc = true) (hρ : Filt csc ρ ρc) (hit : ItTo G k sc ρ (.Name y p) false iter (xs.map f)) (hs : ∀ env x, foldedSetIterable iter env x = pure x)
    (hy : OwnName csc y) (hn : NotIn y ρc) (he : ∀ x, x ∈ xs → EvTo G k csc ((y, .own (f x)) :: ρc) elt (g x)) (hl : xs.length ≤ lid) (hz : OwnName sc z) (hu : Upd z (.own (.list (xs.map g))) ρ ρ') :
    Step G k sc ρ (.Assign [.Name z q] (.ListComp elt [⟨.Name y p, iter, [], 0⟩] csc pos) spos) ρ' :=
  Step.assignComp (f := f) (o := fun x => [g x]) (b := .own (.list (xs.map g))) (.inr (by rw [flatMap_single])) hc hρ hit hs (fun x hx => .map1 (.nameNew hy hn) (fun q h => List.mem_cons_of_mem _ h) (he x hx)) (by rw [flatMap_single]; simpa using hl) hz hu
theorem Step.cmpIfN {α : Type} {f g : α → PyData} {elt iter c : Expr} {y z : Str} {p q pos spos : Pos} {xs : List α} {b : α → Bool}
    (hc : compOk sc csc = true) (hρ : Filt csc ρ ρc) (hit : ItTo G k sc ρ (.Name y p) false iter (xs.map f)) (hs : ∀ env x, foldedSetIterable iter env x = pure x)
    (hy : OwnName csc y) (hn : NotIn y ρc) (hp : ∀ x, x ∈ xs → TrTo G k csc ((y, .own (f x)) :: ρc) c (b x)) (he : ∀ x, x ∈ xs → b x = true → EvTo G k csc ((y, .own (f x)) :: ρc) elt (g x)) (hl : xs.length ≤ lid) (hz : OwnName sc z) (hu : Upd z (.own (.list ((xs.filter b).map g))) ρ ρ') :
    Step G k sc ρ (.Assign [.Name z q] (.ListComp elt [⟨.Name y p, iter, [c], 0⟩] csc pos) spos) ρ' :=
  Step.assignComp (f := f) (o := fun x => if b x then [g x] else []) (b := .own (.list ((xs.filter b).map g))) (.inr (by rw [flatMap_if])) hc hρ hit hs (fun x hx => .if1 (.nameNew hy hn) (fun q h => List.mem_cons_of_mem _ h) (hp x hx) (he x hx)) (by rw [flatMap_if, List.length_map]; exact Nat.le_trans (List.length_filter_le _ _) hl) hz hu
theorem Step.tupSwN {ts es : List Expr} {c c' : Nat} {p p' pos : Pos} {ys : List Str} {bs : List B} (he : EvIts G k sc ρ es bs) (hts : Names ts ys) (hu : UpdAll sc ys.reverse bs.reverse ρ ρ') (hk : sc.kind = .function) (hw : swappedStores [.Tuple ts c p] (.Tuple es c' p') (envOf sc) = pure (some ys)) (hl : bs.length ≤ lid) :
    Step G k sc ρ (.Assign [.Tuple ts c p] (.Tuple es c' p') pos) ρ' := Step.tupSw he hu hk hw hl
end
end
section
theorem fm_congr {α β : Type} {f g : α → Option β} : ∀ {l : List α}, (∀ x, x ∈ l → f x = g x) → l.filterMap f = l.filterMap g
  | [], _ => rfl
  | x :: l, h => by
    rw [List.filterMap_cons, List.filterMap_cons, h x List.mem_cons_self, fm_congr fun y hy => h y (List.mem_cons_of_mem _ hy)]
theorem filt_range {α : Type} : ∀ (l : List α) (c : Nat), (List.range c).filterMap (fun k => l[k]?) = l.take c
  | _, 0 => by simp
  | [], c + 1 => by
    have : (List.range (c + 1)).filterMap (fun k => ([] : List α)[k]?) = [] := by
      rw [List.filterMap_eq_nil_iff]; intro a _; simp
    simpa using this
  | x :: l, c + 1 => by
    rw [List.range_succ_eq_map, List.filterMap_cons, List.filterMap_map]
    simp only [List.getElem?_cons_zero, List.take_succ_cons]
    congr 1
    have := filt_range l c
    rw [← this]
    refine fm_congr fun k _ => ?_
    simp [Function.comp]
theorem filt_range_from {α : Type} (l : List α) (a c : Nat) : (List.range c).filterMap (fun k => l[a + k]?) = (l.drop a).take c := by
  rw [← filt_range]
  refine fm_congr fun k _ => ?_
  rw [List.getElem?_drop]
theorem range_one (a b : Nat) : sliceRange (a : Int) (b : Int) 1 = (List.range (b - a)).map fun k => a + k := by
  unfold sliceRange
  simp only [show (1 : Int) > 0 by decide, if_true]
  have e : (if (a : Int) < b then ((b : Int) - a + 1 - 1) / 1 else 0).toNat = b - a := by split <;> lia
  rw [e]
  refine List.map_congr_left fun k _ => ?_
  lia
theorem pick_one {ds : List PyData} {a b : Nat} (hb : b ≤ ds.length) : (sliceRange (a : Int) (b : Int) 1).filterMap (ds[·]?) = (ds.drop a).take (b - a) := by
  rw [range_one, List.filterMap_map]
  exact filt_range_from ds a (b - a)
theorem pick_to (ds : List PyData) (a : Nat) : pickL ds none (some (a : Int)) none = ds.take a := by
  unfold pickL sliceBounds
  simp only [Option.getD_none, show (1 : Int) > 0 by decide, if_true]
  have h0 : ¬ ((a : Int) < 0) := by lia
  simp only [h0, if_false]
  have e : max (0 : Int) (min (a : Int) (ds.length : Int)) = ((min a ds.length : Nat) : Int) := by lia
  rw [e, show (0 : Int) = ((0 : Nat) : Int) from rfl, pick_one (Nat.min_le_right _ _), List.drop_zero, Nat.sub_zero]
  rcases Nat.le_total a ds.length with h | h
  · rw [Nat.min_eq_left h]
  · rw [Nat.min_eq_right h, List.take_of_length_le (Nat.le_refl _), List.take_of_length_le h]
section
variable {prog : Program} {w : World} {G : Gl prog w} {k : Nat} {sc csc : Scope} {ρ ρc ρ' : VEnv}
theorem EvTo.takeL {e a : Expr} {p pos : Pos} {ds : List PyData} {n : Nat} (he : EvL G k sc ρ e ds) (ha : EvTo G k sc ρ a (.int (n : Int))) : EvTo G k sc ρ (.Subscript e (.Slice none (some a) none p) pos) (.list (ds.take n)) :=
  EvTo.cast (EvTo.sliceL he .none (.some ha) .none (by decide)) (by rw [pick_to])
theorem sum_cast : ∀ xs : List Nat, (xs.map fun n : Nat => (n : Int)).sum = ((xs.sum : Nat) : Int)
  | [] => rfl
  | x :: xs => by simp [sum_cast xs]
theorem EvTo.sumN {x : Str} {p pos : Pos} {e : Expr} {ns : List Nat} (hx : sc.names.lookup x = some .globalImplicit) (hm : G.mg x = none) (hb : G.mb x = some (.builtin "sum")) (he : EvTo G k sc ρ e (.list (natL ns))) (hn : NotStar e) :
    EvTo G k sc ρ (.Call (.Name x p) [e] [] pos) (.int ((ns.sum : Nat) : Int)) :=
  EvTo.cast (EvTo.sum (ns := ns.map fun n : Nat => (n : Int)) hx hm hb (EvTo.cast he (by unfold natL; rw [List.map_map]; rfl)) hn) (by rw [sum_cast])
theorem EvTo.sliceX {e : Expr} {l u : Option Expr} {p pos : Pos} {x : Str} {lo hi : Option Int} (he : EvTo G k sc ρ e (.str x)) (hl : PartTo G k sc ρ l lo) (hu : PartTo G k sc ρ u hi) (hsz : x.length ≤ sizeLine) :
    EvTo G k sc ρ (.Subscript e (.Slice l u none p) pos) (.str (Txt.slice x lo hi)) := by
  intro A env M s Q E ho hv hr hQ
  refine Subscript_ (he A env M s _ _ ho hv hr fun v s1 k1 r1 => wpAny_Slice (hl.run ho hv (hr.keeps k1) fun vl s2 k2 p2 => hu.run ho hv (hr.keeps (k1.trans k2)) fun vu s3 k3 p3 => PartTo.none.run ho hv (hr.keeps ((k1.trans k2).trans k3)) fun vst s4 k4 p4 => ?_))
  simp only [Rp] at r1
  obtain ⟨t, rfl⟩ := r1
  have part : ∀ {v : Value} {n : Option Int}, IsPart v n → ∃ q : Option (Int × Tok), v = partValue q ∧ q.map (·.1) = n := fun h => by
    cases h with
    | none => exact ⟨none, rfl, rfl⟩
    | int i t => exact ⟨some (i, t), rfl, rfl⟩
  obtain ⟨q1, rfl, f1⟩ := part p2
  obtain ⟨q2, rfl, f2⟩ := part p3
  cases p4
  obtain ⟨ops, hs⟩ := sub_slice_ops l u none p (.str x t) (.ref s4.heap.objs.size)
  have kk := ((k1.trans k2).trans k3).trans k4
  have key := post_val_or_str (s := { s4 with heap := s4.heap.push { cls := .type "slice", data := .fields #[partValue q1, partValue q2, .none] } }) (c := ((1 : Int) == 1 && (Builtin.Str.strSliceIndices lo hi 1 x.length).length == x.length) = true) (y := x) (z := ⟨((Builtin.Str.strSliceIndices lo hi 1 x.length).filterMap (x.cps[·]?)).toArray⟩) (t := t) (Q := Q)
    ⟨Nat.le_trans (Txt.slice_le x lo hi) hsz, fun t' k5 => hQ (.str (Txt.slice x lo hi) t') _ (kk.trans (Kp.push _ k5)) (by simp [Rp])⟩
  refine tail_any (T := "str") (ops := ops) (typeIs_str _ _ _) F.slot_str_getitem.lookup (wpAny_getItem_str_slice (l := q1) (u := q2) (st := none) ⟨_, Heap.get?_push_size _ rfl, rfl, rfl⟩ rfl ?_) hs
  unfold sliceMade slicePicked
  rw [f1, f2]
  exact key
end
end
section
set_option autoImplicit false
theorem lay_ints : ∀ (ts : List Int), PyData.canLayAll0 (ts.map .int) = true ∧ PyData.depthAll (ts.map .int) = 0
  | [] => ⟨rfl, rfl⟩
  | t :: ts => by
    have ih := lay_ints ts
    simp only [List.map_cons, PyData.canLayAll0, PyData.canLay0, ih.1, PyData.depthAll, PyData.depth, ih.2, Bool.and_self, Nat.max_self, and_self]
theorem natL_ints (xs : List Nat) : natL xs = (xs.map fun n : Nat => (n : Int)).map .int := by unfold natL; rw [List.map_map]; rfl
section
variable {prog : Program} {w : World} {G : Gl prog w} {k : Nat} {sc csc : Scope} {ρ ρc ρ' : VEnv}
theorem CmpOk.neSelf {d : PyData} (h : d.canLay0 = true) (hd : d.depth ≤ 64) : CmpOk G k .NotEq d d false := by
  have := CmpOk.neD (G := G) (k := k) h h hd
  rw [PySem.SeqAt.eqv_refl d h] at this
  exact this
theorem CmpOk.neInts {ts : List Int} : CmpOk G k .NotEq (.list (ts.map .int)) (.list (ts.map .int)) false :=
  .neSelf (by simp only [PyData.canLay0]; exact (lay_ints ts).1) (by simp only [PyData.depth, (lay_ints ts).2]; decide)
theorem CmpOk.neNats {ts : List Nat} : CmpOk G k .NotEq (.list (natL ts)) (.list (natL ts)) false := by rw [natL_ints]; exact .neInts
theorem CmpOk.nePairs {ts : List Int} : CmpOk G k .NotEq (.tuple (ts.map .int)) (.tuple (ts.map .int)) false :=
  .neSelf (by simp only [PyData.canLay0]; exact (lay_ints ts).1) (by simp only [PyData.depth, (lay_ints ts).2]; decide)
theorem ExTo.skipIf {test : Expr} {body rest : List Stmt} {pos : Pos} {P : Out → Prop} (hc : TrTo G k sc ρ test false) (h : ExTo G k sc ρ rest P) : ExTo G k sc ρ (.If test body [] pos :: rest) P :=
  ExTo.ite (P1 := fun o => o = .next ρ) hc (fun q => by cases q) (fun _ => ExTo.nil rfl) (fun ρ' e => by cases e; exact h) (fun d e => by cases e)
end
end
section
set_option autoImplicit false
noncomputable def cut (h : Heap) (a : Addr) : Heap := h.update a fun o => { o with data := .freed }
theorem cut_none (h : Heap) (a : Addr) : (cut h a).get? a = none := by
  cases e : (cut h a).get? a with
  | none => rfl
  | some o =>
    obtain ⟨h1, h2⟩ := Heap.get?_some_iff.mp e
    exfalso
    cases h with
    | mk objs =>
      simp only [cut, Heap.update, Array.getElem?_modify, if_true] at h1
      rw [Option.map_eq_some_iff] at h1
      obtain ⟨o', _, rfl⟩ := h1
      simp [Obj.isFreed] at h2
theorem cut_other {h : Heap} {a b : Addr} (n : b ≠ a) : (cut h a).get? b = h.get? b := Heap.get?_update_other h _ (Ne.symm n)
theorem cut_some {h : Heap} {a b : Addr} {o : Obj} (e : (cut h a).get? b = some o) : b ≠ a ∧ h.get? b = some o := by
  have n : b ≠ a := fun q => by rw [q, cut_none] at e; cases e
  exact ⟨n, by rw [← cut_other n]; exact e⟩
theorem dict_notCo {o : Obj} {es n} (h : o.data = .dict es n) : ¬ IsCo o := fun ⟨_, vs, q⟩ => by rw [h] at q; cases q
theorem Gr.stays {T : TabS} {base h : Heap} {b : Addr} {o : Obj} (g : Gr T base b o) (k : base.StaysIn h) : Gr T h b o := g.trans (fun c o' _ e => .inl (k c o' e)) fun o' e => .inl (k b o' e)
structure SK (T : TabS) (L : Addr) (s s' : Shared) : Prop where
  same : ∃ h t, s' = { s with heap := h, toks := t }
  gr : ∀ b o, b ≠ L → s.heap.get? b = some o → Gr T s'.heap b o
  sl : ∀ o, s.heap.get? L = some o → ∃ sl, s'.heap.get? L = some { o with slots := sl }
section
variable {prog : Program} {w : World} {G : Gl prog w} {k : Nat} {sc : Scope} {ρ ρ' : VEnv}
theorem St.slots {env : Env} {M0 L Wc Z : Addr → Prop} {s0 s s' : Shared} (t : St G sc env M0 L Wc Z s0 ρ s) (k : SK G.T env.locals s s') : St G sc env M0 L Wc Z s0 ρ s' := by
  obtain ⟨oL, es, ep, hL, hLd⟩ := t.fm.locNs
  obtain ⟨slL, hL'⟩ := k.sl oL hL
  have kb : KB G.T (· = env.locals) s s' := ⟨k.same, fun b o hb e => k.gr b o hb e, fun b o i e => by
    by_cases hb : b = env.locals
    · subst hb; rw [hL] at e; cases e; exact absurd i (dict_notCo hLd)
    · exact (k.gr b o hb e).nt i.nt⟩
  have kbW : KB G.T Wc s s' := ⟨k.same, fun b o hb e => k.gr b o (fun q => hb (q ▸ t.fm.fe.wl)) e, kb.co⟩
  have ns : ∀ m, s.heap.Ns env.locals m → s'.heap.Ns env.locals m := fun m hm => by
    obtain ⟨o, es', ep', ho, hd, r⟩ := hm
    obtain ⟨sl, h'⟩ := k.sl o ho
    exact ⟨_, es', ep', h', hd, r⟩
  have hcl : ∀ x c, env.cells.lookup x = some c → ∀ vo, s.heap.IsCell c vo → s'.heap.IsCell c vo := fun x c hc vo hi => by
    obtain ⟨o, ho, hd⟩ := hi
    have hne : c ≠ env.locals := fun q => by rw [q, hL] at ho; cases ho; rw [hLd] at hd; cases hd
    exact ⟨o, (k.gr c o hne ho).nt (.cell hd), hd⟩
  have hacc : ∀ x u, Acc env s.heap x u → Acc env s'.heap x u := fun x u a => by
    rcases a with ⟨a, m, b, c⟩ | ⟨a, c, b, d⟩
    · exact .inl ⟨a, m, ns m b, c⟩
    · exact .inr ⟨a, c, b, hcl x c b _ d⟩
  have f := t.fm
  refine t.next ⟨⟨?_, f.fe.wl, ?_, ?_⟩, ⟨?_, ?_, fun x b hx => ER.kb f kbW (fun u => hacc x u) (f.vr.ent x b hx), f.vr.cel, f.vr.nd⟩, f.sub, f.nb, fun x b hx hb => ?_, f.cz, f.zs⟩ (t.kpW kb fun b hb => .inl (hb ▸ f.fe.wl)) fun x b hx hb => ⟨hx, fun u => hacc x u⟩
  · obtain ⟨m, hm⟩ := f.fe.loc; exact ⟨m, ns m hm⟩
  · intro x hx
    obtain ⟨a, c, vo, h1, h2, r⟩ := f.fe.cel x hx
    exact ⟨a, c, vo, h1, hcl x c h1 _ h2, r⟩
  · intro a o ha e
    by_cases hb : a = env.locals
    · exact .inl hb
    · obtain ⟨o', e'⟩ := f.vr.dom a (f.sub a ha)
      have e2 := (k.gr a o' hb e').nt (f.fe.nt ha e')
      rw [e2] at e; cases e
      exact f.fe.wdata a o ha e'
  · intro b o e
    have hb : b ≠ env.locals := fun q => by rw [q, f.nb _ f.fe.wl] at e; cases e
    exact (f.vr.base b o e).trans kb.code fun o' e' => k.gr b o' hb e'
  · intro a ha
    by_cases hb : a = env.locals
    · exact ⟨_, hb ▸ hL'⟩
    · obtain ⟨o, e⟩ := f.vr.dom a ha; exact (k.gr a o hb e).al
  · obtain ⟨a, h1, h2⟩ := f.ym x b hx hb
    exact ⟨a, hacc x _ h1, h2⟩
structure Come (G : Gl prog w) (env : Env) (X : String) (s s' : Shared) (e : Addr) : Prop where
  fl : ∃ base a0, Heap.FlyingW base [env] e (.type X) a0 s'.heap ∧ ∀ b o, b ≠ env.locals → s.heap.get? b = some o → Gr G.T base b o
  same : ∃ h t, s' = { s with heap := h, toks := t }
  sl : ∀ o, s.heap.get? env.locals = some o → ∃ sl, s'.heap.get? env.locals = some { o with slots := sl }
theorem raise_call {name : Str} {params : Arguments} {body : List Stmt} {ps : List Str} (hD : DefAt G name params body sc) (hs : fnOk sc ps = true)
    (hbind : ∀ (pm c doc : Value) (vs : List Value), vs.length = ps.length → bindArgs (Calls.docDef name params body sc pm c doc) ⟨vs, []⟩ = pure (ps.zip vs))
    {test : Expr} {orelse rest : List Stmt} {x : Str} {np rpos ipos : Pos} {X N I : String} (hb : body = .If test [.Raise (some (.Name x np)) none rpos] orelse ipos :: rest)
    (hx : sc.names.lookup x = some .globalImplicit) (hmx : G.mg x = none) (hmb : G.mb x = some (.type X)) (hc : ExcClass X N I) :
    ∃ a, G.mg name = some (.ref a) ∧ (∃ o fd, G.hB.get? a = some o ∧ o.data = .func fd) ∧
      ∀ (A : Around) (M : Addr → Prop) (s : Shared) (vs : List Value) (ds : List PyData) (Q : Value → Shared → Prop) (E : Value → Shared → Prop) (env : Env), Ok (k + 1) A →
        (∀ b o, G.hB.get? b = some o → Gr G.T s.heap b o) → (∀ a, M a → ∃ o, s.heap.get? a = some o) → RpL prog w s.heap M ds vs → ds.length = ps.length →
        TrTo G k sc (ps.zip (ds.map B.own)) test true → A.frames = some [env] → env.scope.kind ≠ .module → env.frame = some env.locals → (∃ o es n, s.heap.get? env.locals = some o ∧ o.data = .dict es n) →
        (∀ s' e, Come G env X s s' e → E (.ref e) s') → wpAny (model prog w) A (call (.ref a) vs) Q E s := by
  obtain ⟨a, hm, hfd, hcall⟩ := call_body (k := k) hD hs hbind
  refine ⟨a, hm, hfd, fun A M s vs ds Q E env ho hbase hdom hr hlen ht hfr0 hkm hfe hdict hE => hcall A M s vs ds Q E ho hbase hdom hr hlen fun cenv s1 c' Wc Q' E' _ _ _ hfr hsc hvc hok hnew kp wn st hq he => ?_⟩
  subst hb
  obtain ⟨oL, esL, nL, hL, hLd⟩ := hdict
  refine wpAny_execs_cons ?_
  rw [exec_If]
  refine wpAny_bind (wpAny_standAt (wpAny_bind (ht (A.deeper cenv) cenv _ s1 _ _ hok hvc st.fm.vr fun s2 k2 => ?_)))
  simp only [if_true]
  have v2 := st.fm.vr.keeps k2
  have k02 := kp.trans k2
  refine wpAny_execs_cons (Raise_classB hok.hh hc hc.self ?_ fun h' e hn => ?_)
  · have hgx := hvc.kindG x hx
    exact Calls.Name_function_global hvc.kind hgx (Calls.loadGlobal_builtin (hvc.glob ▸ Nsp.gr G.g (v2.bnt _)) hmx (hvc.blt ▸ Nsp.gr G.b (v2.bnt _)) hmb ⟨rfl, rfl⟩) (hvc.dbg (by rw [hgx]; simp))
  · refine he _ _ ?_
    obtain ⟨ob, t0, he1, hcl, hd⟩ := hn.there
    have hne : env.locals ≠ cenv.locals := fun q => by rw [q, hnew] at hL; cases hL
    have hL2 : s2.heap.get? env.locals = some oL := (k02.tk _ _ hL).nt (.dict hLd)
    have hL3 : h'.get? env.locals = some oL := hn.keeps _ _ hL2
    obtain ⟨m1, hm1⟩ := st.fm.fe.loc
    have hm2 : s2.heap.Ns cenv.locals m1 := Nsp.gr hm1 (k2.nt _)
    obtain ⟨oc, ec, pc, hoc, hdc, _⟩ := id hm2
    have hbs : ∀ b o, (cut (cut s2.heap env.locals) cenv.locals).get? b = some o → b ≠ cenv.locals ∧ b ≠ env.locals ∧ s2.heap.get? b = some o := fun b o e => by
      obtain ⟨n1, e1⟩ := cut_some e
      obtain ⟨n2, e2⟩ := cut_some e1
      exact ⟨n1, n2, e2⟩
    have hbo : ∀ b o, b ≠ cenv.locals → b ≠ env.locals → s2.heap.get? b = some o → (cut (cut s2.heap env.locals) cenv.locals).get? b = some o := fun b o n1 n2 e => by
      rw [cut_other n1, cut_other n2]; exact e
    have hl : h'.FunFrames (cut (cut s2.heap env.locals) cenv.locals) (cenv :: [env]) :=
      Heap.FunFrames.cons (by rw [hvc.kind]; decide) hfr (hm2.keeps hn.keeps) (cut_none _ _) ⟨hkm, ⟨env.locals, oL, hfe, by rw [cut_other hne, cut_none], hL3, fun vs q => by rw [hLd] at q; cases q⟩, trivial⟩
    refine wpAny_leaving_firstW (base := cut (cut s2.heap env.locals) cenv.locals) (a0 := t0) (Around.frames_deeper hfr0) hl hfr he1 (fun b o e => hn.keeps b o (hbs b o e).2.2) ?_ hd rfl rfl fun h'' hLf => ?_
    · cases q : (cut (cut s2.heap env.locals) cenv.locals).get? e with
      | none => rfl
      | some o => have := (hbs e o q).2.2; rw [hn.new] at this; cases this
    · obtain ⟨k1, ⟨_, _, kf⟩, kt, ku⟩ := hLf
      rw [hcl] at kt
      refine hE _ e ⟨⟨cut (cut s2.heap env.locals) cenv.locals, t0, ⟨k1, ?_, kf, kt⟩, fun b o hb ho' => ?_⟩, ?_, fun o ho' => ?_⟩
      · cases q : (cut (cut s2.heap env.locals) cenv.locals).get? e with
        | none => rfl
        | some o => have := (hbs e o q).2.2; rw [hn.new] at this; cases this
      · have hb2 : b ≠ cenv.locals := fun q => by rw [q, hnew] at ho'; cases ho'
        refine (k02.tk b o ho').trans (fun c o' ic e' => .inl (hbo c o' (fun q => ?_) (fun q => ?_) e')) fun o' e' => .inl (hbo b o' hb2 hb e')
        · rw [q, hoc] at e'; cases e'; exact dict_notCo hdc ic
        · rw [q, hL2] at e'; cases e'; exact dict_notCo hLd ic
      · obtain ⟨hh, tt, q⟩ := k02.same
        exact ⟨h'', tt, by rw [q]⟩
      · rw [hL] at ho'; cases ho'
        exact ku _ _ hL3 fun vs q => by rw [hLd] at q; cases q
theorem sk_slots {h h' : Heap} {L : Addr} {o : Obj} (u : h.UpToSlots h') (hd : ∀ vs, o.data ≠ .fields vs) {sl : Array (Option Value)} (e : h.get? L = some { o with slots := sl }) : ∃ sl', h'.get? L = some { o with slots := sl' } := by
  obtain ⟨sl', e'⟩ := u L _ e hd
  exact ⟨sl', e'⟩
theorem Try_call {A : Around} {env : Env} {M0 L Wc Z : Addr → Prop} {s0 s : Shared} {X N I : String} {fn x y : Str} {fp cp ep xp yp bp ap hp pos : Pos} {es : List Expr} {ds : List PyData} {nb : Nat} {Q : Flow → Shared → Prop} {E : Value → Shared → Prop}
    (ho : Ok k A) (hv : EnvOk sc env) (t : St G sc env M0 L Wc Z s0 ρ s) (hfr : A.frames = some [env]) (hfe : env.frame = some env.locals)
    (hcall : ∃ a, G.mg fn = some (.ref a) ∧ (∃ o fd, G.hB.get? a = some o ∧ o.data = .func fd) ∧
      ∀ (A : Around) (M : Addr → Prop) (s : Shared) (vs : List Value) (Q : Value → Shared → Prop) (E : Value → Shared → Prop) (env : Env), Ok k A →
        (∀ b o, G.hB.get? b = some o → Gr G.T s.heap b o) → (∀ a, M a → ∃ o, s.heap.get? a = some o) → RpL prog w s.heap M ds vs →
        A.frames = some [env] → env.scope.kind ≠ .module → env.frame = some env.locals → (∃ o es n, s.heap.get? env.locals = some o ∧ o.data = .dict es n) →
        (∀ s' e, Come G env X s s' e → E (.ref e) s') → wpAny (model prog w) A (call (.ref a) vs) Q E s)
    (hfn : sc.names.lookup fn = some .globalImplicit) (ha : EvAll G k sc ρ es ds) (hs1 : ∀ env, swapsWith (.Call (.Name fn fp) es [] cp) none ep.line env = pure false)
    (hx : sc.names.lookup x = some .globalImplicit) (hmx : G.mg x = none) (hmb : G.mb x = some (.type X)) (hc : ExcClass X N I) (hnt : isSubtype (.type ((Manifest.find? X).elim "type" fun x => x.metatype)) (.type "tuple") = pure false)
    (hy : OwnName sc y) (hu : Upd y (.own (.bool true)) ρ ρ') (hs2 : ∀ env, swapsWith (.Constant (.bool true) nb bp) (some (.Name y yp)) ap.line env = pure false)
    (hQ : ∀ s', St G sc env M0 L Wc Z s0 ρ' s' → Q .next s') :
    wpAny (model prog w) A (exec (.Try [.Expr (.Call (.Name fn fp) es [] cp) ep] [.ExceptHandler (some (.Name x xp)) none [.Assign [.Name y yp] (.Constant (.bool true) nb bp) ap] hp] [] [] pos) env) Q E s := by
  refine wpAny_Try_except (wpAny_execs_cons (Step.expr hv hs1 ?_))
  obtain ⟨a, hm, ⟨o, fd, hg, hd⟩, hcall⟩ := hcall
  have hgx := hv.kindG fn hfn
  have hr := t.fm.vr
  refine Call_Name rfl (Calls.Name_function_global hv.kind hgx (Calls.loadGlobal_global (hv.glob ▸ Nsp.gr G.g (hr.bnt _)) hm ?_) (hv.dbg (by rw [hgx]; simp)))
  refine Calls.callWith_function (o := o) (fd := fd) (ha.args ho hv hr fun vs s1 k1 r1 => ⟨⟨k1.nt _ _ (.func hd) (hr.bnt _ _ (.func hd) hg), hd⟩, ?_⟩)
  have hr1 := hr.keeps k1
  obtain ⟨oL, esL, nL, hL, hLd⟩ := t.fm.locNs
  have hL1 : s1.heap.get? env.locals = some oL := k1.nt _ _ (.dict hLd) hL
  have hnf : ∀ vs, oL.data ≠ .fields vs := fun vs q => by rw [hLd] at q; cases q
  refine hcall A _ s1 vs _ _ env ho hr1.base hr1.dom r1 hfr (by rw [hv.kind]; decide) hfe ⟨oL, esL, nL, hL1, hLd⟩ fun s2 e hcm => ?_
  obtain ⟨⟨base, a0, hfl, hgr⟩, hsame, hsl⟩ := hcm
  obtain ⟨sl2, e2⟩ := hsl oL hL1
  refine wpAny_looks_onW hfr hfe hfl fun h3 hh3 u3 => ?_
  obtain ⟨sl3, e3⟩ := sk_slots u3 hnf e2
  refine wpAny_landsW hh3 fun h4 hf4 u4 => ?_
  obtain ⟨sl4, e4⟩ := sk_slots u4 hnf e3
  have skOf : ∀ (h5 : Heap), base.StaysIn h5 → (∃ sl, h5.get? env.locals = some { oL with slots := sl }) → SK G.T env.locals s { s2 with heap := h5 } := fun h5 st5 e5 => by
    refine ⟨?_, fun b o' hb e' => ?_, fun o' e' => ?_⟩
    · obtain ⟨hh, tt, q⟩ := hsame
      obtain ⟨hh1, tt1, q1⟩ := k1.same
      exact ⟨h5, tt, by rw [q, q1]⟩
    · refine ((k1.tk b o' e').trans (fun c o2 ic ec => hgr c o2 (fun q => ?_) ec) fun o2 ec => hgr b o2 hb ec).stays st5
      rw [q, hL1] at ec; cases ec; exact dict_notCo hLd ic
    · rw [hL] at e'; cases e'; exact e5
  have t4 := t.slots (skOf h4 hf4.1 ⟨sl4, e4⟩)
  have hr4 := t4.fm.vr
  have hgx2 := hv.kindG x hx
  refine wpAny_handleBy_builtin (X := X) (T := X) (b := true) hc.base hnt hc.self (Calls.Name_function_global hv.kind hgx2 (Calls.loadGlobal_builtin (hv.glob ▸ Nsp.gr G.g (hr4.bnt _)) hmx (hv.blt ▸ Nsp.gr G.b (hr4.bnt _)) hmb ⟨rfl, ?_, ?_⟩) (hv.dbg (by rw [hgx2]; simp)))
  · obtain ⟨ob, he, hcls⟩ := hf4.there
    exact ⟨ob, he, hcls⟩
  · simp only [if_true]
    refine lands_againW hf4 fun h5 hf5 u5 => ?_
    obtain ⟨sl5, e5⟩ := sk_slots u5 hnf e4
    have t5 := t.slots (skOf h5 hf5.1 ⟨sl5, e5⟩)
    refine wpAny_execs_cons ?_
    rw [exec_Assign_Name env y yp _ ap (hs2 env)]
    refine wpAny_bind (wpAny_standAt (wpAny_bind (wpAny_pure ?_)))
    refine wpAny_bind (wpAny_standAt (wpAny_bind (wpAny_bindName (t5.storeOwn hv hy hu (v := .bool true) (by simp [Rp]) fun s6 k6 t6 => wpAny_pure (wpAny_execs_nil (hQ s6 t6))))))
end
theorem wp_execs_append (M : Model) (Γ : Ctx) (env : Env) (b : List Stmt) (Q : Flow → Pos → Shared → Prop) (E : Value → Pos → Shared → Prop) : ∀ (a : List Stmt) (p : Pos) (s : Shared),
    Sem.wp M Γ (execs a env) (fun f p' s' => match f with | .next => Sem.wp M Γ (execs b env) Q E p' s' | f => Q f p' s') E p s → Sem.wp M Γ (execs (a ++ b) env) Q E p s
  | [], p, s, h => h
  | st :: a, p, s, h => by
    rw [List.cons_append, execs_cons, Sem.wp_bind']
    rw [execs_cons, Sem.wp_bind'] at h
    refine Sem.wp_mono M Γ _ (fun f p' s' h' => ?_) (fun _ _ _ h' => h') _ _ h
    cases f <;> first | exact wp_execs_append M Γ env b Q E a p' s' h' | exact h'
theorem wpAny_execs_append {M : Model} {A : Around} {env : Env} {a b : List Stmt} {Q : Flow → Shared → Prop} {E : Value → Shared → Prop} {s : Shared}
    (h : wpAny M A (execs a env) (fun f s' => match f with | .next => wpAny M A (execs b env) Q E s' | f => Q f s') E s) : wpAny M A (execs (a ++ b) env) Q E s := fun Γ p hΓ => by
  refine wp_execs_append M Γ env b _ _ a p s (Sem.wp_mono M Γ _ (fun f p' s' h' => ?_) (fun _ _ _ h' => h') _ _ (h Γ p hΓ))
  cases f <;> first | exact h' Γ p' hΓ | exact h'
end
section
section
variable {prog : Program} {w : World} {G : Gl prog w} {k : Nat} {sc csc : Scope} {ρ ρ' ρc : VEnv}
section
variable {env : Env} {M0 L Wc Z : Addr → Prop} {s0 s s' : Shared}
theorem St.hide {x : Str} {a : Addr} {b : B} (t : St G sc env M0 L Wc Z s0 ρ s) (hx : (x, b) ∈ ρ) (hb : b.isMu) (ha : Acc env s.heap x (.ref a)) (hu : Upd x (.is (.ref a)) ρ ρ') :
    St G sc env M0 (fun c => L c ∨ c = a) Wc (fun c => Z c ∧ c ≠ a) s0 ρ' s := by
  obtain ⟨a', h1', hz⟩ := t.fm.ym _ _ hx hb
  cases ha.det h1'
  have hM : MM M0 Wc (fun c => Z c ∧ c ≠ a) (fun c => L c ∨ c = a) = MM M0 Wc Z L := funext fun c => propext ⟨fun h => by
      rcases h with h | h | h | h | h
      · exact .inl h
      · exact .inr (.inl h)
      · exact .inr (.inr (.inl h.1))
      · exact .inr (.inr (.inr h))
      · exact .inr (.inr (.inl (h ▸ hz))), fun h => by
      rcases h with h | h | h | h
      · exact .inl h
      · exact .inr (.inl h)
      · by_cases q : c = a
        · exact .inr (.inr (.inr (.inr q)))
        · exact .inr (.inr (.inl ⟨h, q⟩))
      · exact .inr (.inr (.inr (.inl h)))⟩
  have other : ∀ y b2 a2, (y, b2) ∈ ρ → y ≠ x → b2.isMu → Acc env s.heap y (.ref a2) → a2 ≠ a := fun y b2 a2 hy hne hb2 hac q => hne (t.ds y x b2 _ a hy hx hb2 hb (q ▸ hac) ha)
  refine ⟨⟨t.fm.fe, ⟨t.fm.vr.base, ?_, ?_, fun y c hc => .inr (.inl (t.cw y c hc)), hu.nodup t.fm.vr.nd⟩, fun b hb => .inr (.inl hb), t.fm.nb, ?_, fun y c hc => .inl (t.cw y c hc), fun b hb => .inr (.inr (.inl hb))⟩, t.kp, fun c hc => ?_, t.d0, t.b0, fun b hb => t.zw b hb.1, fun c hc q => ?_, fun c hc q => ?_, t.cw, ?_⟩
  · rw [hM]; exact t.fm.vr.dom
  · intro y b2 hy
    rw [hM]
    rcases hu.ent t.fm.vr.nd y b2 hy with ⟨rfl, rfl⟩ | ⟨hne, hy⟩
    · exact ha
    · exact t.fm.vr.ent y b2 hy
  · intro y b2 hy hb2
    rcases hu.ent t.fm.vr.nd y b2 hy with ⟨rfl, rfl⟩ | ⟨hne, hy⟩
    · cases hb2
    · obtain ⟨a2, q1, q2⟩ := t.fm.ym y b2 hy hb2
      exact ⟨a2, q1, q2, other y b2 a2 hy hne hb2 q1⟩
  · rcases hc with h | h | h | h
    · exact t.fr c (.inl h)
    · exact t.fr c (.inr (.inl h.1))
    · exact t.fr c (.inr (.inr h))
    · exact t.fr c (.inr (.inl (h ▸ hz)))
  · exact q.elim (t.zl c hc.1) hc.2
  · exact q.elim (t.wl c hc) fun q => t.zw a hz (q ▸ hc)
  · intro y z b1 b2 a2 hy hz' h1 h2 ay az
    rcases hu.ent t.fm.vr.nd y b1 hy with ⟨rfl, rfl⟩ | ⟨_, hy⟩
    · cases h1
    · rcases hu.ent t.fm.vr.nd z b2 hz' with ⟨rfl, rfl⟩ | ⟨_, hz'⟩
      · cases h2
      · exact t.ds y z b1 b2 a2 hy hz' h1 h2 ay az
theorem St.unhide {x : Str} {a : Addr} {L' : Addr → Prop} {items : Array Value} {ds : List PyData} (t : St G sc env M0 L' Wc Z s0 ρ s) (hL : ∀ c, L c → L' c) (ha' : L' a) (hna : ¬ L a) (hx : (x, .is (.ref a)) ∈ ρ) (hu : Upd x (.mu ds) ρ ρ')
    (hp : s.heap.PlainList a items) (hr : RpL prog w s.heap (MM M0 Wc (fun c => Z c ∨ c = a) L) ds items.toList) (hl : ds.length ≤ lid) : St G sc env M0 L Wc (fun c => Z c ∨ c = a) s0 ρ' s := by
  have ha : Acc env s.heap x (.ref a) := t.fm.vr.ent _ _ hx
  have hs : ∀ c, MM M0 Wc (fun c => Z c ∨ c = a) L c → MM M0 Wc Z L' c := fun c h => by
    rcases h with h | h | (h | h) | h
    · exact .inl h
    · exact .inr (.inl h)
    · exact .inr (.inr (.inl h))
    · exact .inr (.inr (.inr (h ▸ ha')))
    · exact .inr (.inr (.inr (hL c h)))
  have nZ : ¬ Z a := fun q => t.zl a q ha'
  have nW : ¬ Wc a := fun q => t.wl a q ha'
  have other : ∀ y b2 a2, (y, b2) ∈ ρ → b2.isMu → Acc env s.heap y (.ref a2) → a2 ≠ a := fun y b2 a2 hy hb2 hac q => by
    obtain ⟨a3, q1, q2⟩ := t.fm.ym y b2 hy hb2
    cases hac.det q1
    exact nZ (q ▸ q2)
  refine ⟨⟨t.fm.fe, ⟨t.fm.vr.base, fun c hc => t.fm.vr.dom c (hs c hc), ?_, fun y c hc => .inr (.inl (t.cw y c hc)), hu.nodup t.fm.vr.nd⟩, fun b hb => .inr (.inl hb), t.fm.nb, ?_, fun y c hc => .inl (t.cw y c hc), fun b hb => .inr (.inr (.inl hb))⟩, t.kp, fun c hc => ?_, t.d0, t.b0, fun c hc => hc.elim (t.zw c) (fun q => q ▸ nW), fun c hc q => hc.elim (fun h => t.zl c h (hL c q)) (fun h => hna (h ▸ q)), fun c hc q => t.wl c hc (hL c q), t.cw, ?_⟩
  · intro y b2 hy
    rcases hu.ent t.fm.vr.nd y b2 hy with ⟨rfl, rfl⟩ | ⟨hne, hy⟩
    · exact ⟨a, items, ha, .inr (.inr (.inl (.inr rfl))), hp, hr, hl⟩
    · have r := t.fm.vr.ent y b2 hy
      have ym := t.fm.ym y b2 hy
      cases b2 with
      | un => trivial
      | is v => exact r
      | own d => obtain ⟨v, q1, r⟩ := r; exact ⟨v, q1, Rp.sub (fun b o e => hs b) _ _ r⟩
      | mu ds =>
        obtain ⟨a2, its, q1, q2, q3, q4, q5⟩ := r
        obtain ⟨a3, q1', hz3⟩ := ym trivial
        cases q1.det q1'
        exact ⟨a2, its, q1, .inr (.inr (.inl (.inl hz3))), q3, RpL.sub (fun b o e => hs b) _ _ q4, q5⟩
      | mud D =>
        obtain ⟨a2, kvs, q1, q2, ql, q2', q3, q4, q5⟩ := r
        obtain ⟨a3, q1', hz3⟩ := ym trivial
        cases q1.det q1'
        exact ⟨a2, kvs, q1, .inr (.inr (.inl (.inl hz3))), ql, q2', q3, RpD.sub (fun b o e => hs b) _ _ q4, q5⟩
  · intro y b2 hy hb2
    rcases hu.ent t.fm.vr.nd y b2 hy with ⟨rfl, rfl⟩ | ⟨hne, hy⟩
    · exact ⟨a, ha, .inr rfl⟩
    · obtain ⟨a2, q1, q2⟩ := t.fm.ym y b2 hy hb2
      exact ⟨a2, q1, .inl q2⟩
  · rcases hc with h | (h | h) | h
    · exact t.fr c (.inl h)
    · exact t.fr c (.inr (.inl h))
    · exact t.fr c (.inr (.inr (h ▸ ha')))
    · exact t.fr c (.inr (.inr (hL c h)))
  · intro y z b1 b2 a2 hy hz' h1 h2 ay az
    rcases hu.ent t.fm.vr.nd y b1 hy with ⟨rfl, rfl⟩ | ⟨ny, hy⟩ <;> rcases hu.ent t.fm.vr.nd z b2 hz' with ⟨rfl, rfl⟩ | ⟨nz, hz'⟩
    · rfl
    · exfalso
      cases ay.det ha
      exact other z b2 _ hz' h2 az rfl
    · exfalso
      cases az.det ha
      exact other y b1 _ hy h1 ay rfl
    · exact t.ds y z b1 b2 a2 hy hz' h1 h2 ay az
end
theorem method_listI {A : Around} {env : Env} {M : Addr → Prop} {s : Shared} {x : Str} {a : Addr} {items : Array Value} {name : Str} {id : String} {px apos pos : Pos} {e : Expr} {b : B} {Q : Value → Shared → Prop} {E : Value → Shared → Prop}
    (ho : Ok k A) (hv : EnvOk sc env) (hr : VR G env M ρ s) (ha : Acc env s.heap x (.ref a)) (hp : s.heap.PlainList a items) (slot : Slot "list" name id) (hty : typeOf (.builtin id) = pure (.type "method_descriptor"))
    (hn : NotStar e) (he : EvIt G k sc ρ e b) (hline : (apos.endLine == pos.line) = true)
    (h : ∀ v s1 N, Kp G.T s s1 → (∀ a, N a → s.heap.get? a = none ∧ ∃ o, s1.heap.get? a = some o) → Its prog w s1.heap M N b v → wpAny (model prog w) A (call (.builtin id) [.ref a, v]) Q E s1) :
    wpAny (model prog w) A (eval (.Call (.Attribute (.Name x px) name apos) [e] [] pos) env) Q E s := by
  have e1 : backTo pos (starEach [e] env) = [(false, eval e env)] := by rw [backTo_cons hn]; rfl
  refine wpAny_Call_method_lateS rfl ?_ hline (ha.name hv ?_)
  · rw [e1]; rfl
  · obtain ⟨n, q⟩ := hp
    refine ⟨"list", id, PySem.F.plainAttrs_list, slot, hty, ⟨_, q, rfl⟩, (fun _ q => by cases q; exact ⟨_, ‹_›, rfl⟩), ?_⟩
    refine callWith_method1 ?_ (hn _ _) rfl
    rw [e1]
    refine Calls.spliced_cons (he A env M s _ _ ho hv hr fun v s1 N k1 hN r1 => Calls.spliced_nil (h v s1 N k1 (fun a ha => ⟨(hN a ha).1, (hN a ha).2.1⟩) r1))
end
end
section
section
variable {prog : Program} {w : World} {G : Gl prog w} {k : Nat} {sc csc : Scope} {ρ ρ' ρc : VEnv}
theorem str_rp {h h' : Heap} {M M' : Addr → Prop} {x : Str} {v : Value} (r : Rp prog w h M (.str x) v) : Rp prog w h' M' (.str x) v := by
  simp only [Rp] at r ⊢; exact r
theorem strs_free {h h' : Heap} {M M' : Addr → Prop} : ∀ {ts : List Str} {vs : List Value}, RpL prog w h M (ts.map .str) vs → RpL prog w h' M' (ts.map .str) vs
  | [], _, r => by simp only [List.map_nil, RpL] at r ⊢; exact r
  | t :: ts, _, r => by
    simp only [List.map_cons, RpL] at r ⊢
    obtain ⟨v, q, e, h1, h2⟩ := r
    exact ⟨v, q, e, str_rp h1, strs_free h2⟩
theorem ExTo.pushRow {α : Type} {f : α → PyData} {g : α → Str} {xs : List α} {x : Str} {ds : List PyData} {R : Addr → Nat → VEnv} {ρb ρc : Addr → Nat → α → VEnv} {t iter ie e : Expr} {pre rest : List Stmt} {px apos lp cpos spos p1 p2 ap cp sp pos : Pos} {P : Out → Prop}
    (hx : (x, .mu ds) ∈ ρ) (hline : (apos.endLine == cpos.line) = true) (hline2 : (ap.endLine == cp.line) = true)
    (hu : ∀ a, Upd x (.is (.ref a)) ρ (R a 0)) (hit : ∀ a, ItTo G k sc (R a 0) t true iter (xs.map f)) (hs : ∀ env x, foldedSetIterable iter env x = pure x)
    (hb : ∀ a i y, xs[i]? = some y → BindTo G k sc (R a i) t (f y) (ρb a i y))
    (hpre : ∀ a i y, xs[i]? = some y → ExTo G k sc (ρb a i y) pre (fun o => o = .next (ρc a i y)))
    (hat : ∀ a i y, xs[i]? = some y → (x, .is (.ref a)) ∈ ρc a i y)
    (hie : ∀ a i y, xs[i]? = some y → EvTo G k sc (ρc a i y) ie (.int ((ds.length : Nat) : Int)))
    (he : ∀ a i y, xs[i]? = some y → EvTo G k sc (ρc a i y) e (.str (g y))) (hn : NotStar e)
    (hbase : ∀ env, attributeBase (.Subscript (.Name x p1) ie p2) "append" env (eval (.Subscript (.Name x p1) ie p2) env) = eval (.Subscript (.Name x p1) ie p2) env)
    (hsub : ∀ o i', subscripted ie false o i' = operate [o, i'] (getItem o i'))
    (hw : ∀ a i y, xs[i]? = some y → Wkn (ρc a i y) (R a (i + 1))) (hfin : ∀ a, Upd x (.mu (ds ++ [.list ((xs.map g).map .str)])) (R a xs.length) ρ') (hat2 : ∀ a, (x, .is (.ref a)) ∈ R a xs.length)
    (hl : ds.length < lid) (hl2 : xs.length ≤ lid) (hrest : ExTo G k sc ρ' rest P) :
    ExTo G k sc ρ (.Expr (.Call (.Attribute (.Name x px) "append" apos) [.List [] lp] [] cpos) spos :: .For t iter (pre ++ [.Expr (.Call (.Attribute (.Subscript (.Name x p1) ie p2) "append" ap) [e] [] cp) sp]) [] pos :: rest) P := by
  intro A env M0 L Wc Z s0 s Q E ho hv tt hQ hR
  obtain ⟨a, items, ha, hm, h3, h4, h5⟩ := tt.fm.vr.ent _ _ hx
  obtain ⟨a', ha', hz⟩ := tt.fm.ym _ _ hx trivial
  cases ha.det ha'
  have hlen : items.size = ds.length := by simpa using h4.length
  refine wpAny_execs_cons (Step.expr hv (fun _ => rfl) (method_listI ho hv tt.fm.vr ha h3 PySem.slot_list_append PySem.type_list_append (fun _ _ => rfl) (EvIt.list (ds := []) .nil (Nat.zero_le _)) hline fun v s1 N k1 hN hi => ?_))
  obtain ⟨b, inn, rfl, hNb, hpb, hrb, _⟩ := hi
  have hinn : inn = #[] := by
    simp only [RpL] at hrb
    exact Array.toList_eq_nil_iff.mp hrb
  subst hinn
  obtain ⟨hbn, ob, hbo⟩ := hN b hNb
  have hal : ∃ o, s.heap.get? a = some o := by obtain ⟨n, e⟩ := h3; exact ⟨_, e⟩
  have hab : a ≠ b := fun q => by obtain ⟨o, e⟩ := hal; rw [q, hbn] at e; cases e
  have h3' := PL.gr h3 (k1.nt _)
  refine wpAny_list_append_plain h3' (fun h' hp' hs' => ?_) (by rw [hlen]; exact Nat.le_trans h5 lid_le)
  have kb1 : KB G.T (· = a) s1 { s1 with heap := h' } := .mk' ⟨h', s1.toks, rfl⟩ (fun c o hb e => (hs'.2 c hb).trans e) fun c o hb e => by
    obtain ⟨n, e0⟩ := id h3'
    rw [hb, e0] at e; cases e; exact notCoS rfl
  have hMb : ∀ c, MM M0 Wc Z L c → c ≠ b := fun c hc q => by obtain ⟨o, e⟩ := tt.fm.vr.dom c hc; rw [q, hbn] at e; cases e
  have t1 : St G sc env M0 (fun c => L c ∨ c = b) Wc Z s0 ρ s1 := tt.growL k1 (fun c hc => hc ▸ hbn) fun c hc => hc ▸ ⟨ob, hbo⟩
  have t2 := t1.hide hx trivial (ha.keeps k1.nt) (hu a)
  generalize hL' : (fun c => (L c ∨ c = b) ∨ c = a) = L' at t2
  have La : L' a := by rw [← hL']; exact .inr rfl
  have Lb : L' b := by rw [← hL']; exact .inl (.inr rfl)
  have LL : ∀ c, L c → L' c := fun c hc => by rw [← hL']; exact .inl (.inl hc)
  have t3 := t2.kbL kb1 (fun c hc => hc ▸ La) fun c hc => by subst hc; obtain ⟨n, e⟩ := hp'; exact ⟨_, e⟩
  generalize hs2 : ({ s1 with heap := h' } : Shared) = s2 at kb1 t3
  have hh2 : s2.heap = h' := by rw [← hs2]
  rw [← hh2] at hp'
  have hpb2 : s2.heap.PlainList b #[] := PL.gr hpb fun o n e => kb1.nt b o (fun q => hab q.symm) n e
  generalize hZ1 : (fun c => Z c ∧ c ≠ a) = Z1 at t2 t3
  have hr2 : RpL prog w s2.heap (MM M0 Wc Z1 L') ds items.toList := by
    have r1 := RpL.agr k1.agr _ _ h4
    have hsb : ∀ c o, s1.heap.get? c = some o → MM M0 Wc Z1 L' c → (MM M0 Wc Z L c ∨ c = b) := fun c o e q => by
      rw [← hZ1, ← hL'] at q
      rcases q with q | q | q | (q | q) | q
      · exact .inl (.inl q)
      · exact .inl (.inr (.inl q))
      · exact .inl (.inr (.inr (.inl q.1)))
      · exact .inl (.inr (.inr (.inr q)))
      · exact .inr q
      · exact .inl (.inr (.inr (.inl (q ▸ hz))))
    have r0 : RpL prog w s.heap (fun c => MM M0 Wc Z L c ∨ c = b) ds items.toList := RpL.sub (fun c o e q => q.elim id fun q => by rw [q, hbn] at e; cases e) _ _ h4
    exact RpL.agr (kb1.agr fun c hc => hc ▸ .inr (.inr (.inr La))) _ _ (RpL.sub hsb _ _ (RpL.agr k1.agr _ _ r0))
  refine wpAny_execs_cons (wpAny_For ?_ (hs env))
  refine hit a A env _ s2 _ _ ho hv t3.fm.vr fun I own Co h0' s3 k3 W hc0 hh1 hh2' hown => ?_
  let J : Addr → Prop := fun c => c = a ∨ c = b
  let X : Nat → Heap → Prop := fun i h => h.PlainList a (items.push (.ref b)) ∧ ∃ inn, h.PlainList b inn ∧ RpL prog w h (fun _ => False) (((xs.take i).map g).map .str) inn.toList
  have hXs : ∀ i h h', (∀ c o, J c → NT o → h.get? c = some o → h'.get? c = some o) → X i h → X i h' := fun i h h' hk hX => by
    obtain ⟨q1, inn, q2, q3⟩ := hX
    exact ⟨PL.gr q1 fun o n e => hk a o (.inl rfl) n e, inn, PL.gr q2 fun o n e => hk b o (.inr rfl) n e, strs_free q3⟩
  refine for_coreX (J := J) (X := X) (P := P) (ρb := ρb a) (R := R a) (Iv := fun _ => True) (fun c hc => hc.elim (fun q => q ▸ La) fun q => q ▸ Lb) ⟨hp', #[], hpb2, by simp only [List.take_zero, List.map_nil, RpL]⟩ hXs ho hv t3 (Wkn.refl _) trivial k3 W hc0 hh1 hh2' hown
    (fun i y hy _ => hb a i y hy) (fun i y hy _ Z3 L3 s4 Q3 E3 hL3 t4 hX4 hN hR3 => ?_) (fun d v s' hp hk hr => hR d v s' hp hk hr) fun Zn sn _ tn chn hXn => ?_
  · -- a turn
    have La3 := hL3 a La
    have Lb3 := hL3 b Lb
    refine wpAny_execs_append (hpre a i y hy A env M0 L3 Wc Z3 s0 s4 _ _ ho hv t4 (fun ρ5 Z5 s5 hp5 t5 ch5 => ?_) fun d v s' hp _ _ => by cases hp)
    cases hp5
    have jn : ∀ c, J c → ¬ (Wc c ∨ Z3 c) := fun c hc q => by
      have hc3 : L3 c := hc.elim (fun q => q ▸ La3) fun q => q ▸ Lb3
      exact q.elim (fun q => t4.wl c q hc3) fun q => t4.zl c q hc3
    obtain ⟨q1, inn, q2, q3⟩ := hXs i _ _ (fun c o hc n e => ch5.kb.nt c o (jn c hc) n e) hX4
    have hac5 : Acc env s5.heap x (.ref a) := t5.fm.vr.ent _ _ (hat a i y hy)
    have hni : inn.size = i := by
      have := q3.length
      have hi : i ≤ xs.length := Nat.le_of_lt (List.getElem?_eq_some_iff.mp hy).1
      simpa [Nat.min_eq_left hi] using this
    refine wpAny_execs_cons (Step.expr hv (fun _ => rfl) (method_any ho hv t5.fm.vr hbase PySem.F.plainAttrs_list PySem.slot_list_append PySem.type_list_append (.cons hn (he a i y hy) .nil) (by simp) hline2 ?_))
    refine Subscript_ (hac5.name hv (hie a i y hy A env _ s5 _ _ ho hv t5.fm.vr fun v s6 k6 r6 => ?_))
    simp only [Rp] at r6
    obtain ⟨tk, rfl⟩ := r6
    have q1' := PL.gr q1 (k6.nt _)
    have q2' := PL.gr q2 (k6.nt _)
    refine tail_any (T := "list") q1'.isList.typeIs slot_list_getitem.lookup (wpAny_getItem_list (x := .ref b) q1'.isList (Int.natCast_nonneg _) (by unfold lid at hl; lia) ?_ ?_) (hsub _ _)
    · rw [Int.toNat_natCast, ← hlen]; simp
    refine ⟨k6, q2'.isList.typeIs, (fun c q => by cases q; obtain ⟨n, e⟩ := q2'; exact ⟨_, e, rfl⟩), fun vs s7 k7 r7 => ?_⟩
    obtain ⟨u, rfl, ru⟩ := r7.one
    have q2'' := PL.gr q2' (k7.nt _)
    refine wpAny_list_append_plain q2'' (fun h8 hp8 hs8 => ?_) (by
      rw [hni]
      have hi : i ≤ xs.length := Nat.le_of_lt (List.getElem?_eq_some_iff.mp hy).1
      exact Nat.le_trans (Nat.le_trans hi hl2) lid_le)
    have kb8 : KB G.T (· = b) s7 { s7 with heap := h8 } := .mk' ⟨h8, s7.toks, rfl⟩ (fun c o hb e => (hs8.2 c hb).trans e) fun c o hb e => by
      obtain ⟨n, e0⟩ := id q2''
      rw [hb, e0] at e; cases e; exact notCoS rfl
    have t8 := ((t5.keeps k6).keeps k7).kbL kb8 (fun c hc => hc ▸ Lb3) fun c hc => by subst hc; obtain ⟨n, e⟩ := hp8; exact ⟨_, e⟩
    refine wpAny_execs_nil (hN _ Z5 _ (hw a i y hy) trivial t8 ?_ ⟨PL.gr (PL.gr q1' (k7.nt _)) fun o n e => kb8.nt a o (fun q => hab q) n e, _, hp8, ?_⟩)
    · refine (ch5.mono fun c h => .inl h).trans ⟨fun c h => .inl h, ((KB.of k6).trans (KB.of k7)).trans (kb8.mono fun c hc => .inl (.inr (.inr hc))), fun c o e => ?_⟩
      obtain ⟨o2, e2⟩ := (k6.trans k7).al e
      by_cases q : c = b
      · subst q; obtain ⟨n, e⟩ := hp8; exact ⟨_, e⟩
      · exact (kb8.tk c o2 q e2).al
    · rw [Array.toList_push]
      have e1 : xs.take (i + 1) = xs.take i ++ [y] := by rw [List.take_add_one, hy]; rfl
      rw [e1, List.map_append, List.map_append]
      exact RpL.append (strs_free q3) (RpL.cons (str_rp ru) RpL.nil)
  · -- behind the loop
    obtain ⟨q1, inn, q2, q3⟩ := hXn
    rw [List.take_length] at q3
    have hsub2 : ∀ c o, s2.heap.get? c = some o → (MM M0 Wc Z1 L' c ∨ Zn c) → MM M0 Wc Z1 L' c := fun c o e q => q.elim id fun q => (chn.zz c q).elim (fun q => .inr (.inr (.inl q))) fun q => by rw [q] at e; cases e
    have rn : RpL prog w sn.heap (fun c => MM M0 Wc Z1 L' c ∨ Zn c) ds items.toList := RpL.agr (chn.kb.agr fun c hc => by
      rcases hc with (hc | hc | hc) | hc
      · exact .inl (.inr (.inl hc))
      · exact .inl (.inr (.inr (.inr (hc ▸ La))))
      · exact .inl (.inr (.inr (.inr (hc ▸ Lb))))
      · exact .inl (.inr (.inr (.inl hc)))) _ _ (RpL.sub hsub2 _ _ hr2)
    have hM' : ∀ c, MM M0 Wc (fun c => Zn c ∨ c = a) L c → (MM M0 Wc Z1 L' c ∨ Zn c) := fun c h => by
      rcases h with h | h | (h | h) | h
      · exact .inl (.inl h)
      · exact .inl (.inr (.inl h))
      · exact .inr h
      · exact .inl (.inr (.inr (.inr (h ▸ La))))
      · exact .inl (.inr (.inr (.inr (LL c h))))
    have nb : ¬ MM M0 Wc (fun c => Zn c ∨ c = a) L b := fun h => by
      rcases h with h | h | (h | h) | h
      · exact hMb b (.inl h) rfl
      · exact tn.wl b h Lb
      · exact tn.zl b h Lb
      · exact hab h.symm
      · exact hMb b (.inr (.inr (.inr h))) rfl
    have nLa : ¬ L a := fun q => tt.zl a hz q
    have hil : inn.toList.length = xs.length := by have := q3.length; simpa using this
    have tn' := tn.unhide (ρ' := ρ') LL La nLa (hat2 a) (hfin a) q1 (by
      rw [Array.toList_push]
      refine RpL.append (RpL.sub (fun c o e => hM' c) _ _ rn) (RpL.cons ?_ RpL.nil)
      simp only [Rp]
      exact ⟨b, inn, rfl, nb, q2, strs_free q3, by simpa using hl2⟩) (by simp; lia)
    refine hrest A env M0 L Wc _ s0 sn Q E ho hv tn' (fun ρ6 Z6 s6 hp6 t6 ch6 => hQ ρ6 Z6 s6 hp6 t6 ?_) hR
    have c1 : Ch G.T Wc Z (fun c => Zn c ∨ c = a) s sn := by
      have kz : KB G.T (fun c => Wc c ∨ Z c) s s2 := by
        refine ⟨?_, fun c o hc e => ?_, fun c o ic e => kb1.co c o ic (k1.nt c o ic.nt e)⟩
        · exact ((KB.of (own := fun _ => True) k1).trans (kb1.mono fun _ _ => trivial)).same
        · exact (k1.tk c o e).trans kb1.code fun o2 e2 => kb1.tk c o2 (fun q => hc (.inr (q ▸ hz))) e2
      refine ⟨fun c hc => ?_, ⟨?_, fun c o hc e => ?_, fun c o ic e => chn.kb.co c o ic (kz.co c o ic e)⟩, fun c o e => ?_⟩
      · rcases hc with hc | hc
        · rcases chn.zz c hc with q | q
          · rw [← hZ1] at q; exact .inl q.1
          · refine .inr ?_
            cases e : s.heap.get? c with
            | none => rfl
            | some o =>
              obtain ⟨o1, e1⟩ := k1.al e
              by_cases qa : c = a
              · subst qa; obtain ⟨n, e⟩ := hp'; rw [q] at e; cases e
              · obtain ⟨o2, e2⟩ := (kb1.tk c o1 qa e1).al; rw [q] at e2; cases e2
        · exact .inl (hc ▸ hz)
      · exact ((kz.mono fun _ _ => trivial).trans (chn.kb.mono (own' := fun _ => True) fun _ _ => trivial)).same
      · refine (kz.tk c o hc e).trans chn.kb.code fun o2 e2 => chn.kb.tk c o2 (fun q => ?_) e2
        rcases q with (q | q | q) | q
        · exact hc (.inl q)
        · exact hc (.inr (q ▸ hz))
        · rw [q, hbn] at e; cases e
        · rw [← hZ1] at q; exact hc (.inr q.1)
      · obtain ⟨o1, e1⟩ := k1.al e
        by_cases qa : c = a
        · subst qa
          obtain ⟨n, e2⟩ := hp'
          exact chn.al c _ e2
        · obtain ⟨o2, e2⟩ := (kb1.tk c o1 qa e1).al
          exact chn.al c o2 e2
    exact c1.trans ch6
end
end
section
noncomputable def turnRestD (kx vx t iter : Expr) (scope : Scope) (pos : Pos) (it : Value) (D : Addr) (env : Env) (v : Value) : Sem Fin := do
  assign t env v
  (do let kv ← eval kx env
      let vv ← holding [kv] (eval vx env)
      standAt { kx.pos with endLine := vx.pos.endLine, endCol := vx.pos.endCol }
      holding [kv, vv] (dictSet D kv vv))
  again (.compLoop (.DictComp kx vx [⟨t, iter, [], 0⟩] scope pos) 0 it (.ref D) env)
theorem compTurn_D (kx vx t iter : Expr) (scope : Scope) (pos : Pos) (it : Value) (D : Addr) (env : Env) :
    compTurn (.DictComp kx vx [⟨t, iter, [], 0⟩] scope pos) 0 it (.ref D) env = (standAt iter.pos >>= fun _ => pyNext it >>= fun r => match r with
      | none => pure (.done .next)
      | some v => letOwnedTupleGo t it v >>= fun _ => turnRestD kx vx t iter scope pos it D env v) := by rfl
section
variable {prog : Program} {w : World} {G : Gl prog w} {k : Nat} {sc csc : Scope} {ρ ρ' ρc : VEnv}
structure CSD (G : Gl prog w) (csc : Scope) (env : Env) (Wc Z M : Addr → Prop) (D : Addr) (ρ : VEnv) (F : List (Str × PyData)) (s : Shared) : Prop where
  fm : Fm G csc env Wc Z M ρ s
  acc : ∃ kvs, s.heap.DictOf (strKind prog w) D kvs ∧ RpD prog w s.heap M (dk F) kvs
  dM : M D
  dW : ¬ Wc D
  dZ : ¬ Z D
  dB : G.hB.get? D = none
section
variable {A : Around} {env : Env} {Wc Z M : Addr → Prop} {D : Addr} {F : List (Str × PyData)} {s s' : Shared}
theorem CSD.keeps (c : CSD G csc env Wc Z M D ρ F s) (k : Kp G.T s s') : CSD G csc env Wc Z M D ρ F s' :=
  ⟨c.fm.keeps k, let ⟨kvs, h1, h2⟩ := c.acc; ⟨kvs, Dic.gr h1 (k.nt _), RpD.agr k.agr _ _ h2⟩, c.dM, c.dW, c.dZ, c.dB⟩
theorem CSD.kb {M1 own : Addr → Prop} (c : CSD G csc env Wc Z M D ρ F s) (k : KB G.T own s s') (hM : ∀ b, own b → M b) (hW : ∀ b, own b → ¬ Wc b) (hZ : ∀ b, own b → ¬ Z b) (hB : ∀ b, own b → G.hB.get? b = none)
    (h1 : ∀ a, M1 a → M a) (hW1 : ∀ a, Wc a → M1 a) (hZ1 : ∀ a, Z a → M1 a) (hD1 : M1 D) (hdom : ∀ b, M1 b → own b → ∃ o, s'.heap.get? b = some o) (hD : ¬ own D) : CSD G csc env Wc Z M1 D ρ F s' :=
  ⟨c.fm.kb' k hM hW hZ hB h1 hW1 hZ1 hdom, let ⟨kvs, h2, h3⟩ := c.acc; ⟨kvs, Dic.gr h2 fun o n e => k.nt _ o hD n e, RpD.sub (fun a o e => h1 a) _ _ (RpD.agr (k.agr hM) _ _ h3)⟩, hD1, c.dW, c.dZ, c.dB⟩
theorem CSD.fr {ρ' : VEnv} (c : CSD G csc env Wc Z M D ρ F s) (k : KB G.T Wc s s') (f : Fm G csc env Wc Z M ρ' s') : CSD G csc env Wc Z M D ρ' F s' :=
  ⟨f, let ⟨kvs, h1, h2⟩ := c.acc; ⟨kvs, Dic.gr h1 fun o n e => k.nt _ o c.dW n e, RpD.agr (k.agr c.fm.sub) _ _ h2⟩, c.dM, c.dW, c.dZ, c.dB⟩
theorem CSD.weak {ρ' : VEnv} (c : CSD G csc env Wc Z M D ρ' F s) (h : ∀ p, p ∈ ρ → p ∈ ρ') (hn : (ρ.map (·.1)).Nodup) : CSD G csc env Wc Z M D ρ F s := ⟨c.fm.weak h hn, c.acc, c.dM, c.dW, c.dZ, c.dB⟩
theorem CSD.put {x : Str} {d : PyData} {t : Tok} {u : Value} {Q : Unit → Shared → Prop} {E : Value → Shared → Prop} (c : CSD G csc env Wc Z M D ρ F s) (hr : Rp prog w s.heap M d u) (hl : F.length < lid)
    (hQ : ∀ s', KB G.T (· = D) s s' → CSD G csc env Wc Z M D ρ (Mine.put F x d) s' → Q () s') : wpAny (model prog w) A (dictSet D (.str x t) u) Q E s := by
  obtain ⟨kvs, h1, h2⟩ := c.acc
  have hlen := h2.length
  rw [dk_length] at hlen
  refine wpAny_dictSet_pairs (knd := strKind prog w) (hsz := by rw [hlen]; exact Nat.le_trans (Nat.le_of_lt hl) lid_le) (k := x) (by simp [PySem.strKind, Value.isStrOf]) h1 fun h' hd hs' => ?_
  have kb : KB G.T (· = D) s { s with heap := h', toks := s.toks + 1 } := .mk' ⟨h', s.toks + 1, rfl⟩ (fun b o hb e => (hs'.2 b hb).trans e) fun b o hb e => by
    obtain ⟨o', es, ep, e0, _, hd0, _⟩ := id h1
    rw [hb, e0] at e; cases e; exact notCoD hd0
  have hag : Agr M s.heap h' := kb.agr fun b q => q ▸ c.dM
  refine hQ _ kb ⟨c.fm.kb kb (fun b e => e ▸ c.dM) (fun b e => e ▸ c.dW) (fun b e => e ▸ c.dZ) (fun b e => e ▸ c.dB) (fun b e => ?_), ⟨_, hd, ?_⟩, c.dM, c.dW, c.dZ, c.dB⟩
  · subst e; obtain ⟨o, es, ep, e, _⟩ := hd; exact ⟨_, e⟩
  · exact RpD.agr hag _ _ (RpD.put h2 hr)
end
noncomputable def TurnD (G : Gl prog w) (k : Nat) (csc : Scope) (ρ : VEnv) (t kx vx : Expr) (x : PyData) (y : Str) (d : PyData) : Prop :=
  ∃ ρ', BindTo G k csc ρ t x ρ' ∧ (∀ p, p ∈ ρ → p ∈ ρ') ∧ EvTo G k csc ρ' kx (.str y) ∧ EvTo G k csc ρ' vx d
noncomputable def putsF {α : Type} (kf : α → Str) (vf : α → PyData) (xs : List α) (F : List (Str × PyData)) : List (Str × PyData) := xs.foldl (fun F x => put F (kf x) (vf x)) F
theorem putsF_len {α : Type} (kf : α → Str) (vf : α → PyData) : ∀ (xs : List α) (F : List (Str × PyData)), (putsF kf vf xs F).length ≤ F.length + xs.length
  | [], F => Nat.le_refl _
  | x :: xs, F => by
    have h1 := putsF_len kf vf xs (put F (kf x) (vf x))
    have h2 := put_length F (kf x) (vf x)
    show (putsF kf vf xs (put F (kf x) (vf x))).length ≤ _
    simp only [List.length_cons]; lia
theorem loop_runD {α : Type} (f : α → PyData) (kf : α → Str) (vf : α → PyData) {kx vx : Expr} {scope : Scope} {pos : Pos} {t iter : Expr}
    {A : Around} {env : Env} {Wc Z M M1 : Addr → Prop} {D : Addr} {I : Addr} {own F M0 : Addr → Prop} {h0 : Heap} {ds : List PyData} {Co : Nat → Heap → Prop} {R : Result → Shared → Prop}
    (W : Wk prog w G.T A I own F M0 h0 t ds Co) (ho : Ok k A) (hv : EnvOk csc env) (hF : ∀ b o, (Wc b ∨ b = D) → h0.get? b = some o → F b) (hM0 : ∀ b o, h0.get? b = some o → M b → M0 b)
    (oM : ∀ b, own b → M b) (oW : ∀ b, own b → ¬ Wc b) (oZ : ∀ b, own b → ¬ Z b) (oB : ∀ b, own b → G.hB.get? b = none) (oD : ¬ own D) (o0 : ∀ b, own b → h0.get? b = none)
    (h1 : ∀ a, M1 a → M a) (h1o : ∀ a, M1 a → ¬ own a) (hW1 : ∀ a, Wc a → M1 a) (hZ1 : ∀ a, Z a → M1 a) (hD1 : M1 D) :
    ∀ (xs : List α) (i : Nat) (s : Shared) (pre : List (Str × PyData)), ds.drop i = xs.map f → i ≤ ds.length → (∀ x, x ∈ xs → TurnD G k csc ρ t kx vx (f x) (kf x) (vf x)) → Co i s.heap → Agr F h0 s.heap →
      CSD G csc env Wc Z M D ρ pre s → pre.length + xs.length ≤ lid →
      (∀ s', KB G.T (fun b => (Wc b ∨ b = D) ∨ own b) s s' → CSD G csc env Wc Z M1 D ρ (putsF kf vf xs pre) s' → R (.ok .next) s') →
      codeAny (model prog w) A (.compLoop (.DictComp kx vx [⟨t, iter, [], 0⟩] scope pos) 0 (.ref I) (.ref D) env) R s := by
  intro xs
  induction xs with
  | nil =>
    intro i s pre hd hi hT hc hag c hl hR
    refine codeAny_of_tree ?_
    show wpAny _ A ((compTurn (.DictComp kx vx [⟨t, iter, [], 0⟩] scope pos) 0 (.ref I) (.ref D) env).onRaise (fun x => do noteFrame x env; theTreesLotGoes x)) _ _ s
    refine wpAny_noted ?_
    rw [compTurn_D]
    have hi' : i = ds.length := by
      have : (ds.drop i).length = 0 := by rw [hd]; rfl
      rw [List.length_drop] at this; lia
    subst hi'
    refine wpAny_bind (wpAny_standAt (wpAny_bind (wpAny_mono (W.done s (fun s' => R (.ok .next) s') _ hc hag fun s' k' => ?_) (fun r s1 h1 => ?_) fun _ _ z => z)))
    · exact hR s' (k'.mono fun b hb => .inr hb) (c.kb k' oM oW oZ oB h1 hW1 hZ1 hD1 (fun b hb ho => absurd ho (h1o b hb)) oD)
    · cases r with
      | none => exact wpAny_pure h1
      | some v => exact h1.elim
  | cons x xs ih =>
    intro i s pre hd hi hT hc hag c hl hR
    refine codeAny_of_tree ?_
    show wpAny _ A ((compTurn (.DictComp kx vx [⟨t, iter, [], 0⟩] scope pos) 0 (.ref I) (.ref D) env).onRaise (fun x => do noteFrame x env; theTreesLotGoes x)) _ _ s
    refine wpAny_noted ?_
    rw [compTurn_D]
    have hdx : ds[i]? = some (f x) := by
      have : (ds.drop i)[0]? = some (f x) := by rw [hd]; rfl
      rw [List.getElem?_drop] at this; simpa using this
    have hlt : i < ds.length := (List.getElem?_eq_some_iff.mp hdx).1
    have hd' : ds.drop (i + 1) = xs.map f := by
      rw [← List.drop_drop, hd]; rfl
    simp only [List.length_cons] at hl
    refine wpAny_bind (wpAny_standAt (wpAny_bind (wpAny_mono (W.item i (f x) M s (fun v s2 => wpAny (model prog w) A (turnRestD kx vx t iter scope pos (.ref I) D env v)
      (fun fin s' => match fin with | .done f => R (.ok f) s' | .again c' => c'.quiet = true ∧ codeAny (model prog w) A c' R s') (notedBy (model prog w) A env fun e s' => R (.error e) s') s2) _ hdx hc hag hM0 c.fm.vr.dom fun v s1 k1 hc1 r1 => ?_) (fun r s1 h1 => ?_) fun _ _ z => z)))
    · have c1 : CSD G csc env Wc Z M D ρ pre s1 := c.kb k1 oM oW oZ oB (fun _ h => h) c.fm.sub c.fm.zs c.dM (fun b _ hb => W.alive _ _ hc1 b hb) oD
      obtain ⟨ρ', hb, hsub, hk, hvl⟩ := hT x List.mem_cons_self
      unfold turnRestD
      refine wpAny_bind (hb A env Wc Z M s1 v _ _ ho hv c1.fm r1 fun s2 k2 f2 _ => ?_)
      have c2 := c1.fr k2 f2
      refine wpAny_bind (wpAny_bind (hk A env M s2 _ _ ho hv c2.fm.vr fun kv s3 k3 r3 => ?_))
      simp only [Rp] at r3
      obtain ⟨tk, rfl⟩ := r3
      have c3 := c2.keeps k3
      refine wpAny_bind (wpAny_holding (hvl A env M s3 _ _ ho hv c3.fm.vr fun vv s4 k4 r4 => ?_))
      have c4 := c3.keeps k4
      refine wpAny_bind (wpAny_standAt (wpAny_holding (c4.put r4 (by lia) fun s5 k5 c5 => wpAny_pure ⟨rfl, ?_⟩)))
      have kk : KB G.T (fun b => Wc b ∨ b = D) s1 s5 := ((k2.mono fun b hb => .inl hb).trans (.of (k3.trans k4))).trans (k5.mono fun b hb => .inr hb)
      have hc5 : Co (i + 1) s5.heap := W.frame _ _ _ hc1 fun b o hb e => kk.tk b o (fun q => q.elim (oW b hb) fun q => oD (q ▸ hb)) e
      have hag5 : Agr F h0 s5.heap := fun b o hb n e => kk.nt b o (fun q => hb (hF b o q e)) n (k1.nt b o (fun q => by rw [o0 b q] at e; cases e) n (hag b o hb n e))
      refine ih (i + 1) s5 (put pre (kf x) (vf x)) hd' hlt (fun y hy => hT y (List.mem_cons_of_mem _ hy)) hc5 hag5 (c5.weak hsub c.fm.vr.nd) (by have := put_length pre (kf x) (vf x); lia) fun s6 k6 c6 => hR s6 (((k1.mono fun b hb => .inr hb).trans (kk.mono fun b hb => .inl hb)).trans k6) c6
    · cases r with
      | none => exact h1.elim
      | some v => exact wpAny_bind h1
theorem comp_coreD {α : Type} (f : α → PyData) (kf : α → Str) (vf : α → PyData) {kx vx t iter : Expr} {pos : Pos} {xs : List α} {A : Around} {env : Env} {M : Addr → Prop} {s : Shared} {E : Value → Shared → Prop} {RR : Value → Addr → Result → Shared → Prop}
    (hc : CompOk sc csc) (hρ : Filt csc ρ ρc) (hit : ItTo G k sc ρ t false iter (xs.map f)) (hT : ∀ x, x ∈ xs → TurnD G k csc ρc t kx vx (f x) (kf x) (vf x)) (hl : xs.length ≤ lid)
    (ho : Ok k A) (hv : EnvOk sc env) (hr : VR G env M ρ s)
    (hQ : ∀ D C s', Kp G.T s s' → (∃ m, s'.heap.Ns C m) → s.heap.get? C = none → s.heap.get? D = none → D ≠ C → mainGlobals < D → (∃ kvs, s'.heap.DictOf (strKind prog w) D kvs ∧ RpD prog w s'.heap (fun a => M a ∨ a = C ∨ a = D) (dk (putsF kf vf xs [])) kvs) → RR (.ref D) C (.ok .next) s') :
    wpAny (model prog w) A (eval iter env) (fun x s₁ => wpAny (model prog w) A (pyIter x) (fun it s₂ => wpAny (model prog w) A newDict (fun acc s₃ =>
      wpAny (model prog w) A (newFunctionEnv csc env.globals (clOf env csc.names []) [] env.qual none .none (some env)) (fun cenv s₄ =>
        codeAny (model prog w) A (.compStart (.DictComp kx vx [⟨t, iter, [], 0⟩] csc pos) 0 it acc { cenv with scope := relabel csc env }) (RR acc cenv.locals) s₄) E s₃) E s₂) E s₁) E s := by
  refine comp_frame (O := { cls := .type "dict", dict := none, data := .dict #[] }) (Post := fun X D h => ∃ kvs, h.DictOf (strKind prog w) D kvs ∧ RpD prog w h X (dk (putsF kf vf xs [])) kvs)
    rfl (fun X Y D h hs hP => let ⟨kvs, h1, h2⟩ := hP; ⟨kvs, h1, RpD.sub (fun a o' e => hs a) _ _ h2⟩) (fun h => wpAny_newObj_type h) hc hρ hit (fun hl hp => codeAny_compStart_dict hl hp) (fun I D own Wc Co h0 cenv s4 R W hvc hfm hDO hco hag h0n hown ownD nM nB wcD hR => ?_) ho hv hr hQ
  have hD : s4.heap.DictOf (strKind prog w) D [] := by
    have e0 := Heap.DictOf.new (knd := PySem.strKind prog w) s4.heap
    obtain ⟨o, es, ep, ho', r⟩ := e0
    rw [Heap.get?_push_size _ rfl] at ho'
    cases ho'
    exact ⟨_, es, ep, hDO, r⟩
  have hcs0 : CSD G csc cenv Wc M (fun a => M a ∨ ((Wc a ∨ a = D) ∨ own a)) D ρc [] s4 := ⟨hfm, ⟨[], hD, by simp [dk, RpD]⟩, .inr (.inl (.inr rfl)), wcD, nM D (.inl (.inr rfl)), nB D (.inl (.inr rfl))⟩
  refine loop_runD f kf vf (M := fun a => M a ∨ ((Wc a ∨ a = D) ∨ own a)) (M1 := fun a => M a ∨ (Wc a ∨ a = D)) W ho hvc (fun b o' hb e => by rw [h0n b hb] at e; cases e) (fun b o' e q => ?_) (fun b hb => .inr (.inr hb)) (fun b hb q => ownD b hb (.inl q)) (fun b hb => nM b (.inr hb)) (fun b hb => nB b (.inr hb)) (fun q => ownD D q (.inr rfl)) hown
    (fun a ha => ha.elim .inl fun h => .inr (.inl h)) (fun a ha q => ha.elim (nM a (.inr q)) (ownD a q)) (fun a ha => .inr (.inl ha)) (fun a ha => .inl ha) (.inr (.inr rfl))
    xs 0 s4 [] rfl (Nat.zero_le _) hT hco hag hcs0 (by simpa using hl) fun s5 k5 c5 => ?_
  · rcases q with q | (q | q)
    · exact q
    · rw [h0n b q] at e; cases e
    · rw [hown b q] at e; cases e
  · exact hR s5 k5 c5.fm.fe.loc c5.acc
theorem compD_result {M : Addr → Prop} {C D : Addr} {s' : Shared} {h' : Heap} {F : List (Str × PyData)} (hs : Heap.SameBut C s'.heap h') (hne : D ≠ C) (hD : ¬ M D) (hS : (D == sysModules) = false) (hl : F.length ≤ lid)
    (hi : ∃ kvs, s'.heap.DictOf (strKind prog w) D kvs ∧ RpD prog w s'.heap (fun a => M a ∨ a = C ∨ a = D) (dk F) kvs) : Rp prog w h' M (.dict (dk F)) (.ref D) := by
  obtain ⟨kvs, h1, h2⟩ := hi
  simp only [Rp]
  refine ⟨D, kvs, rfl, hD, hS, Heap.DictOf.at h1 (fun o e => (hs.2 D hne).trans e), ?_, by rw [dk_length]; exact hl⟩
  exact RpD.sub (fun a o e q => .inl q) _ _ (RpD.agr (fun b o hb _ e => (hs.2 b fun q => hb (.inr (.inl q))).trans e) _ _ h2)
theorem not_sys {D : Addr} (h : mainGlobals < D) : (D == sysModules) = false := beq_eq_false_iff_ne.mpr (Nat.ne_of_gt (Nat.lt_of_le_of_lt (by decide) h))
end
end
section
section
variable {prog : Program} {w : World} {G : Gl prog w} {k : Nat} {sc csc : Scope} {ρ ρ' ρc : VEnv}
theorem eval_DictComp' (kx vx : Expr) (gens : List Comprehension) (scope : Scope) (pos : Pos) (env : Env) : eval (.DictComp kx vx gens scope pos) env =
    comprehension (.DictComp kx vx gens scope pos) scope env (firstIterPos gens pos) newDict (firstAsync gens) (firstIter gens env) := by rfl
theorem EvTo.dictComp {α : Type} (f : α → PyData) (kf : α → Str) (vf : α → PyData) {kx vx t iter : Expr} {pos : Pos} {xs : List α}
    (hc : compOk sc csc = true) (hρ : Filt csc ρ ρc) (hit : ItTo G k sc ρ t false iter (xs.map f)) (hs : ∀ env x, foldedSetIterable iter env x = pure x) (hT : ∀ x, x ∈ xs → TurnD G k csc ρc t kx vx (f x) (kf x) (vf x)) (hl : xs.length ≤ lid) :
    EvTo G k sc ρ (.DictComp kx vx [⟨t, iter, [], 0⟩] csc pos) (.dict (dk (putsF kf vf xs []))) := by
  intro A env M s Q E ho hv hr hQ
  have hc := compOk.of hc
  rw [eval_DictComp']
  refine wpAny_comprehension_free (use := none) rfl (hs env) (comp_closure hc hv) hc.kind (comp_names hc) ?_
  refine comp_coreD f kf vf (RR := fun acc C => compPost (model prog w) A E none Q acc C) hc hρ hit hT hl ho hv hr fun D C s' kk hns hC hD hne hgt hi => ?_
  obtain ⟨m, hm⟩ := hns
  refine ⟨m, hm, fun h' hs' => hQ _ _ ?_ ?_⟩
  · obtain ⟨om, es, ep, hom, hdm, _⟩ := id hm
    obtain ⟨⟨h1, t1, rfl⟩, hk⟩ := kk
    exact ⟨⟨h', t1, rfl⟩, fun b o' e => (hk b o' e).trans (fun c o2 ic e2 => .inl ((hs'.2 c fun q => by rw [q, hom] at e2; cases e2; exact notCoD hdm ic).trans e2)) fun o2 e2 => .inl ((hs'.2 b fun q => by rw [q, hC] at e; cases e).trans e2)⟩
  · refine compD_result hs' hne (fun q => ?_) (not_sys hgt) (Nat.le_trans (putsF_len kf vf xs []) (by simpa using hl)) hi
    obtain ⟨o', e⟩ := hr.dom D q
    rw [hD] at e; cases e
theorem Step.assignDict {α : Type} (f : α → PyData) (kf : α → Str) (vf : α → PyData) {y : Str} {p spos : Pos} {kx vx t iter : Expr} {pos : Pos} {xs : List α}
    (hc : compOk sc csc = true) (hρ : Filt csc ρ ρc) (hit : ItTo G k sc ρ t false iter (xs.map f)) (hs : ∀ env x, foldedSetIterable iter env x = pure x) (hT : ∀ x, x ∈ xs → TurnD G k csc ρc t kx vx (f x) (kf x) (vf x)) (hl : xs.length ≤ lid)
    (hy : OwnName sc y) (hu : Upd y (.own (.dict (dk (putsF kf vf xs [])))) ρ ρ') : Step G k sc ρ (.Assign [.Name y p] (.DictComp kx vx [⟨t, iter, [], 0⟩] csc pos) spos) ρ' := by
  intro A env M0 L Wc Z s0 s Q E ho hv tt hQ
  have hsw : ∃ c, swapsWith (.DictComp kx vx [⟨t, iter, [], 0⟩] csc pos) (some (.Name y p)) spos.line env = pure c := ⟨_, rfl⟩
  obtain ⟨c, hsw⟩ := hsw
  cases c with
  | false =>
    rw [exec_Assign_Name env y p _ spos hsw]
    refine wpAny_bind (wpAny_standAt (wpAny_bind (EvTo.dictComp f kf vf hc hρ hit hs hT hl A env _ s _ _ ho hv tt.fm.vr fun v s1 k1 r1 => ?_)))
    exact wpAny_bind (wpAny_standAt (wpAny_bind (wpAny_bindName ((tt.keeps k1).storeOwn hv hy hu r1 fun s2 k2 t2 => wpAny_pure (hQ Z s2 t2 (Ch.ofW t2 ((KB.of k1).trans k2)))))))
  | true =>
    have hc' := compOk.of hc
    rw [exec_Assign_Name_used y p _ spos hsw]
    refine wpAny_bind (wpAny_standAt (wpAny_bind ?_))
    show wpAny _ A (do let _ ← comprehension (.DictComp kx vx [⟨t, iter, [], 0⟩] csc pos) csc env _ newDict false (eval iter env) (some (PySem.assign (.Name y p) env))) _ _ s
    refine wpAny_bind (wpAny_mono (wpAny_comprehension_free (use := some (PySem.assign (.Name y p) env)) (Q := fun _ s' => Q .next s') rfl (hs env) (comp_closure hc' hv) hc'.kind (comp_names hc') ?_)
      (fun _ s' hq => wpAny_pure (wpAny_pure hq)) fun _ _ e => e)
    refine comp_coreD f kf vf (RR := fun acc C => compPost (model prog w) A E (some (PySem.assign (.Name y p) env)) (fun _ s' => Q .next s') acc C) hc' hρ hit hT hl ho hv tt.fm.vr fun D C s1 k1 hns hC hD hne hgt hi => ?_
    obtain ⟨m, hm⟩ := hns
    obtain ⟨kvs, h1, h2⟩ := hi
    have hCo : ∃ o, s1.heap.get? C = some o := by obtain ⟨o', es, ep, e, _⟩ := hm; exact ⟨o', e⟩
    have tL : St G sc env M0 (fun a => L a ∨ a = C) Wc Z s0 ρ s1 := tt.growL k1 (fun a ha => ha ▸ hC) (fun a ha => ha ▸ hCo)
    have hCM : ∀ a, MM M0 Wc Z L a → a ≠ C := fun a ha q => by obtain ⟨o', e⟩ := tt.fm.vr.dom a ha; rw [q, hC] at e; cases e
    have sb : ∀ a o', s1.heap.get? a = some o' → MM M0 Wc Z (fun a => L a ∨ a = C) a → (MM M0 Wc Z L a ∨ a = C ∨ a = D) := fun a o' e q => by
      rcases q with q | q | q | q | q
      · exact .inl (.inl q)
      · exact .inl (.inr (.inl q))
      · exact .inl (.inr (.inr (.inl q)))
      · exact .inl (.inr (.inr (.inr q)))
      · exact .inr (.inl q)
    have hr1 : Rp prog w s1.heap (MM M0 Wc Z (fun a => L a ∨ a = C)) (.dict (dk (putsF kf vf xs []))) (.ref D) := by
      simp only [Rp]
      refine ⟨D, kvs, rfl, fun q => ?_, not_sys hgt, h1, RpD.sub sb _ _ h2, ?_⟩
      · rcases q with q | q | q | q | q
        · obtain ⟨o', e⟩ := tt.fm.vr.dom D (.inl q); rw [hD] at e; cases e
        · obtain ⟨o', e⟩ := tt.fm.vr.dom D (.inr (.inl q)); rw [hD] at e; cases e
        · obtain ⟨o', e⟩ := tt.fm.vr.dom D (.inr (.inr (.inl q))); rw [hD] at e; cases e
        · obtain ⟨o', e⟩ := tt.fm.vr.dom D (.inr (.inr (.inr q))); rw [hD] at e; cases e
        · exact hne q
      · rw [dk_length]; exact Nat.le_trans (putsF_len kf vf xs []) (by simpa using hl)
    refine wpAny_assign_Name (tL.storeOwn hv hy hu hr1 fun s2 k2 t2 => ?_)
    have hCW : ¬ Wc C := fun q => hCM C (.inr (.inl q)) rfl
    refine ⟨m, Nsp.gr hm fun o n e => k2.nt C o hCW n e, fun h' hs' => ?_⟩
    obtain ⟨om, es, ep, hom, hdm, _⟩ := Nsp.gr hm fun o n e => k2.nt C o hCW n e
    have kC : KB G.T (· = C) s2 { s2 with heap := h' } := .mk' ⟨h', s2.toks, rfl⟩ (fun b o hb e => (hs'.2 b hb).trans e) fun b o hb e => by rw [hb, hom] at e; cases e; exact notCoD hdm
    have t3 := t2.dropL kC (fun a ha q => hCM a (.inr (.inr (.inr ha))) q)
    refine hQ _ _ t3 ⟨fun a ha => .inl ha, ⟨?_, fun b o hb e => ((k1.tk b o e).trans k2.code fun o2 e2 => k2.tk b o2 (fun q => hb (.inl q)) e2).trans kC.code fun o3 e3 => kC.tk b o3 (fun q => by rw [q, hC] at e; cases e) e3, fun b o ic e => kC.co b o ic (k2.co b o ic (k1.nt b o ic.nt e))⟩, fun b o e => ?_⟩
    · exact ((KB.of (own := fun _ => True) k1).trans ((k2.mono fun _ _ => trivial).trans (kC.mono fun _ _ => trivial))).same
    · by_cases hw : Wc b
      · exact t3.dom (.inl hw)
      · exact (((k1.tk b o e).trans k2.code fun o2 e2 => k2.tk b o2 hw e2).trans kC.code fun o3 e3 => kC.tk b o3 (fun q => by rw [q, hC] at e; cases e) e3).al
end
end
section
section
variable {prog : Program} {w : World} {G : Gl prog w} {k : Nat} {sc csc : Scope} {ρ ρ' ρc : VEnv}
theorem ints_are {h : Heap} {M : Addr → Prop} : ∀ {ns : List Int} {vs : List Value}, RpL prog w h M (ns.map .int) vs → IntsAre vs ns
  | [], _, r => by simp only [List.map_nil, RpL] at r; subst r; exact .nil
  | n :: ns, _, r => by
    simp only [List.map_cons, RpL] at r
    obtain ⟨v, q, rfl, h1, h2⟩ := r
    simp only [Rp] at h1
    obtain ⟨t, rfl⟩ := h1
    exact .cons n t (ints_are h2)
theorem EvTo.countI {o e : Expr} {ns : List Int} {i : Int} {apos pos : Pos} (ho : EvTo G k sc ρ o (.list (ns.map .int))) (hbase : ∀ env, attributeBase o "count" env (eval o env) = eval o env) (he : EvTo G k sc ρ e (.int i)) (hn : NotStar e) (hline : (apos.endLine == pos.line) = true) :
    EvTo G k sc ρ (.Call (.Attribute o "count" apos) [e] [] pos) (.int ((ns.count i : Nat) : Int)) := by
  intro A env M s Q E hok hv hr hQ
  refine method_any hok hv hr hbase PySem.F.plainAttrs_list PySem.F.slot_list_count PySem.F.type_list_count (.cons hn he .nil) (by simp) hline (ho A env M s _ _ hok hv hr fun v s1 k1 r1 => ?_)
  simp only [Rp] at r1
  obtain ⟨a, items, rfl, hM, hp, rr, hb⟩ := r1
  refine ⟨k1, hp.isList.typeIs, (fun c q => by cases q; obtain ⟨n, e⟩ := hp; exact ⟨_, e, rfl⟩), fun vs s2 k2 r2 => ?_⟩
  obtain ⟨u, rfl, ru⟩ := r2.one
  simp only [Rp] at ru
  obtain ⟨t, rfl⟩ := ru
  have hp2 := PL.gr hp (k2.nt _)
  refine count_list_ints (vs := items.toList) (by simpa using hp2.isList) (ints_are (RpL.agr k2.agr _ _ rr)) (hQ _ _ ((k1.trans k2).trans (Kp.tok _)) (by simp only [Rp]; exact ⟨_, rfl⟩))
theorem pick_cut (ds : List PyData) (a b : Nat) : pickL ds (some (a : Int)) (some (b : Int)) none = (ds.drop a).take (b - a) := by
  unfold pickL sliceBounds
  simp only [Option.getD_none, show (1 : Int) > 0 by decide, if_true]
  have h0 : ¬ ((a : Int) < 0) := by lia
  have h1 : ¬ ((b : Int) < 0) := by lia
  simp only [h0, h1, if_false]
  have e : max (0 : Int) (min (a : Int) (ds.length : Int)) = ((min a ds.length : Nat) : Int) := by lia
  have e1 : max (0 : Int) (min (b : Int) (ds.length : Int)) = ((min b ds.length : Nat) : Int) := by lia
  rw [e, e1, pick_one (Nat.min_le_right _ _)]
  rcases Nat.le_total a ds.length with h | h
  · rw [Nat.min_eq_left h]
    rcases Nat.le_total b ds.length with h2 | h2
    · rw [Nat.min_eq_left h2]
    · rw [Nat.min_eq_right h2, List.take_of_length_le (by simp), List.take_of_length_le (by simp; lia)]
  · rw [Nat.min_eq_right h, List.drop_of_length_le (Nat.le_refl _), List.drop_of_length_le h]; simp
theorem EvTo.cutL {e a b : Expr} {p pos : Pos} {ds : List PyData} {n m : Nat} (he : EvL G k sc ρ e ds) (ha : EvTo G k sc ρ a (.int (n : Int))) (hb : EvTo G k sc ρ b (.int (m : Int))) : EvTo G k sc ρ (.Subscript e (.Slice (some a) (some b) none p) pos) (.list ((ds.drop n).take (m - n))) :=
  EvTo.cast (EvTo.sliceL he (.some ha) (.some hb) .none (by decide)) (by rw [pick_cut])
section
variable {α β : Type} {f : α → PyData} {g : β → PyData} {v : α → β → PyData} {xs : List α} {ys : α → List β} {b : α → Bool} {c : α → β → Bool} {ρ1 : α → VEnv} {ρ2 : α → β → VEnv} {t iter t' iter' elt : Expr} {ifs ifs' : List Expr} {pos : Pos}
noncomputable def two (v : α → β → PyData) (ys : α → List β) (b : α → Bool) (c : α → β → Bool) (x : α) : List PyData := if b x then ((ys x).filter (c x)).map (v x) else []
theorem turn_two
    (hb1 : ∀ x, x ∈ xs → BindTo G k csc ρc t (f x) (ρ1 x)) (hs1 : ∀ x p, p ∈ ρc → p ∈ ρ1 x) (hi1 : ∀ x, x ∈ xs → IfsTo G k csc (ρ1 x) ifs (b x))
    (hit2 : ∀ x, x ∈ xs → b x = true → ItTo G k csc (ρ1 x) t' true iter' ((ys x).map g)) (hs' : ∀ env x, foldedSetIterable iter' env x = pure x)
    (hb2 : ∀ x, x ∈ xs → b x = true → ∀ y, y ∈ ys x → BindTo G k csc (ρ1 x) t' (g y) (ρ2 x y)) (hs2 : ∀ x y p, p ∈ ρ1 x → p ∈ ρ2 x y) (hi2 : ∀ x, x ∈ xs → b x = true → ∀ y, y ∈ ys x → IfsTo G k csc (ρ2 x y) ifs' (c x y))
    (hv : ∀ x, x ∈ xs → b x = true → ∀ y, y ∈ ys x → c x y = true → EvTo G k csc (ρ2 x y) elt (v x y)) :
    ∀ x, x ∈ xs → TurnTo G k csc [⟨t, iter, ifs, 0⟩, ⟨t', iter', ifs', 0⟩] elt ρc 0 (f x) (two v ys b c x) := by
  intro x hx
  have h1 := hi1 x hx
  unfold two
  cases hbx : b x with
  | false =>
    rw [hbx] at h1
    exact .no _ _ _ (ρ1 x) _ _ _ rfl (hb1 x hx) (hs1 x) h1
  | true =>
    rw [hbx] at h1
    rw [if_pos rfl, ← flatMap_if]
    refine .deep _ _ _ (ρ1 x) _ _ _ t' iter' ifs' β g (ys x) _ rfl rfl (hb1 x hx) (hs1 x) h1 (hit2 x hx hbx) hs' fun y hy => ?_
    have h2 := hi2 x hx hbx y hy
    cases hc : c x y with
    | false =>
      rw [hc] at h2
      exact .no _ _ _ (ρ2 x y) _ _ _ rfl (hb2 x hx hbx y hy) (hs2 x y) h2
    | true =>
      rw [hc] at h2
      exact .leaf _ _ _ (ρ2 x y) _ _ _ _ rfl rfl (hb2 x hx hbx y hy) (hs2 x y) h2 (hv x hx hbx y hy hc)
theorem EvTo.comp2 (hc : compOk sc csc = true) (hρ : Filt csc ρ ρc) (hit : ItTo G k sc ρ t false iter (xs.map f)) (hs : ∀ env x, foldedSetIterable iter env x = pure x)
    (hT : ∀ x, x ∈ xs → TurnTo G k csc [⟨t, iter, ifs, 0⟩, ⟨t', iter', ifs', 0⟩] elt ρc 0 (f x) (two v ys b c x)) (hl : (xs.flatMap (two v ys b c)).length ≤ lid) :
    EvTo G k sc ρ (.ListComp elt [⟨t, iter, ifs, 0⟩, ⟨t', iter', ifs', 0⟩] csc pos) (.list (xs.flatMap (two v ys b c))) := EvTo.listComp hc hρ hit hs hT hl
theorem Step.comp2 {z : Str} {q spos : Pos} (hc : compOk sc csc = true) (hρ : Filt csc ρ ρc) (hit : ItTo G k sc ρ t false iter (xs.map f)) (hs : ∀ env x, foldedSetIterable iter env x = pure x)
    (hT : ∀ x, x ∈ xs → TurnTo G k csc [⟨t, iter, ifs, 0⟩, ⟨t', iter', ifs', 0⟩] elt ρc 0 (f x) (two v ys b c x)) (hl : (xs.flatMap (two v ys b c)).length ≤ lid) (hz : OwnName sc z) (hu : Upd z (.own (.list (xs.flatMap (two v ys b c)))) ρ ρ') :
    Step G k sc ρ (.Assign [.Name z q] (.ListComp elt [⟨t, iter, ifs, 0⟩, ⟨t', iter', ifs', 0⟩] csc pos) spos) ρ' := Step.assignComp (.inr rfl) hc hρ hit hs hT hl hz hu
end
end
end
section
section
variable {prog : Program} {w : World} {G : Gl prog w} {k : Nat} {sc csc : Scope} {ρ ρ' ρc : VEnv}
theorem ExTo.pushRow2 {α : Type} {f : α → PyData} {g : α → Str} {xs : List α} {x : Str} {ds : List PyData} {R : Addr → Nat → VEnv} {ρb ρc : Addr → Nat → α → VEnv} {t iter ie e : Expr} {st1 st2 : Stmt} {rest : List Stmt} {px apos lp cpos spos p1 p2 ap cp sp pos : Pos} {P : Out → Prop}
    (hx : (x, .mu ds) ∈ ρ) (hline : (apos.endLine == cpos.line) = true) (hline2 : (ap.endLine == cp.line) = true)
    (hu : ∀ a, Upd x (.is (.ref a)) ρ (R a 0)) (hit : ∀ a, ItTo G k sc (R a 0) t true iter (xs.map f)) (hs : ∀ env x, foldedSetIterable iter env x = pure x)
    (hb : ∀ a i y, xs[i]? = some y → BindTo G k sc (R a i) t (f y) (ρb a i y))
    (hpre : ∀ a i y, xs[i]? = some y → ExTo G k sc (ρb a i y) [st1, st2] (fun o => o = .next (ρc a i y)))
    (hat : ∀ a i y, xs[i]? = some y → (x, .is (.ref a)) ∈ ρc a i y)
    (hie : ∀ a i y, xs[i]? = some y → EvTo G k sc (ρc a i y) ie (.int ((ds.length : Nat) : Int)))
    (he : ∀ a i y, xs[i]? = some y → EvTo G k sc (ρc a i y) e (.str (g y))) (hn : NotStar e)
    (hbase : ∀ env, attributeBase (.Subscript (.Name x p1) ie p2) "append" env (eval (.Subscript (.Name x p1) ie p2) env) = eval (.Subscript (.Name x p1) ie p2) env)
    (hsub : ∀ o i', subscripted ie false o i' = operate [o, i'] (getItem o i'))
    (hw : ∀ a i y, xs[i]? = some y → Wkn (ρc a i y) (R a (i + 1))) (hfin : ∀ a, Upd x (.mu (ds ++ [.list ((xs.map g).map .str)])) (R a xs.length) ρ') (hat2 : ∀ a, (x, .is (.ref a)) ∈ R a xs.length)
    (hl : ds.length < lid) (hl2 : xs.length ≤ lid) (hrest : ExTo G k sc ρ' rest P) :
    ExTo G k sc ρ (.Expr (.Call (.Attribute (.Name x px) "append" apos) [.List [] lp] [] cpos) spos :: .For t iter [st1, st2, .Expr (.Call (.Attribute (.Subscript (.Name x p1) ie p2) "append" ap) [e] [] cp) sp] [] pos :: rest) P :=
  ExTo.pushRow (pre := [st1, st2]) hx hline hline2 hu hit hs hb hpre hat hie he hn hbase hsub hw hfin hat2 hl hl2 hrest
theorem EvTo.iteB {c a b : Expr} {pos : Pos} {t : Prop} [Decidable t] {x y : PyData} (hc : TrTo G k sc ρ c (decide t)) (h1 : t → EvTo G k sc ρ a x) (h2 : ¬ t → EvTo G k sc ρ b y) : EvTo G k sc ρ (.IfExp c a b pos) (if t then x else y) := by
  refine EvTo.ite hc (fun h => ?_) fun h => ?_
  · rw [if_pos (of_decide_eq_true h)]; exact h1 (of_decide_eq_true h)
  · rw [if_neg (of_decide_eq_false h)]; exact h2 (of_decide_eq_false h)
theorem TrTo.eqN {l r : Expr} {pos : Pos} {a b : Nat} (ha : EvTo G k sc ρ l (.int (a : Int))) (hb : EvTo G k sc ρ r (.int (b : Int))) (hm : behindInMarks .Eq r = false) : TrTo G k sc ρ (.Compare l [.Eq] [r] pos) (decide (a = b)) :=
  TrTo.cast (TrTo.cmp ha hb CmpOk.eqI hm) (by rw [Bool.eq_iff_iff, beq_iff_eq, decide_eq_true_iff]; lia)
theorem TrTo.ltN {l r : Expr} {pos : Pos} {a b : Nat} (ha : EvTo G k sc ρ l (.int (a : Int))) (hb : EvTo G k sc ρ r (.int (b : Int))) (hm : behindInMarks .Lt r = false) : TrTo G k sc ρ (.Compare l [.Lt] [r] pos) (decide (a < b)) :=
  TrTo.cast (TrTo.cmp ha hb CmpOk.ltI hm) (by rw [Bool.eq_iff_iff, decide_eq_true_iff, decide_eq_true_iff]; lia)
end
theorem sub_nil {ρ : VEnv} : ∀ p, p ∈ ([] : VEnv) → p ∈ ρ := fun _ h => (by cases h)
theorem sub_cons {a : Str × B} {l ρ : VEnv} (h : a ∈ ρ) (hs : ∀ p, p ∈ l → p ∈ ρ) : ∀ p, p ∈ a :: l → p ∈ ρ := fun p hp => (List.mem_cons.mp hp).elim (fun e => e ▸ h) (hs p)
theorem upd_pre {y : Str} {b : B} {r r' : VEnv} (hu : Upd y b r r') : ∀ {pre : VEnv}, (pre.map (·.1)).contains y = false → Upd y b (pre ++ r) (pre ++ r')
  | [], _ => hu
  | (z, c) :: pre, h => by
    rw [List.map_cons, List.contains_cons, Bool.or_eq_false_iff] at h
    exact .skip (fun e => by rw [e] at h; simp at h) (upd_pre hu h.2)
theorem last_nat {n : Nat} (h : 0 < n) : (-1 + (n : Int)).toNat = n - 1 := by
  cases n with
  | zero => cases h
  | succ m => show (-1 + ((m : Int) + 1)).toNat = m; rw [Int.add_comm (m : Int) 1, Int.neg_add_cancel_left]; rfl
theorem last_max {n : Nat} (h : 0 < n) : max (0 : Int) (min (-1 + (n : Int)) (n : Int)) = ((n - 1 : Nat) : Int) := by
  cases n with
  | zero => cases h
  | succ m =>
    show max (0 : Int) (min (-1 + ((m : Int) + 1)) ((m : Int) + 1)) = (m : Int)
    rw [Int.add_comm (m : Int) 1, Int.neg_add_cancel_left, Int.min_eq_left (Int.le_add_of_nonneg_left (by decide)), Int.max_eq_right (Int.natCast_nonneg _)]
theorem sub1_lt {n : Nat} (h : 0 < n) : n - 1 < n := Nat.sub_lt h (by decide)
theorem sub_is {a b c : Nat} (h : a = b + c) : a - b = c := by rw [h, Nat.add_sub_cancel_left]
end
end Mine
end
section
open PySem PySem.W PyProof.Rows
namespace Mine
theorem fin_done {o : Outcome} {s s' : Shared} {f : Flow} (h : finish o s = .halt (.done f) s') : s' = s := by
  unfold finish at h
  cases hc : leftWithCleanup s.gens with
  | true => rw [hc, if_pos rfl] at h; cases h
  | false => rw [hc, if_neg Bool.false_ne_true] at h; cases h; rfl
theorem fin_unc {e : Value} {s s' : Shared} {f : Flow} (h : finish (.uncaught e) s = .halt (.done f) s') : False := by
  unfold finish at h
  cases hc : leftWithCleanup s.gens with
  | true => rw [hc, if_pos rfl] at h; cases h
  | false => rw [hc, if_neg Bool.false_ne_true] at h; cases h
noncomputable def Step.isDone : PySem.Step → Bool
  | .halt (.done _) _ => true
  | _ => false
theorem done_ite {c : Prop} [Decidable c] {a b : PySem.Step} (ha : Step.isDone a = false) (hb : Step.isDone b = false) : Step.isDone (if c then a else b) = false := by
  by_cases h : c
  · rw [if_pos h]; exact ha
  · rw [if_neg h]; exact hb
theorem not_done {den : Code → Sem Fin} {p : Program} {w : World} {heap : Heap} {gens : Array GenState} {drawn : Drawn} {toks : Tok} {os : OsState} {cur : Sem Fin} {code : Code} {pos : Pos} {stack : List Frame}
    (hp : ∀ x, cur ≠ .pure x) (hr : ∀ e, cur ≠ .raise e) : Step.isDone (step den p w ⟨heap, gens, drawn, toks, os⟩ ⟨cur, code, pos, stack⟩) = false := by
  cases cur with
  | pure x => exact absurd rfl (hp x)
  | raise e => exact absurd rfl (hr e)
  | finish e => exact done_ite rfl rfl
  | load a x k =>
    unfold step
    dsimp only
    cases heap.get? a <;> rfl
  | update a x g k => exact done_ite rfl rfl
  | choose src n k => exact done_ite rfl rfl
  | genState g k =>
    unfold step
    dsimp only
    cases gens[g]? <;> rfl
  | resume g r l k =>
    unfold step
    dsimp only
    cases gens[g]? with
    | none => rfl
    | some st =>
      cases st with
      | fresh c =>
        cases r with
        | send v => cases v <;> rfl
        | throw e => rfl
      | _ => rfl
  | yield v g0 l kk =>
    unfold step
    dsimp only
    cases splitAtGen stack with
    | none => rfl
    | some q => obtain ⟨a, ⟨b, c, d, e⟩, r⟩ := q; rfl
  | _ => rfl
theorem step_done {den : Code → Sem Fin} {p : Program} {w : World} {s s' : Shared} {t : Thread} {f : Flow} (h : step den p w s t = .halt (.done f) s') : s' = s ∧ through t = true := by
  obtain ⟨heap, gens, drawn, toks, os⟩ := s
  obtain ⟨cur, code, pos, stack⟩ := t
  have key := fun hp hr => not_done (den := den) (p := p) (w := w) (heap := heap) (gens := gens) (drawn := drawn) (toks := toks) (os := os) (cur := cur) (code := code) (pos := pos) (stack := stack) hp hr
  rw [h] at key
  cases cur with
  | pure x =>
    cases x with
    | again c => cases h
    | done g =>
      cases stack with
      | nil => exact ⟨fin_done h, rfl⟩
      | cons fr rest => cases fr <;> cases h
  | raise e =>
    cases stack with
    | nil => exact (fin_unc h).elim
    | cons fr rest => cases fr <;> cases h
  | _ => exact absurd (key (fun x q => by cases q) (fun e q => by cases q)) (Bool.noConfusion : ¬ true = false)
theorem runN_through {den : Code → Sem Fin} {p : Program} {w : World} {f : Flow} {s' : Shared} : ∀ (n : Nat) (s : Shared) (t : Thread), runN den p w n s t = .halted (.done f) s' → ∃ m t', runN den p w m s t = .running s' t' ∧ through t' = true
  | 0, s, t, h => by cases h
  | n + 1, s, t, h => by
    simp only [runN] at h
    cases hs : step den p w s t with
    | go s1 t1 =>
      simp only [hs] at h
      obtain ⟨m, t', e, ht⟩ := runN_through n s1 t1 h
      exact ⟨m + 1, t', by simp only [runN, hs]; exact e, ht⟩
    | halt o s1 =>
      simp only [hs] at h
      injection h with h1 h2
      subst h1; subst h2
      obtain ⟨e, ht⟩ := step_done hs
      exact ⟨0, t, by rw [e]; rfl, ht⟩
theorem top_ends {prog : Program} {w : World} {t : Sem Fin} {s : Shared} {R : Shared → Prop} (hreg : s.asleep)
    (h : wpAny (model prog w) callerA t (fun fin s' => ∃ f, fin = .done f ∧ R s' ∧ s'.gens = #[]) (fun _ _ => False) s) :
    ∃ n t' s', schedN (denote table) prog w n (.single s ⟨t, .builtin "claim.caller" {}, default, []⟩) = .running (.single s' t') ∧ through t' = true ∧ s'.heap.life = s.heap.life ∧ R s' := by
  have h' := wp_of_wpAny_done (R := fun r s' => (((∃ f, r = .ok f) ∧ R s') ∧ s'.gens = #[]) ∧ leftWithCleanup s'.gens = false) caller_in
    (wpAny_mono h (fun _ _ ⟨f, e, a, b⟩ => ⟨f, e, ⟨⟨⟨f, rfl⟩, a⟩, b⟩, by rw [b]; simp [leftWithCleanup]⟩) fun _ _ a => a.elim) default
  obtain ⟨n, r, s₁, hn, ⟨⟨f, hf⟩, hR⟩, hg⟩ := (wp_iff_halts (M := model prog w) (R := fun r s' => ((∃ f, r = .ok f) ∧ R s') ∧ s'.gens = #[]) ..).mp h'
  subst hf
  obtain ⟨s₂, hr, hfo, hc⟩ := runNI_real _ _ _ hn (outcomeOf_ends _)
  obtain rfl : s₂ = s₁ := Shared.eq_of_forget_eq hfo hg
  obtain ⟨m, t', hm, ht⟩ := runN_through (f := f) n _ _ hr
  have hne : ∀ k s₃, runN (denote table) prog w k s ⟨t, .builtin "claim.caller" {}, default, []⟩ ≠ .halted (.unsupported "lifetime:generator-with-cleanup-left-suspended") s₃ := by
    intro k s₃ hk
    have a := runN_mono (denote table) prog w n k _ _ _ _ hr
    have b := runN_mono (denote table) prog w k n _ _ _ _ hk
    rw [Nat.add_comm, b] at a
    injection a with a1 _
    cases a1
  exact ⟨m, t', s₂, (schedN_eq_runN (denote table) prog w s _ hreg ⟨hc, hne⟩ m).trans (congrArg Run.lift hm), ht, runN_life _ _ _ hr, hR⟩
end Mine
end
section
open PySem PySem.W PyProof.Rows
namespace Mine
set_option autoImplicit false
section
variable {prog : Program} {w : World} {A : Around} {E : Value → Shared → Prop} {s : Shared}
noncomputable def PairOk (prog : Program) (w : World) (p : Sem Value × Sem Value) (y : Int × Str) : Prop :=
  (∀ (A : Around) (E : Value → Shared → Prop) (s : Shared) (Q : Value → Shared → Prop), (∀ t tk, Q (.int y.1 t) { s with toks := tk }) → wpAny (model prog w) A p.1 Q E s) ∧
  (∀ (A : Around) (E : Value → Shared → Prop) (s : Shared) (Q : Value → Shared → Prop), (∀ t tk, Q (.str y.2 t) { s with toks := tk }) → wpAny (model prog w) A p.2 Q E s)
inductive PairsOk (prog : Program) (w : World) : List (Sem Value × Sem Value) → List (Int × Str) → Prop
  | nil : PairsOk prog w [] []
  | cons {p y ps T} : PairOk prog w p y → PairsOk prog w ps T → PairsOk prog w (p :: ps) (y :: T)
inductive RelT : List (Int × Value) → List (Int × Str) → Prop
  | nil : RelT [] []
  | cons {k : Int} {y : Str} {t : Tok} {kvs : List (Int × Value)} {T : List (Int × Str)} : RelT kvs T → RelT ((k, .str y t) :: kvs) ((k, y) :: T)
theorem RelT.append {a b : List (Int × Value)} {S T : List (Int × Str)} (h : RelT a S) (g : RelT b T) : RelT (a ++ b) (S ++ T) := by
  induction h with
  | nil => exact g
  | cons _ ih => exact .cons ih
theorem RelT.keys {a : List (Int × Value)} {S : List (Int × Str)} (h : RelT a S) : a.map (·.1) = S.map (·.1) := by
  induction h with
  | nil => rfl
  | cons _ ih => simp [ih]
theorem RelT.length {a : List (Int × Value)} {S : List (Int × Str)} (h : RelT a S) : a.length = S.length := by
  have := congrArg List.length h.keys; simpa using this
theorem PairsOk.length {ps : List (Sem Value × Sem Value)} {T : List (Int × Str)} (h : PairsOk prog w ps T) : ps.length = T.length := by
  induction h with
  | nil => rfl
  | cons _ _ ih => simp [ih]
theorem PairsOk.snoc {ps : List (Sem Value × Sem Value)} {T : List (Int × Str)} {p y} (h : PairsOk prog w ps T) (hp : PairOk prog w p y) : PairsOk prog w (ps ++ [p]) (T ++ [y]) := by
  induction h with
  | nil => exact .cons hp .nil
  | cons a _ ih => exact .cons a ih
inductive ValsOk : List (Value × Value) → List (Int × Str) → Prop
  | nil : ValsOk [] []
  | cons {k : Int} {y : Str} {t u : Tok} {vs T} : ValsOk vs T → ValsOk ((.int k t, .str y u) :: vs) ((k, y) :: T)
theorem evalPairs_ok {ps : List (Sem Value × Sem Value)} {T : List (Int × Str)} (h : PairsOk prog w ps T) : ∀ {s : Shared} {Q : List (Value × Value) → Shared → Prop}, (∀ vs tk, ValsOk vs T → Q vs { s with toks := tk }) → wpAny (model prog w) A (evalPairs ps) Q E s := by
  induction h with
  | nil => intro s Q hQ; exact evalPairs_nil (hQ [] s.toks .nil)
  | @cons p y ps T hp _ ih =>
    intro s Q hQ
    obtain ⟨p1, p2⟩ := p
    refine evalPairs_cons (hp.1 _ _ _ _ fun t tk => hp.2 _ _ _ _ fun u tk2 => ih fun vs tk3 hv => ?_)
    exact hQ _ tk3 (.cons hv)
theorem ValsOk.carries {vs : List (Value × Value)} {T : List (Int × Str)} (h : ValsOk vs T) : ∃ kvs, Carries (intKind prog w) vs kvs ∧ RelT kvs T := by
  induction h with
  | nil => exact ⟨[], trivial, .nil⟩
  | @cons k y t u vs T _ ih =>
    obtain ⟨kvs, h1, h2⟩ := ih
    exact ⟨(k, .str y u) :: kvs, ⟨intKind_is _ _ _ _, rfl, h1⟩, .cons h2⟩
theorem stored_new {kvs : List (Int × Value)} {k : Int} {v : Value} (hn : (kvs.map (·.1)).Nodup) (h : k ∉ kvs.map (·.1)) : stored kvs k v = kvs ++ [(k, v)] :=
  merged_append_of_fresh kvs [(k, v)] (by
    rw [List.map_append, List.nodup_append]
    refine ⟨hn, by simp, fun a ha b hb => ?_⟩
    simp at hb
    subst hb
    exact fun e => h (e ▸ ha))
theorem subDict_ok {ps : List (Sem Value × Sem Value)} {T : List (Int × Str)} (h : PairsOk prog w ps T) (hn : (T.map (·.1)).Nodup) (hl : T.length ≤ 1000) {Q : Addr → Shared → Prop}
    (hQ : ∀ h' tk kvs, RelT kvs T → h'.DictOf (intKind prog w) s.heap.objs.size kvs → (∀ b o, s.heap.get? b = some o → h'.get? b = some o) → Q s.heap.objs.size { s with heap := h', toks := tk }) :
    wpAny (model prog w) A (subDict ps) Q E s := by
  unfold subDict
  refine wpAny_bind (wpAny_alloc ?_)
  have hnew : (s.heap.push { cls := .type "dict", data := .dict #[] }).DictOf (intKind prog w) s.heap.objs.size [] := Heap.DictOf.new _
  have hkeep : ∀ h', Heap.SameBut s.heap.objs.size (s.heap.push { cls := .type "dict", data := .dict #[] }) h' → ∀ b o, s.heap.get? b = some o → h'.get? b = some o := fun h' hs b o e =>
    (hs.2 b (Nat.ne_of_lt (Heap.lt_size e))).trans (Heap.get?_push_of_some _ e)
  refine wpAny_bind (wpAny_holding ?_)
  split
  · refine wpAny_bind (evalPairs_ok h fun vs tk hv => ?_)
    obtain ⟨kvs, hc, hr⟩ := hv.carries (prog := prog) (w := w)
    refine wpAny_holding (wpAny_bind (wpAny_storeAll (knd := intKind prog w) vs kvs [] _ _ hc hnew ?_ fun h' hm hs => wpAny_pure (wpAny_pure (hQ h' _ kvs hr ?_ (hkeep h' hs)))))
    · have := hr.length; simp only [List.length_nil]; have : sizeLine = 16777216 := rfl; lia
    · rw [← merged_nil_of_nodup kvs (by rw [hr.keys]; exact hn)]; exact hm
  · refine wpAny_bind (wpAny_rule ?_)
    refine wpAny_bind (wpAny_forIn_list _ (fun (rest : List (Sem Value × Sem Value)) (_ : PUnit) s' => ∃ Td Tr kvs h' tk, T = Td ++ Tr ∧ PairsOk prog w rest Tr ∧ RelT kvs Td ∧ s' = { s with heap := h', toks := tk } ∧ h'.DictOf (intKind prog w) s.heap.objs.size kvs ∧ (∀ b o, s.heap.get? b = some o → h'.get? b = some o)) _ ?_ ?_ _ _ ⟨[], T, [], _, _, rfl, h, .nil, rfl, hnew, hkeep _ (Heap.SameBut.refl _ _)⟩)
    · rintro ⟨p1, p2⟩ rest b s' ⟨Td, Tr, kvs, h', tk, hT, hp, hr, rfl, hd, hk⟩
      cases hp with
      | @cons _ y _ Tr hp hps =>
        obtain ⟨k, x⟩ := y
        have hnk : k ∉ kvs.map (·.1) := by
          rw [hr.keys]
          intro hm
          rw [hT, List.map_append, List.nodup_append] at hn
          exact hn.2.2 k hm k (by simp) rfl
        have hnd : (kvs.map (·.1)).Nodup := by
          rw [hr.keys]
          rw [hT, List.map_append, List.nodup_append] at hn
          exact hn.1
        have hlen : kvs.length ≤ sizeLine := by
          have := hr.length
          have e : sizeLine = 16777216 := rfl
          rw [hT, List.length_append] at hl
          lia
        refine wpAny_bind (hp.1 _ _ _ _ fun t tk1 => wpAny_bind (wpAny_holding (hp.2 _ _ _ _ fun u tk2 => wpAny_bind (wpAny_holding ?_))))
        refine wpAny_dictSet_pairs (knd := intKind prog w) (k := k) (intKind_is _ _ _ _) hd (fun h2 hd2 hs2 => wpAny_pure ?_) hlen
        rw [stored_new hnd hnk] at hd2
        refine ⟨Td ++ [(k, x)], Tr, kvs ++ [(k, .str x u)], h2, _, by rw [hT]; simp, hps, hr.append (.cons .nil), rfl, hd2, fun b o e => ?_⟩
        rw [hs2.2 b (Nat.ne_of_lt (Heap.lt_size e))]
        exact hk b o e
    · rintro b s' ⟨Td, Tr, kvs, h', tk, hT, hp, hr, rfl, hd, hk⟩
      cases hp
      rw [List.append_nil] at hT
      subst hT
      exact wpAny_pure (wpAny_pure (hQ h' tk kvs hr hd hk))
theorem put_ok {d : Addr} {kvs : List (Int × Value)} {k : Int} {key v : Value} {Q : Unit → Shared → Prop} (hkey : (intKind prog w).is k key = true) (hm : s.heap.DictOf (intKind prog w) d kvs)
    (hQ : ∀ h', h'.DictOf (intKind prog w) d (stored kvs k v) → Heap.SameBut d s.heap h' → Q () { s with heap := h' }) (hsz : kvs.length ≤ sizeLine) :
    wpAny (model prog w) A (dictPut d ((intKind prog w).hash k) key v) Q E s := by
  obtain ⟨o, es, ep, ho, hc, hd, hk, hp, hn⟩ := hm
  have hes : es.size ≤ sizeLine := by
    have e1 := hp.length
    have e2 : es.toList.length = es.size := by simp
    lia
  unfold dictPut
  refine wpAny_bind (wpAny_dictFind_of hkey ho hd hk ?_)
  have hidx : (es.findIdx? fun e => (intKind prog w).is k e.key) = kvs.findIdx? fun kv => decide (kv.1 = k) := by
    rw [← hp.findIdx k]; obtain ⟨l⟩ := es; simp
  cases hi : es.findIdx? fun e => (intKind prog w).is k e.key with
  | some i =>
    refine wpAny_updateDict ho hd (hQ _ ⟨_, _, ep, Heap.get?_update_self _ ho (Obj.isFreed_of_dict (Obj.data_mapDict hd _)),
      hc.mapDict _, Obj.data_mapDict hd _, hk.modify _ _, ?_, ?_⟩ (Heap.SameBut.update ..))
    · rw [stored, if_pos (any_of_findIdx_some (hidx ▸ hi))]
      have hl : (es.toList.findIdx? fun e => (intKind prog w).is k e.key) = some i := by rw [← hi]; obtain ⟨l⟩ := es; simp
      have := hp.modify hn hl v
      obtain ⟨l⟩ := es
      simpa using this
    · rw [stored, if_pos (any_of_findIdx_some (hidx ▸ hi)), keys_map_store]; exact hn
  | none =>
    have hnot : k ∉ kvs.map (·.1) := not_mem_of_findIdx_none (hidx ▸ hi)
    have hany : ¬ (kvs.any fun kv => decide (kv.1 = k)) = true := by
      rw [List.any_eq_true]; rintro ⟨kv, hkv, he⟩
      exact hnot (List.mem_map.mpr ⟨kv, hkv, of_decide_eq_true he⟩)
    refine wpAny_updateDictKeys (hz := hes) ho hd (hQ _ ⟨_, _, ep + 1, Heap.get?_update_self _ ho (Obj.isFreed_of_dict (Obj.data_mapDictKeys hd _)),
      hc.mapDictKeys _, Obj.data_mapDictKeys hd _, hk.push hkey _, ?_, ?_⟩ (Heap.SameBut.update ..))
    · rw [stored, if_neg hany]
      have := hp.append hkey ((intKind prog w).hash k) v
      obtain ⟨l⟩ := es
      simpa using this
    · rw [stored, if_neg hany, List.map_append, List.nodup_append]
      refine ⟨hn, by simp, ?_⟩
      intro a ha b hb
      simp only [List.map_cons, List.map_nil, List.mem_singleton] at hb
      subst hb
      exact fun e => hnot (e ▸ ha)
theorem merge_ok {d o : Addr} {kvs more : List (Int × Value)} {Q : Unit → Shared → Prop} (hdo : d ≠ o) (hoS : (o == sysModules) = false) (hne : kvs ≠ [])
    (hd : s.heap.DictOf (intKind prog w) d kvs) (ho : s.heap.DictOf (intKind prog w) o more)
    (hQ : ∀ h', h'.DictOf (intKind prog w) d (merged kvs more) → Heap.SameBut d s.heap h' → Q () { s with heap := h' })
    (hsz : kvs.length + more.length ≤ sizeLine) :
    wpAny (model prog w) A (mergeMapping d (.ref o) false) Q E s := by
  obtain ⟨od, esd, epd, hod, hcd, hdd, hkd, hpd, hnd⟩ := id hd
  obtain ⟨oo, eso, epo, hoo, hco, hdo', hko, hpo, hno⟩ := id ho
  have hT : s.TypeIs (.ref o) "dict" := ⟨oo, hoo, hco.1⟩
  have hlen : more.length = eso.size := by rw [← hpo.length]; simp
  unfold mergeMapping
  refine wpAny_bind (wpAny_isInstance hT PySem.isSubtype_dict_dict ?_)
  simp only [if_true]
  refine wpAny_bind (wpAny_specialOf hT PySem.F.slot_dict_iter.lookup ?_)
  rw [show ((some (Value.builtin "dict.__iter__") : Option Value) == some (Value.builtin "dict.__iter__")) = true from beq_self_eq_true _]
  refine wpAny_bind (wpAny_pure ?_)
  dsimp only
  rw [if_neg (by rw [hoS]; exact Bool.false_ne_true)]
  refine wpAny_bind (wpAny_dictEntries hod hdd ?_)
  have hemp : ¬ (esd.isEmpty = true) := fun q => by
    have h0 : esd = #[] := Array.isEmpty_iff.mp q
    have := hpd.length; rw [h0] at this; exact hne (List.length_eq_zero_iff.mp (by simpa using this.symm))
  rw [if_neg hemp]
  refine wpAny_bind (wpAny_dictEntries hoo hdo' ?_)
  refine wpAny_bind (wpAny_dictEpoch hoo hdo' ?_)
  simp only [Bool.false_eq_true, if_false]
  refine wpAny_bind (wpAny_forIn_list _
      (fun rest (_ : PUnit) s' => ∃ h' i, s' = { s with heap := h' } ∧ rest = List.range' i (eso.size - i) ∧ i ≤ eso.size ∧ h'.DictOf (intKind prog w) d (merged kvs (more.take i)) ∧ h'.get? o = some oo ∧ Heap.SameBut d s.heap h')
      _ ?_ ?_ _ _ ⟨s.heap, 0, rfl, by rw [List.range_eq_range']; simp, Nat.zero_le _, by simpa [merged] using hd, hoo, Heap.SameBut.refl _ _⟩)
  · rintro x rest b s' ⟨h', i, rfl, hr, hi, hd', hoo', hs'⟩
    have hlt : i < eso.size := by
      rcases Nat.lt_or_ge i eso.size with h | h
      · exact h
      · rw [Nat.sub_eq_zero_of_le h] at hr; simp at hr
    obtain ⟨rfl, hrest⟩ : x = i ∧ rest = List.range' (i + 1) (eso.size - (i + 1)) := by
      have e : eso.size - i = (eso.size - (i + 1)) + 1 := by rw [Nat.sub_add_eq, Nat.sub_add_cancel (Nat.sub_pos_of_lt hlt)]
      rw [e, List.range'_succ] at hr
      injection hr with h1 h2
      exact ⟨h1, h2⟩
    refine wpAny_bind (wpAny_dictEntries hoo' hdo' ?_)
    rw [Array.getElem?_eq_getElem hlt]
    obtain ⟨kv, hkv⟩ : ∃ kv, more[x]? = some kv := ⟨more[x]'(by rw [hlen]; exact hlt), List.getElem?_eq_getElem _⟩
    obtain ⟨k, v⟩ := kv
    obtain ⟨hkey, hval⟩ := hpo.get? (e := eso[x]) (by simp [hlt]) hkv
    obtain ⟨k', hkey', hhash⟩ := hko eso[x] (Array.getElem_mem hlt)
    obtain rfl : k' = k := (intKind prog w).inj _ _ _ hkey' hkey
    dsimp only
    rw [hhash, hval]
    have hmx : (merged kvs (more.take x)).length ≤ sizeLine := by
      have e1 := merged_length_le kvs (more.take x)
      have e2 : (more.take x).length ≤ more.length := by rw [List.length_take]; lia
      lia
    refine wpAny_bind (wpAny_holding (put_ok hkey hd' (fun h'' hd'' hs'' => ?_) hmx))
    have hoo'' : h''.get? o = some oo := (hs''.2 o (Ne.symm hdo)).trans hoo'
    refine wpAny_bind (wpAny_dictEpoch hoo'' hdo' ?_)
    rw [if_neg (by simp)]
    exact wpAny_pure ⟨h'', x + 1, rfl, hrest, hlt, by rw [merged_take_succ kvs more x (k', v) hkv]; exact hd'', hoo'', hs'.trans hs''⟩
  · rintro b s' ⟨h', i, rfl, hr, hi, hd', hoo', hs'⟩
    have hin : i = eso.size := by
      rcases Nat.lt_or_ge i eso.size with h | h
      · have e : eso.size - i = (eso.size - (i + 1)) + 1 := by rw [Nat.sub_add_eq, Nat.sub_add_cancel (Nat.sub_pos_of_lt h)]
        rw [e, List.range'_succ] at hr; exact nomatch hr
      · exact Nat.le_antisymm hi h
    refine wpAny_pure (hQ h' ?_ hs')
    rw [hin, ← hlen, List.take_length] at hd'; exact hd'
noncomputable def DSt (prog : Program) (w : World) (s : Shared) (main : Option Addr) (Td : List (Int × Str)) (s' : Shared) : Prop :=
  ∃ h' tk, s' = { s with heap := h', toks := tk } ∧ (∀ b o, s.heap.get? b = some o → h'.get? b = some o) ∧ s.heap.objs.size ≤ h'.objs.size ∧
    ((main = none ∧ Td = []) ∨ ∃ d kvs, main = some d ∧ Td ≠ [] ∧ s.heap.objs.size ≤ d ∧ RelT kvs Td ∧ h'.DictOf (intKind prog w) d kvs)
noncomputable def flushC (run : List (Sem Value × Sem Value)) (main : Option Addr) : Sem (Option Addr) := do
    if run.isEmpty then return main
    match main with
    | none => return some (← subDict run)
    | some d =>
      let sub ← holding [.ref d] (subDict run)
      (holding [.ref d, .ref sub] (mergeMapping d (.ref sub) false)).onRaise fun x => do let _ ← holding [.ref d, x] (runValue (.builtin "proto.let_go" {}))
      return some d
theorem flush_ok {run : List (Sem Value × Sem Value)} {main : Option Addr} {Td Tr : List (Int × Str)} {s' : Shared} (hS : sysModules < s.heap.objs.size) (hst : DSt prog w s main Td s') (hr : PairsOk prog w run Tr) (hne : Tr ≠ [])
    (hn : ((Td ++ Tr).map (·.1)).Nodup) (hl : (Td ++ Tr).length ≤ 100000) (hl2 : Tr.length ≤ 17) {Q : Option Addr → Shared → Prop}
    (hQ : ∀ d s'', DSt prog w s (some d) (Td ++ Tr) s'' → Q (some d) s'') : wpAny (model prog w) A (flushC run main) Q E s' := by
  obtain ⟨h', tk, rfl, hk, hsz, hm⟩ := hst
  have hrun : run.isEmpty = false := by
    cases hr with
    | nil => exact absurd rfl hne
    | cons _ _ => rfl
  unfold flushC
  rw [if_neg (by rw [hrun]; exact Bool.false_ne_true)]
  rw [List.map_append, List.nodup_append] at hn
  rw [List.length_append] at hl
  rcases hm with ⟨rfl, rfl⟩ | ⟨d, kvs, rfl, hTd, hd, hrel, hdo⟩
  · dsimp only
    refine wpAny_bind (subDict_ok hr hn.2.1 (by lia) fun h2 tk2 kvs hrel hdo hk2 => wpAny_pure (hQ _ _ ⟨h2, tk2, rfl, fun b o e => hk2 b o (hk b o e), ?_, .inr ⟨_, kvs, rfl, by simpa using hne, hsz, hrel, hdo⟩⟩))
    obtain ⟨o, _, _, ho, _⟩ := hdo
    exact Nat.le_of_lt (Nat.lt_of_le_of_lt hsz (Heap.lt_size ho))
  · dsimp only
    refine wpAny_bind (wpAny_holding (subDict_ok hr hn.2.1 (by lia) fun h2 tk2 kvs2 hrel2 hdo2 hk2 => ?_))
    have hdl : d < h'.objs.size := by obtain ⟨o, _, _, ho, _⟩ := hdo; exact Heap.lt_size ho
    have hdo' : h2.DictOf (intKind prog w) d kvs := by
      obtain ⟨o, es, ep, ho, r⟩ := hdo
      exact ⟨o, es, ep, hk2 _ _ ho, r⟩
    have hnd : ((kvs ++ kvs2).map (·.1)).Nodup := by
      rw [List.map_append, hrel.keys, hrel2.keys, List.nodup_append]; exact hn
    have hsz2 : s.heap.objs.size ≤ h2.objs.size := by
      obtain ⟨o, _, _, ho, _⟩ := hdo2
      exact Nat.le_of_lt (Nat.lt_of_le_of_lt hsz (Heap.lt_size ho))
    have l1 := hrel.length
    have l2 := hrel2.length
    refine wpAny_bind (wpAny_onRaise (wpAny_holding (merge_ok (kvs := kvs) (more := kvs2) (Nat.ne_of_lt hdl) ?_ ?_ hdo' hdo2 (fun h3 hd3 hs3 => wpAny_pure (hQ _ _ ⟨h3, tk2, rfl, fun b o e => ?_, ?_, .inr ⟨d, kvs ++ kvs2, rfl, ?_, hd, hrel.append hrel2, ?_⟩⟩)) ?_)))
    · exact beq_eq_false_iff_ne.mpr (Nat.ne_of_gt (Nat.lt_of_lt_of_le hS hsz))
    · intro q
      rw [q] at l1
      exact hTd (List.length_eq_zero_iff.mp l1.symm)
    · rw [hs3.2 b (Nat.ne_of_lt (Nat.lt_of_lt_of_le (Heap.lt_size e) hd))]
      exact hk2 b o (hk b o e)
    · show s.heap.objs.size ≤ h3.objs.size
      rw [hs3.1]; exact hsz2
    · intro q
      exact hTd (List.append_eq_nil_iff.mp q).1
    · rw [← merged_append_of_fresh kvs kvs2 hnd]; exact hd3
    · have : sizeLine = 16777216 := rfl
      lia
theorem display_ok {ps : List (Sem Value × Sem Value)} {T : List (Int × Str)} (h : PairsOk prog w ps T) (hn : (T.map (·.1)).Nodup) (hl : T.length ≤ 100000) (h0 : T ≠ []) (hS : sysModules < s.heap.objs.size) {Q : Value → Shared → Prop}
    (hQ : ∀ a h' tk kvs, RelT kvs T → s.heap.objs.size ≤ a → h'.DictOf (intKind prog w) a kvs → (∀ b o, s.heap.get? b = some o → h'.get? b = some o) → Q (.ref a) { s with heap := h', toks := tk }) :
    wpAny (model prog w) A (dictDisplay (ps.map fun p => (some p.1, p.2))) Q E s := by
  unfold dictDisplay
  dsimp only
  refine wpAny_bind (wpAny_forIn_list _ (fun (rest : List (Option (Sem Value) × Sem Value)) (b : Option Addr × List (Sem Value × Sem Value)) s' => ∃ prest Td Tr Tx, rest = prest.map (fun p => (some p.1, p.2)) ∧ PairsOk prog w prest Tx ∧ PairsOk prog w b.2 Tr ∧ T = Td ++ Tr ++ Tx ∧ b.2.length < 17 ∧ DSt prog w s b.1 Td s') _ ?_ ?_ _ _ ⟨ps, [], [], T, rfl, h, .nil, rfl, by decide, s.heap, s.toks, rfl, fun _ _ e => e, Nat.le_refl _, .inl ⟨rfl, rfl⟩⟩)
  · rintro ⟨x, v⟩ rest ⟨main, run⟩ s' ⟨prest, Td, Tr, Tx, hre, hpx, hpr, hT, hrl, hst⟩
    cases hpx with
    | nil => simp at hre
    | @cons p y prest Tx hp hpx =>
      simp only [List.map_cons, List.cons.injEq, Prod.mk.injEq] at hre
      obtain ⟨⟨rfl, rfl⟩, rfl⟩ := hre
      simp only at hpr hrl hst
      have hpr2 := hpr.snoc hp
      have hT2 : T = Td ++ (Tr ++ [y]) ++ Tx := by rw [hT]; simp
      dsimp only
      split
      · rename_i h17
        have hn2 : ((Td ++ (Tr ++ [y])).map (·.1)).Nodup := by
          rw [hT2, List.map_append, List.nodup_append] at hn
          exact hn.1
        have hl2 : (Td ++ (Tr ++ [y])).length ≤ 100000 := by
          rw [hT2, List.length_append] at hl
          lia
        have hrn := hpr.length
        refine wpAny_bind ?_
        exact flush_ok (s := s) hS hst hpr2 (by simp) hn2 hl2 (by rw [List.length_append, ← hrn]; simp; lia) fun d s'' hd => wpAny_pure ⟨prest, Td ++ (Tr ++ [y]), [], Tx, rfl, hpx, .nil, by rw [hT2]; simp, Nat.succ_pos 16, hd⟩
      · rename_i h17
        refine wpAny_pure ⟨prest, Td, Tr ++ [y], Tx, rfl, hpx, hpr2, hT2, ?_, hst⟩
        simp only [List.length_append, List.length_singleton, beq_iff_eq] at h17 ⊢
        lia
  · rintro ⟨main, run⟩ s' ⟨prest, Td, Tr, Tx, hre, hpx, hpr, hT, hrl, hst⟩
    have hp0 : prest = [] := by
      cases prest with
      | nil => rfl
      | cons _ _ => simp at hre
    subst hp0
    cases hpx
    rw [List.append_nil] at hT
    have fin : ∀ d s'', DSt prog w s (some d) T s'' → Q (.ref d) s'' := fun d s'' hd => by
      obtain ⟨h2, tk, rfl, hk, hsz, hm⟩ := hd
      rcases hm with ⟨q, _⟩ | ⟨d', kvs, q, _, hdd, hrel, hdo⟩
      · cases q
      · cases q
        exact hQ d h2 tk kvs hrel hdd hdo hk
    have hrn := hpr.length
    simp only at hpr hrl hst hrn
    cases hTr : Tr with
    | nil =>
      subst hTr
      cases hpr
      rw [List.append_nil] at hT
      subst hT
      obtain ⟨h2, tk, rfl, hk, hsz, hm⟩ := id hst
      rcases hm with ⟨_, q⟩ | ⟨d, kvs, rfl, _⟩
      · exact absurd q h0
      · refine wpAny_bind ?_
        refine wpAny_pure ?_
        exact wpAny_pure (fin d _ hst)
    | cons y Tr' =>
      refine wpAny_bind ?_
      exact flush_ok (s := s) hS hst hpr (by rw [hTr]; simp) (by rw [← hT]; exact hn) (by rw [← hT]; exact hl) (by lia) fun d s'' hd => wpAny_pure (fin d s'' (hT ▸ hd))
noncomputable def litP : Option Expr → Expr → Option (Int × Str)
  | some (.Constant (.int i) _ _), .Constant (.str x) _ _ => some (i, x)
  | _, _ => none
noncomputable def litT : List (Option Expr) → List Expr → Option (List (Int × Str))
  | [], [] => some []
  | k :: ks, v :: vs => match litP k v, litT ks vs with
    | some y, some T => some (y :: T)
    | _, _ => none
  | _, _ => none
theorem litP_ok {env : Env} {pos : Pos} {k : Option Expr} {v : Expr} {y : Int × Str} (h : litP k v = some y) : ∃ e, k = some e ∧ PairOk prog w (eval e env, do let x ← eval v env; standAt pos; pure x) y := by
  unfold litP at h
  split at h
  · rename_i i c p x c' p'
    cases h
    refine ⟨_, rfl, fun A E s Q hQ => ?_, fun A E s Q hQ => ?_⟩
    · exact wpAny_Constant_int (i := i) (k := c) (pos := p) (env := env) (hQ _ _)
    · exact wpAny_bind (wpAny_Constant_str (x := x) (k := c') (pos := p') (env := env) (wpAny_bind (wpAny_standAt (wpAny_pure (hQ _ _)))))
  · cases h
theorem pairs_lit {env : Env} {pos : Pos} : ∀ (keys : List (Option Expr)) (values : List Expr) (T : List (Int × Str)), litT keys values = some T → PairsOk prog w (pairTrees keys values env pos) T ∧ keys.all (·.isSome) = true ∧ keys.length = values.length
  | [], [], T, h => by cases h; exact ⟨.nil, rfl, rfl⟩
  | [], _ :: _, T, h => by simp [litT] at h
  | _ :: _, [], T, h => by simp [litT] at h
  | k :: ks, v :: vs, T, h => by
    unfold litT at h
    split at h
    · rename_i y T' hp hT
      cases h
      obtain ⟨e, rfl, hk⟩ := litP_ok (prog := prog) (w := w) (env := env) (pos := pos) hp
      obtain ⟨h1, h2, h3⟩ := pairs_lit ks vs T' hT
      exact ⟨.cons hk h1, by simp [h2], by simp [h3]⟩
    · cases h
noncomputable def upB : List (Int × Str) → Bool
  | [] => true
  | [_] => true
  | a :: b :: r => decide (a.1 < b.1) && upB (b :: r)
theorem up_lt : ∀ (a : Int × Str) (r : List (Int × Str)), upB (a :: r) = true → ∀ x, x ∈ r → a.1 < x.1
  | a, [], _, x, hx => by cases hx
  | a, b :: r, h, x, hx => by
    simp only [upB, Bool.and_eq_true, decide_eq_true_eq] at h
    rcases List.mem_cons.mp hx with rfl | hx
    · exact h.1
    · exact Int.lt_trans h.1 (up_lt b r h.2 x hx)
theorem up_nodup : ∀ {T : List (Int × Str)}, upB T = true → (T.map (·.1)).Nodup
  | [], _ => List.nodup_nil
  | a :: r, h => by
    rw [List.map_cons, List.nodup_cons]
    refine ⟨fun hm => ?_, up_nodup (by cases r <;> simp_all [upB])⟩
    obtain ⟨x, hx, e⟩ := List.mem_map.mp hm
    have := up_lt a r h x hx
    lia
theorem Dict_int {env : Env} {keys : List (Option Expr)} {values : List Expr} {pos : Pos} {T : List (Int × Str)} (hT : litT keys values = some T) (hn : upB T = true) (hl : T.length ≤ 100000) (h0 : T ≠ []) (hS : sysModules < s.heap.objs.size) {Q : Value → Shared → Prop}
    (hQ : ∀ a h' tk kvs, RelT kvs T → s.heap.objs.size ≤ a → h'.DictOf (intKind prog w) a kvs → (∀ b o, s.heap.get? b = some o → h'.get? b = some o) → Q (.ref a) { s with heap := h', toks := tk }) :
    wpAny (model prog w) A (eval (.Dict keys values pos) env) Q E s := by
  obtain ⟨h1, h2, h3⟩ := pairs_lit (prog := prog) (w := w) (env := env) (pos := pos) keys values T hT
  rw [arm_eval_Dict, zip_pairTrees keys values env pos h2 h3]
  exact wpAny_bind (wpAny_standAt (display_ok h1 (up_nodup hn) hl h0 hS hQ))
theorem rel_get : ∀ {kvs : List (Int × Value)} {T : List (Int × Str)}, RelT kvs T → ∀ i, match getT T i with | none => valueAt kvs i = none | some y => ∃ t, valueAt kvs i = some (.str y t)
  | _, _, .nil, i => rfl
  | _, _, .cons (k := k) (y := y) (t := t) (kvs := kvs) (T := T) h, i => by
    have ih := rel_get h i
    unfold getT valueAt at *
    by_cases e : k = i
    · subst e; simp
    · rw [List.find?_cons_of_neg (by simpa using e), List.find?_cons_of_neg (by simpa using e)]
      exact ih
end
end Mine
end
section
open PySem PySem.W PyProof.Rows
namespace Mine
set_option autoImplicit false
noncomputable def Stab (N : Nat) (P : Heap → Value → Prop) : Prop := ∀ h h' v, (∀ b o, N ≤ b → h.get? b = some o → h'.get? b = some o) → P h v → P h' v
structure TopI (h₀ : Heap) (mg₀ : Str → Option Value) (c Pl : Addr) (h : Heap) (mg : Str → Option Value) (ps : Array Value) (vals : List (Str × (Heap → Value → Prop))) (names : List Str) : Prop where
  main : h.Main mg c Pl ps
  keep : ∀ b o, b ≠ Pl → b ≠ mainGlobals → h₀.get? b = some o → h.get? b = some o
  got : ∀ p, p ∈ vals → ∃ v, mg p.1 = some v ∧ p.2 h v
  stab : ∀ p, p ∈ vals → Stab (Pl + 1) p.2
  vnames : ∀ p, p ∈ vals → p.1 ∈ names
  others : ∀ x, x ∉ names → x ≠ "__name__" → mg x = mg₀ x
theorem TopI.start {h : Heap} {mg : Str → Option Value} {c Pl : Addr} (hm : h.Main mg c Pl #[]) : TopI h mg c Pl h mg #[] [] [] :=
  ⟨hm, fun _ _ _ _ e => e, (fun _ hp => by cases hp), (fun _ hp => by cases hp), (fun _ hp => by cases hp), fun _ _ _ => rfl⟩
section
variable {h₀ : Heap} {mg₀ mg : Str → Option Value} {c Pl F : Addr} {h h' : Heap} {ps ps' : Array Value} {vals : List (Str × (Heap → Value → Prop))} {names : List Str}
theorem TopI.put {x : Str} {v : Value} {P : Heap → Value → Prop} (X : TopI h₀ mg₀ c Pl h mg ps vals names) (hnew : x ∉ names) (hm : h'.Main (fun y => if y = x then some v else mg y) c Pl ps')
    (keep : ∀ b o, b ≠ Pl → b ≠ mainGlobals → h.get? b = some o → h'.get? b = some o) (hP : P h' v) (hst : Stab (Pl + 1) P) :
    TopI h₀ mg₀ c Pl h' (fun y => if y = x then some v else mg y) ps' ((x, P) :: vals) (x :: names) := by
  have kN : ∀ b o, Pl + 1 ≤ b → h.get? b = some o → h'.get? b = some o := fun b o hb => keep b o (Nat.ne_of_gt hb) (Nat.ne_of_gt (Nat.lt_trans X.main.low.2 hb))
  refine ⟨hm, fun b o h1 h2 e => keep b o h1 h2 (X.keep b o h1 h2 e), fun p hp => ?_, fun p hp => ?_, fun p hp => ?_, fun y hy hy2 => ?_⟩
  · rcases List.mem_cons.mp hp with rfl | hp
    · exact ⟨v, if_pos rfl, hP⟩
    · obtain ⟨u, h1, h2⟩ := X.got p hp
      have ne : p.1 ≠ x := fun q => hnew (q ▸ X.vnames p hp)
      exact ⟨u, by show (if p.1 = x then _ else mg p.1) = _; rw [if_neg ne]; exact h1, X.stab p hp h h' u kN h2⟩
  · rcases List.mem_cons.mp hp with rfl | hp
    · exact hst
    · exact X.stab p hp
  · rcases List.mem_cons.mp hp with rfl | hp
    · exact List.mem_cons_self
    · exact List.mem_cons_of_mem _ (X.vnames p hp)
  · simp only [List.mem_cons, not_or] at hy
    show (if y = x then _ else mg y) = _
    rw [if_neg hy.1]
    exact X.others y hy.2 hy2
theorem TopI.name {v : Value} (X : TopI h₀ mg₀ c Pl h mg ps vals names) (hnew : ("__name__" : Str) ∉ names) (hm : h'.Main (fun y => if y = "__name__" then some v else mg y) c Pl ps')
    (keep : ∀ b o, b ≠ Pl → b ≠ mainGlobals → h.get? b = some o → h'.get? b = some o) :
    TopI h₀ mg₀ c Pl h' (fun y => if y = "__name__" then some v else mg y) ps' vals names := by
  have Y := X.put (P := fun _ _ => True) hnew hm keep trivial fun _ _ _ _ _ => trivial
  refine ⟨Y.main, Y.keep, fun p hp => Y.got p (List.mem_cons_of_mem _ hp), X.stab, X.vnames, fun y hy hy2 => ?_⟩
  show (if y = _ then _ else mg y) = _
  rw [if_neg hy2]
  exact X.others y hy hy2
theorem TopI.grown {h₁ : Heap} (X : TopI h₀ mg₀ c Pl h mg ps vals names) (hk : ∀ b o, h.get? b = some o → h₁.get? b = some o)   : TopI h₀ mg₀ c Pl h₁ mg ps vals names := by
  obtain ⟨bm, o, hbm, hne0, hneG, hneP, hbo, hrest⟩ := X.main.bmod
  exact ⟨⟨X.main.g.keeps hk, X.main.code.keeps hk, X.main.low, ⟨bm, o, hbm, hne0, hneG, hneP, hk _ _ hbo, hrest⟩⟩, fun b o hP hG e => hk b o (X.keep b o hP hG e),
    fun p hp => let ⟨v, h1, h2⟩ := X.got p hp; ⟨v, h1, X.stab p hp h h₁ v (fun b o _ => hk b o) h2⟩, X.stab, X.vnames, X.others⟩
end
noncomputable def DefV (N lo hi : Nat) (name : Str) (params : Arguments) (body : List Stmt) (scope : Scope) (h : Heap) (v : Value) : Prop :=
  ∃ a c' P' o pm doc, v = .ref a ∧ N ≤ a ∧ N ≤ c' ∧ N ≤ P' ∧ lo ≤ P' ∧ P' < hi ∧ h.get? a = some o ∧ o.data = .func (Calls.docDef name params body scope pm (.ref c') doc) ∧ h.CodeRec (.ref c') name ∧ h.IsCode c' P' #[] ∧ h.TableAt c' P' #[]
theorem DefV.stab {N lo hi : Nat} {name : Str} {params : Arguments} {body : List Stmt} {scope : Scope} : Stab N (DefV N lo hi name params body scope) := by
  intro h h' v hk hh
  obtain ⟨a, c', P', o, pm, doc, h1, h2, h3, h4, h5, h6, h7, h8, h9, h10, h11⟩ := hh
  refine ⟨a, c', P', o, pm, doc, h1, h2, h3, h4, h5, h6, hk _ _ h2 h7, h8, h9.at fun o => hk _ o h3, ?_, ?_⟩
  · obtain ⟨oc, vs, file, tf, flags, tg, inF, text, tt, op, e1, r1, r2, r3, r4, r5, r6, e2, r⟩ := h10
    exact ⟨oc, vs, file, tf, flags, tg, inF, text, tt, op, hk _ _ h3 e1, r1, r2, r3, r4, r5, r6, hk _ _ h4 e2, r⟩
  · obtain ⟨⟨oc', vs', e3, r'⟩, e4⟩ := h11
    exact ⟨⟨oc', vs', hk _ _ h3 e3, r'⟩, hk _ _ h4 e4⟩
section
variable {M : Model} {A : Around} {E : Value → Shared → Prop} {s : Shared} {prog : Program} {c Pl F : Addr} {h₀ : Heap} {mg₀ mg : Str → Option Value} {ps : Array Value} {vals : List (Str × (Heap → Value → Prop))} {names : List Str} {Q : Flow → Shared → Prop}
theorem TopI.def {name : Str} {params : Arguments} {body : List Stmt} {scope : Scope} {pos : Pos} (X : TopI h₀ mg₀ c Pl s.heap mg ps vals names)
    (hexec : PlainDefTree name params body scope pos) (hfree : ∀ x ∈ scope.names, x.2 ≠ .free) (hdoc : docOf body = none)
    (hloc : prog.main.scope.names.lookup name = some .local)
    (hq : qualnameIn { scope := prog.main.scope, locals := mainGlobals, globals := mainGlobals, cells := [] } name name = name)
    (hnew : name ∉ names) (hnb : name ≠ "__builtins__") (hmod : prog.main.scope.kind = .module) (hnf : codeAmong pos ps.toList = none)
    (k : ∀ h' mg' c' tk, TopI h₀ mg₀ c Pl h' mg' (ps ++ #[rawInt pos.line, rawInt pos.col, .ref c']) ((name, DefV (Pl + 1) s.heap.objs.size h'.objs.size name params body scope) :: vals) (name :: names) → Q .next { s with heap := h', toks := tk }) :
    wpAny M A (exec (.FunctionDef name params body [] none [] scope none name pos) (mainEnv prog c F)) Q E s := by
  refine wpAny_plainDefN hexec hfree hdoc hloc hq X.main (fun a c' h' tk ha hm hf hcd htb keep => ?_) hnb hmod hnf
  obtain ⟨P', hP', hi, ht⟩ := htb
  have hN : Pl + 1 ≤ s.heap.objs.size := X.main.code.lt.2
  have haN : Pl + 1 ≤ a := Nat.le_trans hN ha
  refine k h' _ c' tk (X.put hnew hm keep ⟨a, c', P', _, _, .none, rfl, haN, Nat.le_trans hN hcd.1, Nat.le_trans hN hP', hP', hi.lt.2, hf, rfl, hcd.2, hi, ht⟩ DefV.stab)
theorem TopI.store {x : Str} {pos' pos : Pos} {value : Expr} {P : Heap → Value → Prop} (X : TopI h₀ mg₀ c Pl s.heap mg ps vals names)
    (hloc : prog.main.scope.names.lookup x = some .local) (hnb : x ≠ "__builtins__") (hmod : prog.main.scope.kind = .module) (hs : swapsWith value (some (.Name x pos')) pos.line (mainEnv prog c F) = pure false)
    (hval : ∀ Q' : Value → Shared → Prop, (∀ v h₁ tk, (∀ b o, s.heap.get? b = some o → h₁.get? b = some o) → P h₁ v → Q' v { s with heap := h₁, toks := tk }) → wpAny M A (eval value (mainEnv prog c F)) Q' E s)
    (k : ∀ h₁ h' v tk, TopI h₀ mg₀ c Pl h₁ mg ps vals names → P h₁ v → h'.Main (fun y => if y = x then some v else mg y) c Pl ps → (∀ b o, b ≠ Pl → b ≠ mainGlobals → h₁.get? b = some o → h'.get? b = some o) → Q .next { s with heap := h', toks := tk }) :
    wpAny M A (exec (.Assign [.Name x pos'] value pos) (mainEnv prog c F)) Q E s := by
  refine wpAny_Assign_Name (hval _ fun v h₁ tk hk hP => ?_) hs
  have X₁ : TopI h₀ mg₀ c Pl ({ s with heap := h₁, toks := tk } : Shared).heap mg ps vals names := X.grown hk
  refine wpAny_storeName_local (env := mainEnv prog c F) hloc X₁.main.g (fun h' hg' hs' => ?_)
    (by show (prog.main.scope.kind == .class || (prog.main.scope.kind == .module && mainGlobals != mainGlobals)) = false; rw [hmod]; rfl)
  obtain ⟨bm, o, hbm, hne0, hneG, hneP, hbo, hrest⟩ := X₁.main.bmod
  have hm : h'.Main (fun y => if y = x then some v else mg y) c Pl ps :=
    ⟨hg', X₁.main.code.sameBut hs' (Nat.ne_of_gt X₁.main.low.1) (Nat.ne_of_gt X₁.main.low.2), X₁.main.low,
      ⟨bm, o, by simp only [Ne.symm hnb, if_false]; exact hbm, hne0, hneG, hneP, (hs'.2 _ hneG).trans hbo, hrest⟩⟩
  exact k h₁ h' v _ X₁ hP hm fun b o _ hG e => (hs'.2 _ hG).trans e
theorem TopI.assign {x : Str} {pos' pos : Pos} {value : Expr} {P : Heap → Value → Prop} (X : TopI h₀ mg₀ c Pl s.heap mg ps vals names)
    (hloc : prog.main.scope.names.lookup x = some .local) (hnb : x ≠ "__builtins__") (hmod : prog.main.scope.kind = .module) (hs : swapsWith value (some (.Name x pos')) pos.line (mainEnv prog c F) = pure false) (hnew : x ∉ names) (hst : Stab (Pl + 1) P)
    (hval : ∀ Q' : Value → Shared → Prop, (∀ v h₁ tk, (∀ b o, s.heap.get? b = some o → h₁.get? b = some o) → P h₁ v → Q' v { s with heap := h₁, toks := tk }) → wpAny M A (eval value (mainEnv prog c F)) Q' E s)
    (k : ∀ h' mg' tk, TopI h₀ mg₀ c Pl h' mg' ps ((x, P) :: vals) (x :: names) → Q .next { s with heap := h', toks := tk }) :
    wpAny M A (exec (.Assign [.Name x pos'] value pos) (mainEnv prog c F)) Q E s :=
  X.store hloc hnb hmod hs hval fun h₁ h' v tk X₁ hP hm hk => k h' _ tk (X₁.put hnew hm hk (hst h₁ h' v (fun b o hb => hk b o (Nat.ne_of_gt hb) (Nat.ne_of_gt (Nat.lt_trans X.main.low.2 hb))) hP) hst)
theorem TopI.setName {pos' pos : Pos} {x : Str} {cc : Nat} {p : Pos} (X : TopI h₀ mg₀ c Pl s.heap mg ps vals names) (hloc : prog.main.scope.names.lookup ("__name__" : Str) = some .local) (hmod : prog.main.scope.kind = .module)
    (hs : swapsWith (.Constant (.str x) cc p) (some (.Name "__name__" pos')) pos.line (mainEnv prog c F) = pure false) (hnew : ("__name__" : Str) ∉ names)
    (k : ∀ h' mg' tk, TopI h₀ mg₀ c Pl h' mg' ps vals names → Q .next { s with heap := h', toks := tk }) :
    wpAny M A (exec (.Assign [.Name "__name__" pos'] (.Constant (.str x) cc p) pos) (mainEnv prog c F)) Q E s :=
  X.store (P := fun _ _ => True) hloc (by decide) hmod hs (fun Q' hQ' => wpAny_Constant_str (hQ' _ s.heap _ (fun _ _ e => e) trivial)) fun h₁ h' v tk X₁ _ hm hk => k h' _ tk (X₁.name hnew hm hk)
noncomputable def StrV (x : Str) (_ : Heap) (v : Value) : Prop := ∃ t, v = .str x t
noncomputable def IntV (i : Int) (_ : Heap) (v : Value) : Prop := ∃ t, v = .int i t
theorem TopI.assignStr {y : Str} {pos' pos : Pos} {x : Str} {cc : Nat} {p : Pos} (X : TopI h₀ mg₀ c Pl s.heap mg ps vals names) (hloc : prog.main.scope.names.lookup y = some .local) (hnb : y ≠ "__builtins__") (hmod : prog.main.scope.kind = .module)
    (hs : swapsWith (.Constant (.str x) cc p) (some (.Name y pos')) pos.line (mainEnv prog c F) = pure false) (hnew : y ∉ names)
    (k : ∀ h' mg' tk, TopI h₀ mg₀ c Pl h' mg' ps ((y, StrV x) :: vals) (y :: names) → Q .next { s with heap := h', toks := tk }) :
    wpAny M A (exec (.Assign [.Name y pos'] (.Constant (.str x) cc p) pos) (mainEnv prog c F)) Q E s :=
  X.assign hloc hnb hmod hs hnew (fun _ _ _ _ h => h) (fun Q' hQ' => wpAny_Constant_str (hQ' _ s.heap _ (fun _ _ e => e) ⟨_, rfl⟩)) k
theorem TopI.assignInt {y : Str} {pos' pos : Pos} {x : Int} {cc : Nat} {p : Pos} (X : TopI h₀ mg₀ c Pl s.heap mg ps vals names) (hloc : prog.main.scope.names.lookup y = some .local) (hnb : y ≠ "__builtins__") (hmod : prog.main.scope.kind = .module)
    (hs : swapsWith (.Constant (.int x) cc p) (some (.Name y pos')) pos.line (mainEnv prog c F) = pure false) (hnew : y ∉ names)
    (k : ∀ h' mg' tk, TopI h₀ mg₀ c Pl h' mg' ps ((y, IntV x) :: vals) (y :: names) → Q .next { s with heap := h', toks := tk }) :
    wpAny M A (exec (.Assign [.Name y pos'] (.Constant (.int x) cc p) pos) (mainEnv prog c F)) Q E s :=
  X.assign hloc hnb hmod hs hnew (fun _ _ _ _ h => h) (fun Q' hQ' => wpAny_Constant_int (hQ' _ s.heap _ (fun _ _ e => e) ⟨_, rfl⟩)) k
end
end Mine
end
section
open PySem PySem.W PyProof.Rows
set_option maxRecDepth 10000
namespace Mine
set_option autoImplicit false
theorem boot_main (p : Params) : (boot_heap p).isNs mainGlobals = true := by kernel_rfl
theorem boot_blt (p : Params) : (boot_heap p).isNs builtinsNs = true := by kernel_rfl
theorem boot_st (p : Params) : (boot_heap p).isNs cStatics = true := by kernel_rfl
theorem boot_stk (p : Params) : (boot_heap p).nsKeys cStatics = [] := by kernel_rfl
theorem boot_view (p : Params) : (boot_heap p).bltView = bltViewBooted := by kernel_rfl
theorem boot_bm (p : Params) : (boot_heap p).nsMap mainGlobals "__builtins__" = some (.ref 4) := by kernel_rfl
theorem boot_four (p : Params) : (boot_heap p).get? 4 = some { cls := .type "module", dict := some builtinsNs } := by kernel_rfl
theorem boot_keys (p : Params) : (boot_heap p).nsKeys mainGlobals = startupNames := by kernel_rfl
theorem boot_sys' (p : Params) : ((boot_heap p).get? sysModules).isSome = true := by kernel_rfl
theorem boot_sys (p : Params) : ∃ o, (boot_heap p).get? sysModules = some o := Option.isSome_iff_exists.mp (boot_sys' p)
theorem boot_g (p : Params) : (boot_heap p).Ns mainGlobals ((boot_heap p).nsMap mainGlobals) := .of_isNs (boot_main p)
theorem boot_b (p : Params) : (boot_heap p).Ns builtinsNs ((boot_heap p).nsMap builtinsNs) := .of_isNs (boot_blt p)
theorem boot_s (p : Params) : (boot_heap p).Ns cStatics (fun _ => none) := by
  have h : (boot_heap p).Ns cStatics _ := .of_isNs (boot_st p)
  have e : (boot_heap p).nsMap cStatics = fun _ => none := by
    funext x
    exact Heap.nsMap_none (by rw [boot_stk]; exact List.not_mem_nil)
  rwa [e] at h
theorem boot_bmap (p : Params) (x : Str) (hx : x ≠ Str.ofString "__name__") : (boot_heap p).nsMap builtinsNs x = bootBuiltins x := Heap.of_bltView (boot_blt p) (boot_view p) x hx
theorem boot_others (p : Params) {x : Str} (hx : x ∉ startupNames) : (boot_heap p).nsMap mainGlobals x = none := Heap.nsMap_none (by rw [boot_keys]; exact hx)
section
variable {prog : Program} {w : World}
theorem top_stub {s : Shared} {Q : Fin → Shared → Prop} (e : s.heap = boot_heap w.params) (hann : hasAnns (behindTheImports prog) = false) (hdoc : docOf (behindTheImports prog) = none)
    (h : ∀ c Pl F h₁ tk, (∀ b o, s.heap.get? b = some o → h₁.get? b = some o) → s.heap.objs.size ≤ Pl → h₁.Main (s.heap.nsMap mainGlobals) c Pl #[] →
      wpAny (model prog w) (callerA.deeper (mainEnv prog c F)) (execs (behindTheImports prog) (mainEnv prog c F)) (fun _ s' => Q (.done (.ret .none)) s') (fun _ _ => False) { s with heap := h₁, toks := tk }) :
    wpAny (model prog w) callerA (do
      let code ← moduleCode prog.main
      let frame ← newBodyFrame code mainNs mainNs
      let _ ← run (.body (behindTheImports prog) { scope := prog.main.scope, locals := mainNs, globals := mainNs, cells := [], code, frame := some frame })
      ret .none) Q (fun _ _ => False) s := by
  refine wpAny_bind (wpAny_moduleCode fun c Pl h₁ tk hk hc hPl hcode => ?_)
  have hg₀ : s.heap.Ns mainGlobals (s.heap.nsMap mainGlobals) := by rw [e]; exact boot_g _
  have hg := hg₀.keeps hk
  have h4 : s.heap.get? 4 = some { cls := .type "module", dict := some builtinsNs } := by rw [e]; exact boot_four _
  have hm4 : s.heap.nsMap mainGlobals "__builtins__" = some (.ref 4) := by rw [e]; exact boot_bm _
  have h4l := Heap.lt_size h4
  unfold newBodyFrame
  refine wpAny_bind (wpAny_bind (wpAny_nsGet (a := mainNs) hg (wpAny_alloc ?_)))
  refine wpAny_bind (wpAny_run (codeAny_body hann hdoc (wpAny_mono (h c Pl _ _ tk (fun b o q => Heap.get?_push_of_some _ (hk b o q)) hPl
    ⟨hg.push _, hcode.push _, ⟨Nat.lt_of_lt_of_le hg₀.lt hc, Nat.lt_of_lt_of_le hg₀.lt hPl⟩, ⟨4, _, hm4, by decide, by decide, Nat.ne_of_lt (Nat.lt_of_lt_of_le h4l hPl), Heap.get?_push_of_some _ (hk _ _ h4), rfl, rfl, rfl⟩⟩)
    (fun f s' q => ?_) fun _ _ q => q.elim)))
  exact wpAny_pure q
theorem behind_boot {p : Program} (e : opening p = plainProg p.main.scope.names) (f : ∀ s, fenceModules? p s = some s) (w : World) :
    (∃ s, AfterRun (opening p) w s) ∧ ∀ s, AfterRun (opening p) w s → ∃ s₀, fenceModules? p s = some s₀ ∧ s₀.gens = #[] ∧ s₀.heap = boot_heap w.params ∧ s₀.asleep := by
  have h := boot_open (N := 600) e (by decide +kernel) f w
  rw [← table_eq_tree] at h
  obtain ⟨s₀, h1, h2⟩ := Option.map_eq_some_iff.mp h
  obtain ⟨s, h4, h5⟩ := Option.bind_eq_some_iff.mp h1
  have A := AfterImport.of_importEnds h4
  refine ⟨⟨s, A⟩, fun s' hs' => ?_⟩
  obtain rfl : s' = s := AfterImport.unique hs' A
  exact ⟨s₀, h5, congrArg (fun x => x.2.1) h2, congrArg Prod.fst h2, Shared.asleep_of_life (fence_lifeW h5) A.life⟩
structure Tope (names : List Str) (p : Params) (h : Heap) (mg : Str → Option Value) : Prop where
  g : h.Ns mainGlobals mg
  keep : ∀ b o, b ≠ mainGlobals → (boot_heap p).get? b = some o → h.get? b = some o
  others : ∀ x, x ∉ names → x ≠ "__name__" → mg x = (boot_heap p).nsMap mainGlobals x
theorem keysAreStrs_of_ns {h : Heap} {a : Addr} {m : Str → Option Value} (x : h.Ns a m) : keysAreStrs h a := by
  obtain ⟨o, es, n, ho, hd, hk, _⟩ := x
  exact ⟨o, es, n, ho, hd, hk⟩
theorem isNs_of_ns {h : Heap} {a : Addr} {m : Str → Option Value} (x : h.Ns a m) : h.isNs a = true := by
  obtain ⟨o, es, n, ho, hd, hk, _⟩ := x
  unfold Heap.isNs
  rw [ho]
  dsimp only
  rw [hd]
  dsimp only
  refine Array.all_eq_true_iff_forall_mem.mpr fun e he => ?_
  obtain ⟨x, t, hx⟩ := hk e he
  rw [hx]
theorem globalOf_ns {h : Heap} {m : Str → Option Value} (x : h.Ns mainGlobals m) (n : Str) : globalOf h n = m n := by
  rw [Pin.globalOf_eq (isNs_of_ns x) n, ← x.eq_nsMap]
theorem Tope.blt {names : List Str} {p : Params} {h : Heap} {mg : Str → Option Value} (T : Tope names p h mg) : h.Ns builtinsNs ((boot_heap p).nsMap builtinsNs) :=
  (boot_b p).at fun o => T.keep _ o (by decide)
theorem Tope.st {names : List Str} {p : Params} {h : Heap} {mg : Str → Option Value} (T : Tope names p h mg) : h.Ns cStatics (fun _ => none) :=
  (boot_s p).at fun o => T.keep _ o (by decide)
theorem staticOf_ns {h : Heap} {m : Str → Option Value} (x : h.Ns cStatics m) (n : Str) : staticOf h n = m n := by
  rw [Pin.staticOf_eq (isNs_of_ns x) n, ← x.eq_nsMap]
theorem topRan_of {s₀ s₁ : Shared} {names : List Str} {mg : Str → Option Value} (hn : ∀ x, x ∈ names → x ∈ prog.boundNames) (hb : ("__builtins__" : Str) ∉ names) (hl : ∀ x, x ∈ laidNames → x ∉ names) (e : s₀.heap = boot_heap w.params) (hg : s₀.gens = #[]) (T : Tope names w.params s₁.heap mg)
    (hs : ∃ h tk, s₁ = { s₀ with heap := h, toks := tk })
    (hr : ∃ n t, schedN (denote table) prog w n (.single s₀ (topStub prog)) = .running (.single s₁ t) ∧ through t = true) (hlife : s₁.heap.life = s₀.heap.life) : TopRan prog w s₀ s₁ := by
  obtain ⟨h, tk, rfl⟩ := hs
  have g0 : s₀.heap.Ns mainGlobals ((boot_heap w.params).nsMap mainGlobals) := e ▸ boot_g _
  have st : ∀ key, staticOf h key = none := fun key => staticOf_ns T.st key
  have st0 : ∀ key, staticOf s₀.heap key = none := fun key => staticOf_ns (e ▸ boot_s _ : s₀.heap.Ns cStatics _) key
  have hblt : h.isNs builtinsNs = true := isNs_of_ns T.blt
  have lk : ∀ x, x ∈ laidNames → x ≠ "__name__" := by decide
  refine ⟨hr, hlife, Shared.rest_eq rfl, fun b o hb hn => ?_, fun key v hv => ?_, fun key => .inl ((st key).trans (st0 key).symm), keysAreStrs_of_ns T.g, fun x hx => ?_, ?_, ?_, fun x v hv => ?_, fun x hx => ?_⟩
  · exact T.keep b o (fun q => hn (.inl q)) (e ▸ hb)
  · have : staticOf h key = some v := hv
    rw [st key] at this; cases this
  · refine (Pin.builtinOf_eq hblt x).trans ?_
    rw [← T.blt.eq_nsMap]
    exact boot_bmap _ x hx
  · refine ⟨4, _, (globalOf_ns T.g _).trans ((T.others _ hb (by decide)).trans (boot_bm _)), T.keep _ _ (by decide) (boot_four _), rfl, rfl⟩
  · intro g hgm
    have : g ∈ s₀.gens := hgm
    rw [hg] at this
    simp at this
  · have hv : mg x = some v := (globalOf_ns T.g x).symm.trans hv
    by_cases hx : x ∈ names
    · exact .inr (hn x hx)
    by_cases hx2 : x = "__name__"
    · exact .inl (by rw [hx2]; decide)
    rw [T.others x hx hx2] at hv
    by_cases hx3 : x ∈ startupNames
    · exact .inl hx3
    rw [boot_others _ hx3] at hv; cases hv
  · exact (globalOf_ns T.g x).trans ((T.others x (hl x hx) (lk x hx)).trans (globalOf_ns g0 x).symm)
end
end Mine
end
section
open PySem PySem.W PyProof.Rows
set_option maxRecDepth 10000
namespace Mine
set_option autoImplicit false
section
variable {prog : Program} {w : World} {R : WRecords} {cl : Str → Option Addr} {P : Params} {ord : List DictEntry → List DictEntry}
theorem lawInts : ∀ (xs : List Int) (s : Shared), ∃ vs tk, layAllW R cl P ord (xs.map .int) s = some (vs, { s with toks := tk }) ∧ (∀ h M, RpL prog w h M (xs.map .int) vs) ∧ ∀ h, ReadsAllW R cl h vs (xs.map .int) []
  | [], s => ⟨[], s.toks, by simp only [List.map_nil, layAllW], fun _ _ => by simp only [List.map_nil, RpL], fun _ => .nil⟩
  | x :: xs, s => by
    obtain ⟨vs, tk, h1, h2, h3⟩ := lawInts xs { s with toks := s.toks + 1 }
    refine ⟨.int x s.toks :: vs, tk, ?_, fun h M => ?_, fun h => ?_⟩
    · simp only [List.map_cons, layAllW, layW, h1]
    · simp only [List.map_cons, RpL]
      exact ⟨_, _, rfl, by simp only [Rp]; exact ⟨_, rfl⟩, h2 h M⟩
    · exact .cons (as := []) (.int x s.toks) (h3 h)
theorem ints_of : ∀ {xs : List WData}, WShape.hasItems R xs .int = true → ∃ is : List Int, xs = is.map .int
  | [], _ => ⟨[], rfl⟩
  | x :: xs, h => by
    simp only [WShape.hasItems, Bool.and_eq_true] at h
    obtain ⟨is, rfl⟩ := ints_of h.2
    cases x with
    | int i => exact ⟨i :: is, rfl⟩
    | _ => exact absurd h.1 Bool.false_ne_true
end
theorem post_true (A B : List WData) : (WShape.has [] (.bool true) .bool && WTm.holds [] (.eq .res (.lit (.bool true))) { args := A, res := some (.bool true), after := B }) = true := by kernel_rfl
theorem law_args {l : OpenLaw} (hm : l.most = some 63) (hb : l.bound = none) {args : List WData} (h : l.row.toRowW.claim.pre args = true) : ∃ is : List Int, args = [.list (is.map .int)] ∧ is.length ≤ 63 := by
  obtain ⟨h1, h2⟩ := pre_splitW (r := l.row.toRowW) h
  obtain ⟨d, r, rfl, h3, h4⟩ := hasAllW_cons h1
  obtain rfl := hasAllW_nil h4
  cases d with
  | list xs =>
    have h5 : WShape.hasItems [] xs .int = true := by
      have : (WShape.hasItems [] xs .int || false) = true := h3
      rwa [Bool.or_false] at this
    obtain ⟨is, rfl⟩ := ints_of h5
    refine ⟨is, rfl, ?_⟩
    have h6 : (l.pre).holds [] { args := [.list (is.map .int)] } = true := h2
    rw [OpenLaw.pre, hm, hb] at h6
    by_cases hlt : (63 : Int) < ((is.map WData.int).length : Int)
    · exfalso
      have h7 : less? (.int (63 : Int)) (.int ((is.map WData.int).length : Int)) = some true := by
        show some (decide _) = _
        rw [decide_eq_true hlt]
      have h8 : WTm.value [] (.lt (.lit (.int (63 : Nat))) (.len (.arg 0))) { args := [.list (is.map .int)] } = some (.bool true) := by
        show Option.map WData.bool (less? (.int (63 : Int)) (.int ((is.map WData.int).length : Int))) = _
        rw [h7]; rfl
      have h9 : WTm.holds [] (.and (.not (.lt (.lit (.int (63 : Nat))) (.len (.arg 0)))) (.lit (.bool true))) { args := [.list (is.map .int)] } = false := by
        unfold WTm.holds WTm.value
        have e : WTm.value [] (.not (.lt (.lit (.int (63 : Nat))) (.len (.arg 0)))) { args := [.list (is.map .int)] } = some (.bool false) := by
          unfold WTm.value
          rw [h8]
          rfl
        rw [e]
      exact Bool.false_ne_true (h9.symm.trans h6)
    · rw [List.length_map] at hlt; omega
  | _ => exact absurd h3 Bool.false_ne_true
section
variable {w : World}
theorem law_spec {l : OpenLaw} (hm : l.most = some 63) (hb : l.bound = none) (hw : l.writes = false) {s : Shared} (hz : s.asleep) (hgens : s.gens = #[]) (G : Gl l.prog w) (hB : G.hB = s.heap)
    (hT : ∀ b i c q, G.T b i c q → isCodeTable s.heap b)
    (call : ∃ a, G.mg l.name = some (.ref a) ∧ ∀ (A : Around) (M : Addr → Prop) (s : Shared) (v : Value) (sc : List Int) (Q : Value → Shared → Prop) (E : Value → Shared → Prop), Ok 28 A → A.frames = some [] →
      (∀ b o, G.hB.get? b = some o → Gr G.T s.heap b o) → (∀ a, M a → ∃ o, s.heap.get? a = some o) → Rp l.prog w s.heap M (.list (sc.map .int)) v → sc.length ≤ 63 →
      (∀ s', Kp G.T s s' → Q (.bool true) s') → wpAny (model l.prog w) A (PySem.call (.ref a) [v]) Q E s)
    {free : Addr → Prop} {gens : Prop} {kept : Heap → Prop} (hk : ∀ h, kept h) : l.row.toRowW.claim.CallFrom (callStub l.name) w free gens kept s := by
  obtain ⟨a, hma, hcall⟩ := call
  refine ClaimW.callFrom_of_specG (c := l.row.toRowW.claim) (tree := fun vs => do match ← nsGet mainNs l.name with
      | some f => do ret (← PySem.call f vs)
      | none => unsupported "claim.caller:no-such-global") hz hgens fun args hpre hlay ord hord => ?_
  obtain ⟨is, rfl, hlen⟩ := law_args hm hb hpre
  obtain ⟨vs, tk, h1, h2, h3⟩ := lawInts (prog := l.prog) (w := w) (R := []) (cl := classAt s.heap) (P := w.params) (ord := ord) is s
  let s₁ : Shared := { s with heap := s.heap.push { cls := .type "list", data := .seq vs.toArray }, toks := tk }
  have hlaid : layAllW [] (classAt s.heap) w.params ord [.list (is.map .int)] s = some ([.ref s.heap.objs.size], s₁) := by
    simp only [layAllW, layW, h1]
    rfl
  have keep : ∀ b o, s.heap.get? b = some o → s₁.heap.get? b = some o := fun b o e => Heap.get?_push_of_some _ e
  have hnew : s₁.heap.get? s.heap.objs.size = some { cls := .type "list", data := .seq vs.toArray } := Heap.get?_push_size _ rfl
  refine ⟨[.ref s.heap.objs.size], s₁, hlaid, ?_⟩
  have hr : Rp l.prog w s₁.heap (fun _ => False) (.list (is.map .int)) (.ref s.heap.objs.size) := by
    simp only [Rp]
    refine ⟨_, vs.toArray, rfl, id, ⟨_, hnew⟩, h2 _ _, ?_⟩
    rw [List.length_map]
    exact Nat.le_trans hlen (by decide)
  have hg : s₁.heap.Ns mainGlobals G.mg := (hB ▸ G.g : s.heap.Ns mainGlobals G.mg).keeps keep
  refine wpAny_bind (wpAny_nsGet (a := mainNs) hg ?_)
  rw [hma]
  refine wpAny_bind (hcall callerA (fun _ => False) s₁ _ is _ _ ⟨rfl, by decide, by decide⟩ rfl (fun b o e => .inl (keep b o (hB ▸ e))) (fun _ h => h.elim) hr hlen fun s' k => ?_)
  refine wpAny_pure ⟨_, rfl, .inl ⟨.bool true, rfl, fun cls => rfl, ⟨.bool true, [.list (is.map .int)], [], [s.heap.objs.size], .bool true, ?_, ?_, fun _ => ⟨List.nodup_nil, fun _ h => (nomatch h), fun _ h => (nomatch h)⟩, fun as₀ _ => ?_⟩, fun i hi => (nomatch hi), fun b o e _ _ => ?_, fun i hi => (nomatch hi)⟩, ?_, ?_, hk _⟩
  · have hl' := k.nt _ _ (.cls rfl) hnew
    exact .cons (as := [s.heap.objs.size]) (bs := []) (.list (as := []) hl' rfl rfl (h3 _)) .nil
  · show (WShape.has [] (.bool true) .bool && WTm.holds [] (.eq .res (.lit (.bool true))) { args := [.list (is.map .int)], res := some (.bool true), after := [.list (is.map .int)] }) = true
    exact post_true _ _
  · exact ident_freeW (r := l.row.toRowW) rfl rfl rfl _ _
  · rcases k.tk b o e with q | ⟨i, c, q, c2, ht, rfl, q2, _⟩
    · exact .inl q
    · refine .inr (.inl ⟨?_, rfl, #[], #[rawInt i, rawInt c, .ref c2], rfl, q2⟩)
      obtain ⟨d, o, xs, e1, e2⟩ := hT _ _ _ _ ht
      exact ⟨d, o, xs, keep _ _ e1, e2⟩
  · obtain ⟨h', tk', rfl⟩ := k.same; rfl
  · obtain ⟨h', tk', rfl⟩ := k.same
    intro g hg'
    have : g ∈ s.gens := hg'
    rw [hgens] at this
    simp at this
end
theorem law_promised {l : OpenLaw} (hm : l.most = some 63) (hb : l.bound = none) : l.row.toRowW.promised := by
  refine ⟨[.list []], ?_, ?_⟩
  · show (WShape.hasAll [] [.list []] [.list .int] && WTm.holds [] l.pre { args := [.list []] }) = true
    rw [OpenLaw.pre, hm, hb]
    rfl
  · show (WData.layableAll [.list []] && _) = true
    rfl
theorem law_row {l : OpenLaw} (said : l.row.wellSaid = true) (hm : l.most = some 63) (hb : l.bound = none) (hw : l.writes = false) (hbare : l.prog.bare) (hopen : opensWell l.prog = true) (hplain : opening l.prog = plainProg l.prog.main.scope.names) (hf : ∀ s, fenceModules? l.prog s = some s)
    (left : ∀ (w : World) (s : Shared), s.heap = boot_heap w.params → s.gens = #[] → s.asleep → ∃ s₁ mg, TopRan l.prog w s s₁ ∧ (∃ h tk, s₁ = { s with heap := h, toks := tk }) ∧ isTheDefsW l.prog s₁.heap l.name ∧
      ∃ G : Gl l.prog w, G.hB = s₁.heap ∧ G.mg = mg ∧ (∀ b i c q, G.T b i c q → isCodeTable s₁.heap b) ∧
        ∃ a, mg l.name = some (.ref a) ∧ ∀ (A : Around) (M : Addr → Prop) (s : Shared) (v : Value) (sc : List Int) (Q : Value → Shared → Prop) (E : Value → Shared → Prop), Ok 28 A → A.frames = some [] →
          (∀ b o, G.hB.get? b = some o → Gr G.T s.heap b o) → (∀ a, M a → ∃ o, s.heap.get? a = some o) → Rp l.prog w s.heap M (.list (sc.map .int)) v → sc.length ≤ 63 →
          (∀ s', Kp G.T s s' → Q (.bool true) s') → wpAny (model l.prog w) A (PySem.call (.ref a) [v]) Q E s) : l.row.Holds := by
  refine ⟨said, law_promised hm hb, ⟨hbare, hopen, rfl⟩, (law_promised hm hb).witness, fun w => ⟨(behind_boot hplain hf w).1, fun s hs => ?_⟩⟩
  obtain ⟨s₀, h1, h2, h3, h4⟩ := (behind_boot hplain hf w).2 s hs
  obtain ⟨s₁, mg, T, ⟨h', tk, e⟩, hd, G, hB, hmg, hT, a, hma, hc⟩ := left w s₀ h3 h2 h4
  have hz : s₁.asleep := Shared.asleep_of_life T.2.1 h4
  have hg : s₁.gens = #[] := by rw [e]; exact h2
  refine ⟨s₀, h1, h2, s₁, T, fun n hn => ?_, fun x hx => (nomatch hx), fun x hx => (nomatch hx), law_spec hm hb hw hz hg G hB hT ⟨a, hmg ▸ hma, hc⟩ fun h hwr => ?_⟩
  · obtain rfl : n = l.name := List.mem_singleton.mp hn
    exact hd
  · have : l.writes = true := hwr
    rw [hw] at this; cases this
end Mine
end
local macro_rules | `(tactic| walk_at "l") => `(tactic| first
  | with_reducible assumption
  | exact Nat.sub_le _ _
  | ((with_reducible refine' Nat.le_trans ?k1 ?k2); (case k1 => with_reducible assumption); (case k2 => exact Nat.le_of_ble_eq_true rfl))
  | ((with_reducible refine' Nat.lt_of_lt_of_le ?k1 ?k2); (case k1 => with_reducible assumption); (case k2 => exact Nat.le_of_ble_eq_true rfl))
  | ((with_reducible refine' Nat.lt_of_le_of_lt ?k1 ?k2); (case k1 => with_reducible assumption); (case k2 => exact Nat.le_of_ble_eq_true rfl))
  | ((with_reducible refine' Nat.lt_trans ?k1 ?k2); (case k1 => with_reducible assumption); (case k2 => with_reducible assumption))
  | ((with_reducible refine' Nat.le_of_lt ?k1); (case k1 => with_reducible assumption))
  | lia)
section
open PySem PyProof.Rows
open PySem.Builtin.Str (partsBetween occurrences strKind tooLong)
set_option maxRecDepth 10000
set_option maxHeartbeats 1000000
namespace Mine
noncomputable def asDef : Option Stmt → Option (Arguments × List Stmt × Scope × Pos)
  | some (.FunctionDef _ a b _ _ _ s _ _ p) => some (a, b, s, p)
  | _ => none
noncomputable def asAsg : Option Stmt → Option (List Expr × Expr × Pos)
  | some (.Assign ts e p) => some (ts, e, p)
  | _ => none
noncomputable def fnBody (p : Program) (i : Nat) : List Stmt := ((asDef p.main.body[i]?).map (·.2.1)).getD []
noncomputable def fnScope (p : Program) (i : Nat) : Scope := ((asDef p.main.body[i]?).map (·.2.2.1)).getD default
noncomputable def fnPars (p : Program) (i : Nat) : Arguments := ((asDef p.main.body[i]?).map (·.1)).getD default
theorem cons_vs {n : Nat} {vs : List Value} (h : vs.length = n + 1) : ∃ a r, vs = a :: r ∧ r.length = n := by
  cases vs with
  | nil => cases h
  | cons a r => exact ⟨a, r, rfl, Nat.succ.inj h⟩
theorem one_vs {vs : List Value} (hl : vs.length = 1) : ∃ a, vs = [a] := by
  obtain ⟨a, r, rfl, h⟩ := cons_vs hl
  exact ⟨a, by rw [List.length_eq_zero_iff.mp h]⟩
theorem two_vs {vs : List Value} (hl : vs.length = 2) : ∃ a b, vs = [a, b] := by
  obtain ⟨a, r, rfl, h⟩ := cons_vs hl
  obtain ⟨b, rfl⟩ := one_vs h
  exact ⟨a, b, rfl⟩
theorem three_vs {vs : List Value} (hl : vs.length = 3) : ∃ a b c, vs = [a, b, c] := by
  obtain ⟨a, r, rfl, h⟩ := cons_vs hl
  obtain ⟨b, c, rfl⟩ := two_vs h
  exact ⟨a, b, c, rfl⟩
theorem four_vs {vs : List Value} (hl : vs.length = 4) : ∃ a b c d, vs = [a, b, c, d] := by
  obtain ⟨a, r, rfl, h⟩ := cons_vs hl
  obtain ⟨b, c, d, rfl⟩ := three_vs h
  exact ⟨a, b, c, d, rfl⟩
section
variable {prog : Program} {w : World} {G : Gl prog w} {k : Nat} {sc csc : Scope} {ρ ρ' : VEnv}
noncomputable def Bl (G : Gl prog w) (x : Str) (v : Value) : Prop := G.mg x = none ∧ G.mb x = some v
structure Glo (G : Gl prog w) : Prop where
  len : Bl G "len" (.builtin "len")
  ord : Bl G "ord" (.builtin "ord")
  chr : Bl G "chr" (.builtin "chr")
  abs : Bl G "abs" (.builtin "abs")
  max : Bl G "max" (.builtin "max")
  sum : Bl G "sum" (.builtin "sum")
  divmod : Bl G "divmod" (.builtin "divmod")
  range : Bl G "range" (.type "range")
  list : Bl G "list" (.type "list")
  enumerate : Bl G "enumerate" (.type "enumerate")
  reversed : Bl G "reversed" (.type "reversed")
  marker : ∃ t, G.mg "ELLIPSIS_MARKER" = some (.str "..." t)
  limit : ∃ t, G.mg "_DIV_LIMIT" = some (.int 4000 t)
theorem EvTo.marker {p : Pos} (h : Glo G) (hx : sc.names.lookup ("ELLIPSIS_MARKER" : Str) = some .globalImplicit) : EvTo G k sc ρ (.Name "ELLIPSIS_MARKER" p) (.str "...") := by
  obtain ⟨t, ht⟩ := h.marker
  exact EvTo.global hx ht fun _ _ => by simp [Rp]
theorem EvTo.limit {p : Pos} (h : Glo G) (hx : sc.names.lookup ("_DIV_LIMIT" : Str) = some .globalImplicit) : EvTo G k sc ρ (.Name "_DIV_LIMIT" p) (.int 4000) := by
  obtain ⟨t, ht⟩ := h.limit
  exact EvTo.global hx ht fun _ _ => by simp [Rp]
theorem TrTo.ofS {e : Expr} {x : Str} (he : EvTo G k sc ρ e (.str x)) (hx : x.length < 2 ^ 62) (hp : ∀ env whole, isTrue e env whole = (do let v ← whole; standAt e.pos; holding [v] (truthy v))) : TrTo G k sc ρ e ((x.length : Int) != 0) := by
  intro A env M s Q E ho hv hr hQ
  exact isTrue_plain (he A env M s _ _ ho hv hr fun v s1 k1 r1 => by
    simp only [Rp] at r1
    obtain ⟨t, rfl⟩ := r1
    exact P.truthy_str (by walk_at "l") (hQ _ (k1.trans (Kp.tok (s1.toks + 1 + 1))))) (hp _ _)
end
local macro_rules | `(tactic| walk_at "k") => `(tactic| first | kernel_rfl! | decide +kernel)
local macro_rules | `(tactic| walk_at "x") => `(tactic| first
  | with_reducible exact List.mem_cons_self
  | ((with_reducible refine List.mem_cons_of_mem _ ?_); walk_at "x")
  | with_reducible exact Upd.here
  | ((with_reducible refine' Upd.skip ?k1 ?k2); (case k1 => exact of_decide_eq_false (by kernel_rfl)); (case k2 => walk_at "x"))
  | ((with_reducible refine Upd.fresh ?_); walk_at "x")
  | with_reducible exact Filt.nil
  | ((with_reducible refine' Filt.keep ?k1 ?k2); (case k1 => kernel_rfl!); (case k2 => walk_at "x"))
  | ((with_reducible refine' Filt.drop ?k1); (case k1 => walk_at "x"))
  | with_reducible exact EvAll.nil
  | ((with_reducible refine' EvAll.cons ?k1 ?k2 ?k3); (case k1 | k2 | k3 => walk_at "x"))
  | with_reducible exact Wkn.nil
  | ((with_reducible refine Wkn.same ?_); walk_at "x")
  | ((with_reducible refine Wkn.forget ?_); walk_at "x")
  | ((with_reducible refine Wkn.drop ?_); walk_at "x")
  | with_reducible exact NotIn.nil
  | ((with_reducible refine NotIn.cons ?_ ?_); (· exact of_decide_eq_false (by kernel_rfl)); (· walk_at "x"))
  | ((with_reducible refine' EvL.mu ?k1); (case k1 => walk_at "x"))
  | ((with_reducible refine' EvL.of ?k1); (case k1 => walk_at "x"))
  | ((with_reducible refine' EvD.of ?k1); (case k1 => walk_at "x"))
  | with_reducible exact EvTo.intC
  | with_reducible exact EvTo.strC
  | with_reducible exact EvTo.boolC
  | ((with_reducible refine' EvTo.var ?k1); (case k1 => walk_at "x"))
  | ((with_reducible refine' EvTo.marker ?k1 ?k2); (case k1 => assumption); (case k2 => kernel_rfl))
  | ((with_reducible refine' EvTo.add ?k1 ?k2); (case k1 | k2 => walk_at "x"))
  | ((with_reducible refine' EvTo.rsh ?k1 ?k2 ?k3); (case k1 | k2 => walk_at "x"); (case k3 => walk_at "s"))
  | ((with_reducible refine' EvTo.lsh ?k1 ?k2 ?k3 ?k4); (case k1 | k2 => walk_at "x"); (case k3 | k4 => walk_at "s"))
  | ((with_reducible refine' EvTo.bxor ?k1 ?k2); (case k1 | k2 => walk_at "x"))
  | ((with_reducible refine' EvTo.neg ?k1); (case k1 => walk_at "x"))
  | ((with_reducible refine' EvTo.inv ?k1); (case k1 => walk_at "x"))
  | ((with_reducible refine' EvTo.cmp ?k1 ?k2 ?k3 ?k4); (case k1 | k2 | k3 => walk_at "x"); (case k4 => with_unfolding_all rfl))
  | ((with_reducible refine' EvTo.tuple ?k1 ?k2); (case k1 => walk_at "x"); (case k2 => walk_at "s"))
  | ((with_reducible refine' EvTo.list ?k1 ?k2); (case k1 => walk_at "x"); (case k2 => walk_at "s"))
  | ((with_reducible refine' EvTo.lenS ?k1 ?k2 ?k3 ?k4 ?k5 ?k6); (case k1 => kernel_rfl); (case k2 | k3 | k4 | k5 => walk_at "x"); (case k6 => walk_at "s"))
  | ((with_reducible refine' EvTo.lenL ?k1 ?k2 ?k3 ?k4 ?k5); (case k1 => kernel_rfl); (case k2 | k3 | k4 | k5 => walk_at "x"))
  | ((with_reducible refine' EvTo.bitLen ?k1 ?k2 ?k3); (case k1 => walk_at "x"); (case k2 => exact fun _ => rfl); (case k3 => rfl))
  | ((with_reducible refine' EvTo.startswith ?k1 ?k2 ?k3 ?k4 ?k5); (case k1 => walk_at "x"); (case k2 => exact fun _ => rfl); (case k3 | k4 => walk_at "x"); (case k5 => rfl))
  | ((with_reducible refine' EvTo.endswith ?k1 ?k2 ?k3 ?k4 ?k5); (case k1 => walk_at "x"); (case k2 => exact fun _ => rfl); (case k3 | k4 => walk_at "x"); (case k5 => rfl))
  | ((with_reducible refine' EvTo.find ?k1 ?k2 ?k3 ?k4 ?k5 ?k6 ?k7 ?k8 ?k9); (case k1 => walk_at "x"); (case k2 => exact fun _ => rfl); (case k3 | k4 | k5 | k6 | k7 | k8 => walk_at "x"); (case k9 => rfl))
  | ((with_reducible refine' ItTo.rangeN ?k1 ?k2 ?k3 ?k4 ?k5 ?k6); (case k1 => kernel_rfl); (case k2 | k3 => walk_at "x"); (case k4 => walk_at "n"); (case k5 => walk_at "x"); (case k6 => walk_at "s"))
  | ((with_reducible refine' ItTo.list ?k1); (case k1 => walk_at "x"))
  | ((with_reducible refine' ItTo.str ?k1); (case k1 => walk_at "x"))
  | ((with_reducible refine' ItTo.dict ?k1); (case k1 => walk_at "x"))
  | with_reducible exact EvPairs.nil
  | ((with_reducible refine' EvPairs.cons ?k1 ?k2 ?k3); (case k1 | k2 | k3 => walk_at "x"))
  | with_reducible exact CmpOk.eqI
  | with_reducible exact CmpOk.ltI
  | with_reducible exact CmpOk.gtI
  | with_reducible exact CmpOk.eqS
  | with_reducible exact CmpOk.ninS
  | ((with_reducible refine' TrTo.cmp ?k1 ?k2 ?k3 ?k4); (case k1 | k2 | k3 => walk_at "x"); (case k4 => with_unfolding_all rfl))
  | ((with_reducible refine' TrTo.ofS ?k1 ?k2 ?k3); (case k1 => walk_at "x"); (case k2 => walk_at "s"); (case k3 => exact fun _ _ => rfl))
  | with_reducible exact UpdAll.nil
  | ((with_reducible refine' UpdAll.cons ?k1 ?k2 ?k3); (case k1 | k2 | k3 => walk_at "x"))
  | ((with_reducible refine' BindTo.name ?k1 ?k2); (case k1 | k2 => walk_at "x"))
  | ((with_reducible refine' BindTo.tuple ?k1); (case k1 => walk_at "x"))
  | with_reducible exact BindEach.nil _
  | ((with_reducible refine' BindEach.cons _ _ _ _ _ _ _ ?k1 ?k2 ?k3); (case k1 => exact fun _ _ => rfl); (case k2 | k3 => walk_at "x"))
  | with_reducible exact Names.nil
  | ((with_reducible refine' Names.cons ?k1); (case k1 => walk_at "x"))
  | ((with_reducible refine' Step.assign ?k1 ?k2 ?k3 ?k4); (case k1 | k2 | k3 => walk_at "x"); (case k4 => exact fun _ => rfl))
  | exact Or.inl (by kernel_rfl!)
  | exact Or.inr (by kernel_rfl!)
  | exact fun _ _ => rfl
  | with_reducible exact sub_nil
  | ((with_reducible refine' sub_cons ?k1 ?k2); (case k1 | k2 => walk_at "x"))
  | exact (Glo.len (by assumption)).1
  | exact (Glo.len (by assumption)).2
  | exact (Glo.ord (by assumption)).1
  | exact (Glo.ord (by assumption)).2
  | exact (Glo.range (by assumption)).1
  | exact (Glo.range (by assumption)).2)
local macro_rules | `(tactic| walk_at "s") => `(tactic| first
  | with_reducible assumption
  | (with_reducible show _ ≤ lid; exact Nat.le_of_ble_eq_true rfl)
  | decide
  | walk_at "l"
  | skip)
local macro_rules | `(tactic| walk_at "n") => `(tactic| first
  | exact EvTo.natC
  | ((with_reducible refine' EvTo.var ?k1); (case k1 => walk_at "x"))
  | ((with_reducible refine' EvTo.addN ?k1 ?k2); (case k1 | k2 => walk_at "n"))
  | ((with_reducible refine' EvTo.subN ?k1 ?k2 ?k3); (case k1 | k2 => walk_at "n"); (case k3 => walk_at "s"))
  | ((with_reducible refine' EvTo.ord ?k1 ?k2 ?k3 ?k4 ?k5); (case k1 => kernel_rfl); (case k2 | k3 | k4 | k5 => walk_at "x")))
local macro_rules | `(tactic| walk_at "e") => `(tactic| ((refine' EvTo.cast ?k1 ?k2); (case k1 => walk_at "x"); (case k2 => rfl)))
local macro_rules | `(tactic| walk_at "a") => `(tactic| first
  | dsimp only [List.map, List.zip, List.zipWith])
local macro_rules | `(tactic| walk_at "g") => `(tactic| ((with_reducible refine' ExTo.step ?s1 ?s2); (case s1 => walk_at "x")))
local macro_rules | `(tactic| walk_at "o") => `(tactic| (walk_at "a"; (with_reducible refine' ExTo.body ?h1 ?h2); (case h1 => exact (rfl : _ = List.cons _ _))))
local macro_rules | `(tactic| walk_at "t") => `(tactic| (with_reducible refine' ExTo.step ?s1 ?s2))
noncomputable abbrev PP : Program := PySem.Challenge.pw_rs0224_01
noncomputable abbrev iD2 : Nat := 2
noncomputable abbrev iI2d : Nat := 4
noncomputable abbrev iD2i : Nat := 5
noncomputable abbrev iDmp : Nat := 6
noncomputable abbrev iIdm : Nat := 7
noncomputable abbrev iEll : Nat := 10
noncomputable abbrev iB1 : Nat := 13
noncomputable abbrev iB3 : Nat := 15
noncomputable abbrev iUn : Nat := 17
noncomputable abbrev iSt : Nat := 18
noncomputable abbrev iPr : Nat := 19
noncomputable abbrev iLaw : Nat := 20
noncomputable def ellGo (got : Str) (ep : Int) : List Str → Int → Bool
  | [], _ => true
  | w :: ws, sp => if findIn got w sp ep < 0 then false else ellGo got ep ws (findIn got w sp ep + w.length)
noncomputable def ellPos (got : Str) (ep : Int) : List Str → Int → Nat → Int
  | _, sp, 0 => sp
  | [], sp, _ => sp
  | w :: ws, sp, i + 1 => ellPos got ep ws (findIn got w sp ep + w.length) i
theorem ellPos_step (got : Str) (ep : Int) : ∀ (ws : List Str) (sp : Int) (i : Nat) (x : Str), ws[i]? = some x → ellPos got ep ws sp (i + 1) = findIn got x (ellPos got ep ws sp i) ep + x.length
  | w :: ws, sp, 0, x, h => by simp at h; subst h; simp [ellPos]
  | w :: ws, sp, i + 1, x, h => by
    have := ellPos_step got ep ws (findIn got w sp ep + w.length) i x (by simpa using h)
    simpa [ellPos] using this
noncomputable def ellMid (got : Str) (ws : List Str) (sp ep : Int) : Bool := if sp > ep then false else ellGo got ep ws sp
noncomputable def ellEnd (got : Str) (ws : List Str) (sp : Int) : Bool :=
  let z := ws.getLastD Str.empty
  if (z.length : Int) != 0 then (if Txt.endswith got z then ellMid got ws.dropLast sp (got.length - z.length) else false) else ellMid got ws sp got.length
noncomputable def ellTop (got : Str) (ws : List Str) : Bool :=
  let z := ws.headD Str.empty
  if (z.length : Int) != 0 then (if Txt.startswith got z then ellEnd got ws.tail z.length else false) else ellEnd got ws 0
noncomputable abbrev dots : Str := "..."
noncomputable def ell (want got : Str) : Bool :=
  if (!(!(occurrences want dots 0 want.length 1).isEmpty)) = true then want == got else ellTop got (Txt.split want dots)
structure EllOk (want got : Str) : Prop where
  lw : want.length ≤ lid
  lg : got.length ≤ lid
  parts : (partsBetween want (occurrences want dots 0 want.length (want.length + 1)) dots.length).length ≤ lid
  len : (Txt.split want dots).length ≤ lid
  two : (!(!(occurrences want dots 0 want.length 1).isEmpty)) = false → 2 ≤ (Txt.split want dots).length
  short : ∀ z, z ∈ Txt.split want dots → z.length ≤ lid
section
variable {prog : Program} {w : World} {G : Gl prog w} {k : Nat} {sc : Scope} {ρ : VEnv}
theorem lid62 {n : Nat} (h : n ≤ lid) : n < 2 ^ 62 := Nat.lt_of_le_of_lt h (by decide)
theorem ell_loop (hG : Glo G) (got w0 : Str) (ws : List Str) (sp ep : Int) (want : Str) (hlg : got.length ≤ lid) (hsh : ∀ z, z ∈ ws → z.length ≤ lid) (Pc : Bool) (hP : Pc = ellGo got ep ws sp) {ss : List Stmt} (hss : ss = (fnBody PP iEll).drop 9) :
    ExTo G k (fnScope PP iEll) [("w", .own (.str w0)), ("startpos", .own (.int sp)), ("endpos", .own (.int ep)), ("ws", .mu (ws.map .str)), ("want", .own (.str want)), ("got", .own (.str got))] ss (fun o => o = .ret (.bool Pc)) := by
  subst hss
  have h0 : ∀ ws sp, ellPos got ep ws sp 0 = sp := fun ws sp => by cases ws <;> rfl
  apply ExTo.freeze (x := "ws") (ds := ws.map .str) (by walk_at "x") (ρ' := [("w", .own (.str w0)), ("startpos", .own (.int sp)), ("endpos", .own (.int ep)), ("ws", .own (.list (ws.map .str))), ("want", .own (.str want)), ("got", .own (.str got))]) (by walk_at "x")
  refine ExTo.for (f := PyData.str) (xs := ws) (Iv := fun i => Pc = ellGo got ep (ws.drop i) (ellPos got ep ws sp i))
    (R := fun i => [("w", .un), ("startpos", .own (.int (ellPos got ep ws sp i))), ("endpos", .own (.int ep)), ("ws", .own (.list (ws.map .str))), ("want", .own (.str want)), ("got", .own (.str got))])
    (ρb := fun i x => [("w", .own (.str x)), ("startpos", .own (.int (ellPos got ep ws sp i))), ("endpos", .own (.int ep)), ("ws", .own (.list (ws.map .str))), ("want", .own (.str want)), ("got", .own (.str got))])
    (ItTo.list ?_) (fun _ _ => rfl) ?_ ?_ ?_ ?_ ?_
  · walk_at "x"
  · rw [h0]; walk_at "x"
  · show Pc = ellGo got ep (ws.drop 0) (ellPos got ep ws sp 0)
    rw [h0, List.drop_zero]; exact hP
  · intro i x hx _
    exact BindTo.name (by walk_at "x") (by walk_at "x")
  · intro i x hx hI
    have hxl : x.length < 2 ^ 62 := lid62 (hsh x (List.mem_of_getElem? hx))
    have hd : ws.drop i = x :: ws.drop (i + 1) := by
      have hi := (List.getElem?_eq_some_iff.mp hx).1
      rw [List.drop_eq_getElem_cons hi]
      rw [List.getElem?_eq_getElem hi] at hx
      rw [Option.some.inj hx]
    rw [hd] at hI
    refine ExTo.step (Step.assign (d := .int (findIn got x (ellPos got ep ws sp i) ep)) (by walk_at "x") (by walk_at "x") (ρ' := [("w", .own (.str x)), ("startpos", .own (.int (findIn got x (ellPos got ep ws sp i) ep))), ("endpos", .own (.int ep)), ("ws", .own (.list (ws.map .str))), ("want", .own (.str want)), ("got", .own (.str got))]) (by walk_at "x") (fun _ => rfl)) ?_
    apply ExTo.ite (b := decide (findIn got x (ellPos got ep ws sp i) ep < 0)) (P1 := fun o => (o = .next [("w", .own (.str x)), ("startpos", .own (.int (findIn got x (ellPos got ep ws sp i) ep))), ("endpos", .own (.int ep)), ("ws", .own (.list (ws.map .str))), ("want", .own (.str want)), ("got", .own (.str got))] ∧ ¬ findIn got x (ellPos got ep ws sp i) ep < 0) ∨ o = .ret (.bool Pc))
    · walk_at "x"
    · intro hb
      refine ExTo.ret EvTo.boolC (.inr ?_)
      have : Pc = false := by rw [hI]; simp only [ellGo]; rw [if_pos (by simpa using hb)]
      rw [this]
    · intro hb
      exact ExTo.nil (.inl ⟨rfl, by simpa using hb⟩)
    · rintro ρ1 (⟨h1, h2⟩ | h1)
      · cases h1
        refine ExTo.step (Step.augAdd (b := x.length) (by walk_at "x") (by walk_at "x") (by walk_at "x") (ρ' := [("w", .own (.str x)), ("startpos", .own (.int (ellPos got ep ws sp (i + 1)))), ("endpos", .own (.int ep)), ("ws", .own (.list (ws.map .str))), ("want", .own (.str want)), ("got", .own (.str got))]) (by rw [ellPos_step got ep ws sp i x hx]; walk_at "x")) ?_
        refine ExTo.nil ⟨by walk_at "x", ?_⟩
        rw [hI]
        simp only [ellGo]
        rw [if_neg h2, ellPos_step got ep ws sp i x hx]
      · cases h1
    · rintro d (⟨h1, _⟩ | h1)
      · cases h1
      · exact h1
  · intro hI
    refine ExTo.ret EvTo.boolC ?_
    rw [List.drop_length] at hI
    simp only [ellGo] at hI
    rw [hI]
theorem ell_mid (hG : Glo G) (got w0 : Str) (ws : List Str) (sp ep : Int) (want : Str) (hlg : got.length ≤ lid) (hsh : ∀ z, z ∈ ws → z.length ≤ lid) (Pc : Bool) (hP : Pc = ellMid got ws sp ep) {ss : List Stmt} (hss : ss = (fnBody PP iEll).drop 8) :
    ExTo G k (fnScope PP iEll) [("w", .own (.str w0)), ("startpos", .own (.int sp)), ("endpos", .own (.int ep)), ("ws", .mu (ws.map .str)), ("want", .own (.str want)), ("got", .own (.str got))] ss (fun o => o = .ret (.bool Pc)) := by
  subst hss
  apply ExTo.ite (b := decide (sp > ep)) (P1 := fun o => (o = .next [("w", .own (.str w0)), ("startpos", .own (.int sp)), ("endpos", .own (.int ep)), ("ws", .mu (ws.map .str)), ("want", .own (.str want)), ("got", .own (.str got))] ∧ ¬ sp > ep) ∨ o = .ret (.bool Pc))
  · walk_at "x"
  · intro hb
    refine ExTo.ret EvTo.boolC (.inr ?_)
    have : Pc = false := by rw [hP]; unfold ellMid; rw [if_pos (by simpa using hb)]
    rw [this]
  · intro hb
    exact ExTo.nil (.inl ⟨rfl, by simpa using hb⟩)
  · rintro ρ1 (⟨h1, h2⟩ | h1)
    · cases h1
      exact ell_loop hG got w0 ws sp ep want hlg hsh Pc (by rw [hP]; unfold ellMid; rw [if_neg h2]) rfl
    · cases h1
  · rintro d (⟨h1, _⟩ | h1)
    · cases h1
    · exact h1
theorem getLastD_get {α : Type} {l : List α} (d : α) (h : l ≠ []) : l[l.length - 1]? = some (l.getLastD d) := by
  have hl : 0 < l.length := List.length_pos_iff.mpr h
  rw [List.getLastD_eq_getLast?, List.getLast?_eq_getElem?, List.getElem?_eq_getElem (by walk_at "l")]
  rfl
theorem seqIdx_last {n : Nat} (h : 0 < n) : seqIndex? (-1) n = some (n - 1) := by
  unfold seqIndex?
  have e : (if (-1 : Int) < 0 then (-1 : Int) + (n : Int) else -1) = ((n - 1 : Nat) : Int) := by rw [if_pos (by decide)]; walk_at "l"
  simp only [e]
  rw [if_pos (by simp; walk_at "l")]
  simp
theorem eraseIdx_last {α : Type} {l : List α} : l.eraseIdx (l.length - 1) = l.dropLast := by
  rw [List.eraseIdx_length_sub_one]
theorem ell_end (hG : Glo G) (got w0 : Str) (ws : List Str) (sp : Int) (want : Str) (hlg : got.length ≤ lid) (hsh : ∀ z, z ∈ ws → z.length ≤ lid) (hne : ws ≠ []) (hll : ws.length ≤ lid) (Pc : Bool) (hP : Pc = ellEnd got ws sp) {ss : List Stmt} (hss : ss = (fnBody PP iEll).drop 6) :
    ExTo G k (fnScope PP iEll) [("w", .own (.str w0)), ("startpos", .own (.int sp)), ("endpos", .own (.int got.length)), ("ws", .mu (ws.map .str)), ("want", .own (.str want)), ("got", .own (.str got))] ss (fun o => o = .ret (.bool Pc)) := by
  subst hss
  have hpos : 0 < ws.length := List.length_pos_iff.mpr hne
  have hzl : ws[ws.length - 1]? = some (ws.getLastD Str.empty) := getLastD_get Str.empty hne
  unfold ellEnd at hP
  generalize hz : ws.getLastD Str.empty = z at hP hzl
  have hzs : z.length < 2 ^ 62 := lid62 (hsh z (List.mem_of_getElem? hzl))
  refine ExTo.step (Step.assign (d := .str z) (EvTo.itemN (n := -1) (ds := ws.map .str) (by walk_at "x") (EvTo.neg EvTo.intC) (by decide) (by simp; walk_at "l") ?_ (fun _ _ => rfl)) (by walk_at "x") (ρ' := [("w", .own (.str z)), ("startpos", .own (.int sp)), ("endpos", .own (.int got.length)), ("ws", .mu (ws.map .str)), ("want", .own (.str want)), ("got", .own (.str got))]) (by walk_at "x") (fun _ => rfl)) ?_
  · rw [List.length_map, List.getElem?_map, last_nat (by assumption), hzl]; rfl
  apply ExTo.ite (b := (z.length : Int) != 0) (P1 := fun o => (∃ ws2 ep, o = .next [("w", .own (.str z)), ("startpos", .own (.int sp)), ("endpos", .own (.int ep)), ("ws", .mu (ws2.map .str)), ("want", .own (.str want)), ("got", .own (.str got))] ∧ Pc = ellMid got ws2 sp ep ∧ ∀ y, y ∈ ws2 → y ∈ ws) ∨ o = .ret (.bool Pc))
  · walk_at "x"
  · intro hb
    simp only [hb, if_true] at hP
    apply ExTo.ite (b := Txt.endswith got z) (P1 := fun o => (∃ ws2 ep, o = .next [("w", .own (.str z)), ("startpos", .own (.int sp)), ("endpos", .own (.int ep)), ("ws", .mu (ws2.map .str)), ("want", .own (.str want)), ("got", .own (.str got))] ∧ Pc = ellMid got ws2 sp ep ∧ ∀ y, y ∈ ws2 → y ∈ ws) ∨ o = .ret (.bool Pc))
    · apply TrTo.of (d := .bool (Txt.endswith got z))
      · walk_at "x"
      · trivial
      · exact fun _ _ => rfl
    · intro hb2
      rw [hb2, if_pos rfl] at hP
      refine ExTo.step (Step.augSub (b := z.length) (by walk_at "x") (by walk_at "x") (by walk_at "x") (ρ' := [("w", .own (.str z)), ("startpos", .own (.int sp)), ("endpos", .own (.int (got.length - z.length))), ("ws", .mu (ws.map .str)), ("want", .own (.str want)), ("got", .own (.str got))]) (by walk_at "x")) ?_
      refine ExTo.step (Step.del (ds := ws.map .str) (i := -1) (j := ws.length - 1) (by walk_at "x") (EvTo.neg EvTo.intC) (by decide) (by rw [List.length_map]; exact seqIdx_last hpos) (ρ' := [("w", .own (.str z)), ("startpos", .own (.int sp)), ("endpos", .own (.int (got.length - z.length))), ("ws", .mu (ws.dropLast.map .str)), ("want", .own (.str want)), ("got", .own (.str got))]) ?_) ?_
      · rw [← List.length_map (f := PyData.str), eraseIdx_last, ← List.map_dropLast]; walk_at "x"
      · exact ExTo.nil (.inl ⟨_, _, rfl, hP, fun y hy => List.dropLast_subset _ hy⟩)
    · intro hb2
      rw [hb2] at hP
      exact ExTo.ret EvTo.boolC (.inr (by rw [hP]; rfl))
    · intro ρ1 h1
      rcases h1 with h1 | h1
      · exact ExTo.nil (.inl h1)
      · cases h1
    · intro d h1
      rcases h1 with ⟨_, _, h1, _⟩ | h1
      · cases h1
      · exact .inr h1
  · intro hb
    simp only [hb] at hP
    exact ExTo.nil (.inl ⟨ws, _, rfl, hP, fun y h => h⟩)
  · rintro ρ1 (⟨ws2, ep, h1, h2, h3⟩ | h1)
    · cases h1
      exact ell_mid hG got z ws2 sp ep want hlg (fun y hy => hsh y (h3 y hy)) Pc h2 rfl
    · cases h1
  · rintro d (⟨_, _, h1, _⟩ | h1)
    · cases h1
    · exact h1
theorem ell_body (hG : Glo G) (want got : Str) (ok : EllOk want got) : ExTo G k (fnScope PP iEll) [("want", .own (.str want)), ("got", .own (.str got))] (fnBody PP iEll) (fun o => o = .ret (.bool (ell want got))) := by
  have hlg := lid62 ok.lg
  apply ExTo.ite (P1 := fun o => (o = .next [("want", .own (.str want)), ("got", .own (.str got))] ∧ (!(!(occurrences want dots 0 want.length 1).isEmpty)) = false) ∨ o = .ret (.bool (ell want got)))
  · walk_at "x"
  · intro h
    apply ExTo.ret
    · walk_at "x"
    · right
      have : ell want got = (want == got) := by unfold ell; exact if_pos h
      rw [this]
  · intro h
    exact ExTo.nil (.inl ⟨rfl, h⟩)
  rotate_left
  · rintro d (⟨h, _⟩ | h)
    · cases h
    · exact h
  intro ρ1 hρ1
  rcases hρ1 with ⟨h1, h⟩ | h1
  rotate_left
  · cases h1
  cases h1
  have he : ell want got = ellTop got (Txt.split want dots) := by unfold ell; rw [if_neg (by rw [h]; decide)]
  rw [he]
  have h2 := ok.two h
  have hsh := ok.short
  have hll := ok.len
  refine ExTo.step (Step.assignIt (EvIt.split (x := want) (y := dots) ?_ (fun _ => rfl) ?_ (fun _ _ => rfl) rfl (by decide) (Nat.le_trans ok.lw lid_le) (Nat.le_trans ok.parts lid_le) ok.len) (by walk_at "x") (ρ' := [("ws", .mu ((Txt.split want dots).map .str)), ("want", .own (.str want)), ("got", .own (.str got))]) (by walk_at "x") (fun _ => rfl)) ?_
  · walk_at "x"
  · walk_at "x"
  generalize Txt.split want dots = ws at h2 hsh hll
  have hne : ws ≠ [] := by rintro rfl; simp at h2
  refine ExTo.step (Step.assert (TrTo.cast (TrTo.cmp (EvTo.lenL (ds := ws.map .str) (by decide +kernel) (Glo.len hG).1 (Glo.len hG).2 (by walk_at "x") (fun _ _ => rfl)) EvTo.intC CmpOk.geI rfl) ?_)) ?_
  · simp; walk_at "l"
  refine ExTo.step (Step.tupSw (ys := ["startpos", "endpos"]) (bs := [.own (.int 0), .own (.int got.length)]) (.cons (fun _ _ => rfl) (.own EvTo.intC) (.cons (fun _ _ => rfl) (.own (by walk_at "x")) .nil)) (ρ' := [("startpos", .own (.int 0)), ("endpos", .own (.int got.length)), ("ws", .mu (ws.map .str)), ("want", .own (.str want)), ("got", .own (.str got))])
    (.cons (r1 := [("endpos", .own (.int got.length)), ("ws", .mu (ws.map .str)), ("want", .own (.str want)), ("got", .own (.str got))]) (by walk_at "x") (by walk_at "x") (.cons (by walk_at "x") (by walk_at "x") .nil)) (by decide +kernel) (by rfl) (by simp [lid])) ?_
  obtain ⟨z, ws', rfl⟩ : ∃ z ws', ws = z :: ws' := by
    cases ws with
    | nil => exact absurd rfl hne
    | cons z ws' => exact ⟨z, ws', rfl⟩
  have hws' : ws' ≠ [] := by rintro rfl; simp at h2
  have hzs : z.length < 2 ^ 62 := lid62 (hsh z List.mem_cons_self)
  refine ExTo.step (Step.assign (d := .str z) (EvTo.item (n := 0) (ds := (z :: ws').map .str) (by walk_at "x") EvTo.intC (by decide) rfl (fun _ _ => rfl)) (by walk_at "x") (ρ' := [("w", .own (.str z)), ("startpos", .own (.int 0)), ("endpos", .own (.int got.length)), ("ws", .mu ((z :: ws').map .str)), ("want", .own (.str want)), ("got", .own (.str got))]) (by walk_at "x") (fun _ => rfl)) ?_
  generalize hPc : ellTop got (z :: ws') = Pc
  have hP : Pc = if ((z.length : Int) != 0) = true then (if Txt.startswith got z = true then ellEnd got ws' z.length else false) else ellEnd got (z :: ws') 0 := hPc.symm
  apply ExTo.ite (b := (z.length : Int) != 0) (P1 := fun o => (∃ ws2 sp, o = .next [("w", .own (.str z)), ("startpos", .own (.int sp)), ("endpos", .own (.int got.length)), ("ws", .mu (ws2.map .str)), ("want", .own (.str want)), ("got", .own (.str got))] ∧ Pc = ellEnd got ws2 sp ∧ (∀ y, y ∈ ws2 → y ∈ z :: ws') ∧ ws2 ≠ [] ∧ ws2.length ≤ lid) ∨ o = .ret (.bool Pc))
  · walk_at "x"
  · intro hb
    simp only [hb, if_true] at hP
    apply ExTo.ite (b := Txt.startswith got z) (P1 := fun o => (∃ ws2 sp, o = .next [("w", .own (.str z)), ("startpos", .own (.int sp)), ("endpos", .own (.int got.length)), ("ws", .mu (ws2.map .str)), ("want", .own (.str want)), ("got", .own (.str got))] ∧ Pc = ellEnd got ws2 sp ∧ (∀ y, y ∈ ws2 → y ∈ z :: ws') ∧ ws2 ≠ [] ∧ ws2.length ≤ lid) ∨ o = .ret (.bool Pc))
    · apply TrTo.of (d := .bool (Txt.startswith got z))
      · walk_at "x"
      · trivial
      · exact fun _ _ => rfl
    · intro hb2
      rw [hb2, if_pos rfl] at hP
      refine ExTo.step (Step.assign (d := .int z.length) (by walk_at "x") (by walk_at "x") (ρ' := [("w", .own (.str z)), ("startpos", .own (.int z.length)), ("endpos", .own (.int got.length)), ("ws", .mu ((z :: ws').map .str)), ("want", .own (.str want)), ("got", .own (.str got))]) (by walk_at "x") (fun _ => rfl)) ?_
      refine ExTo.step (Step.del (ds := (z :: ws').map .str) (i := 0) (j := 0) (by walk_at "x") EvTo.intC (by decide) (by simp [seqIndex?]) (ρ' := [("w", .own (.str z)), ("startpos", .own (.int z.length)), ("endpos", .own (.int got.length)), ("ws", .mu (ws'.map .str)), ("want", .own (.str want)), ("got", .own (.str got))]) (by simp only [List.map_cons, List.eraseIdx_cons_zero]; walk_at "x")) ?_
      exact ExTo.nil (.inl ⟨_, _, rfl, hP, fun y hy => List.mem_cons_of_mem _ hy, hws', by simp at hll; walk_at "l"⟩)
    · intro hb2
      rw [hb2] at hP
      exact ExTo.ret EvTo.boolC (.inr (by rw [hP]; rfl))
    · intro ρ1 h1
      rcases h1 with h1 | h1
      · exact ExTo.nil (.inl h1)
      · cases h1
    · intro d h1
      rcases h1 with ⟨_, _, h1, _⟩ | h1
      · cases h1
      · exact .inr h1
  · intro hb
    simp only [hb] at hP
    exact ExTo.nil (.inl ⟨z :: ws', _, rfl, hP, fun y h => h, hne, hll⟩)
  · rintro ρ1 (⟨ws2, ep, h1, h2, h3, h4, h5⟩ | h1)
    · cases h1
      exact ell_end hG got z ws2 ep want ok.lg (fun y hy => hsh y (h3 y hy)) h4 h5 Pc h2 rfl
    · cases h1
  · rintro d (⟨_, _, h1, _⟩ | h1)
    · cases h1
    · exact h1
theorem ell_fn (hG : Glo G) (hD : DefAt G "_ellipsis_match" (fnPars PP iEll) (fnBody PP iEll) (fnScope PP iEll)) : FnOk G "_ellipsis_match" 1 (fun ds d => ∃ want got, ds = [.str want, .str got] ∧ EllOk want got ∧ d = .bool (ell want got)) := by
  refine FnOk.of (k := 0) (ps := ["want", "got"]) hD (by decide +kernel) (fun pm c doc vs hl => ?_) fun ds d h => ?_
  · obtain ⟨a, b, rfl⟩ := two_vs hl
    rfl
  · obtain ⟨want, got, rfl, ok, rfl⟩ := h
    exact ⟨rfl, (ell_body hG want got ok).mono fun o h => .inl h⟩
end
noncomputable def inBody (b : List Stmt) (i : Nat) : List Stmt := ((asDef b[i]?).map (·.2.1)).getD []
noncomputable def inScope (b : List Stmt) (i : Nat) : Scope := ((asDef b[i]?).map (·.2.2.1)).getD default
noncomputable def inPars (b : List Stmt) (i : Nat) : Arguments := ((asDef b[i]?).map (·.1)).getD default
section
variable {prog : Program} {w : World} {G : Gl prog w} {k : Nat}
structure InnI (G : Gl prog w) (a f c1 c2 c3 : Addr) (n : Nat) (cl : List (Str × Addr)) (M : Addr → Prop) (s : Shared) : Prop where
  base : ∀ b o, G.hB.get? b = some o → Gr G.T s.heap b o
  dom : ∀ b, M b → ∃ o, s.heap.get? b = some o
  fo : ∃ doc pm c' ctv, s.heap.get? f = some (PySem.W.fnMade "inner" "_int2digits.<locals>.inner" (inPars (fnBody PP iI2d) 1) (inBody (fnBody PP iI2d) 1) (inScope (fnBody PP iI2d) 1) cl doc pm c' ctv) ∧ CodeO s.heap c' "_int2digits.<locals>.inner"
  k1 : s.heap.IsCell c1 (some (.ref a))
  k2 : s.heap.IsCell c2 (some (.ref f))
  k3 : ∃ t, s.heap.IsCell c3 (some (.int n t))
  ma : M a
  mc : ∀ x c, cl.lookup x = some c → M c
  nb : G.hB.get? a = none
  l1 : cl.lookup ("a_digits" : Str) = some c1
  l2 : cl.lookup ("inner" : Str) = some c2
  l3 : cl.lookup ("n" : Str) = some c3
  hfree : ∀ x, (inScope (fnBody PP iI2d) 1).names.lookup x = some .free → ∃ c, cl.lookup x = some c
  cne : ∀ x, cl.lookup x ≠ some a
variable {a f c1 c2 c3 : Addr} {n : Nat} {cl : List (Str × Addr)} {M M' : Addr → Prop} {s s' : Shared}
theorem InnI.kp (I : InnI G a f c1 c2 c3 n cl M s) (k : Kp G.T s s') : InnI G a f c1 c2 c3 n cl M s' :=
  { I with
    base := fun b o e => (I.base b o e).trans k.code (k.tk b)
    dom := fun b hb => let ⟨o, e⟩ := I.dom b hb; k.al e
    fo := let ⟨doc, pm, c', ctv, h1, h2⟩ := I.fo; ⟨doc, pm, c', ctv, k.nt _ _ (.cls rfl) h1, h2.gr fun o i e => k.code _ o i e⟩
    k1 := Cel.gr I.k1 (k.nt _)
    k2 := Cel.gr I.k2 (k.nt _)
    k3 := let ⟨t, h⟩ := I.k3; ⟨t, Cel.gr h (k.nt _)⟩ }
theorem InnI.kb {items : Array Value} (I : InnI G a f c1 c2 c3 n cl M s) (hl : s.heap.PlainList a items) (k : KB G.T (· = a) s s') (ha : ∃ o, s'.heap.get? a = some o) : InnI G a f c1 c2 c3 n cl M s' := by
  obtain ⟨m, e0⟩ := id hl
  have cel : ∀ {c v}, s.heap.IsCell c v → ¬ (c = a) := fun {c v} h q => by
    obtain ⟨o, e, hd⟩ := h
    rw [q, e0] at e; cases e; cases hd
  refine { I with
    base := fun b o e => (I.base b o e).trans k.code fun o' e' => k.tk b o' (fun q => by rw [q, I.nb] at e; cases e) e'
    dom := fun b hb => ?_
    fo := ?_
    k1 := Cel.gr I.k1 fun o n e => k.nt _ o (cel I.k1) n e
    k2 := Cel.gr I.k2 fun o n e => k.nt _ o (cel I.k2) n e
    k3 := let ⟨t, h⟩ := I.k3; ⟨t, Cel.gr h fun o n e => k.nt _ o (cel h) n e⟩ }
  · by_cases q : b = a
    · rw [q]; exact ha
    · obtain ⟨o, e⟩ := I.dom b hb; exact (k.tk b o q e).al
  · obtain ⟨doc, pm, c', ctv, h1, h2⟩ := I.fo
    exact ⟨doc, pm, c', ctv, k.nt _ _ (fun q => by rw [q, e0] at h1; have h2 := congrArg Obj.data (Option.some.inj h1); cases h2) (.cls rfl) h1, h2.gr fun o i e => k.code _ o i e⟩
theorem InnI.fo' (I : InnI G a f c1 c2 c3 n cl M s) : ∃ o fd, s.heap.get? f = some o ∧ o.data = .func fd := let ⟨_, _, _, _, h, _⟩ := I.fo; ⟨_, _, h, rfl⟩
theorem InnI.more (I : InnI G a f c1 c2 c3 n cl M s) (h : ∀ b, M b → M' b) (hd : ∀ b, M' b → ∃ o, s.heap.get? b = some o) : InnI G a f c1 c2 c3 n cl M' s :=
  { I with dom := hd, ma := h _ I.ma, mc := fun x c q => h _ (I.mc x c q) }
theorem ints_M {h : Heap} {M M' : Addr → Prop} {ds : List PyData} {vs : List Value} (hd : ∀ d, d ∈ ds → ∃ i, d = .int i) (r : RpL prog w h M ds vs) (h' : Heap) : RpL prog w h' M' ds vs := by
  refine RpL.iff r.length fun i d v q1 q2 => ?_
  obtain ⟨z, rfl⟩ := hd d (List.mem_of_getElem? q1)
  have := r.of_get q1 q2
  simp only [Rp] at this ⊢
  exact this
theorem i2d_rec {n : Nat} : ∀ (d : Nat) {A : Around} {M : Addr → Prop} {s : Shared} {items : Array Value} {ds : List PyData} {x L R : Nat} {t1 t2 t3 : Tok} {Q : Value → Shared → Prop} {E : Value → Shared → Prop}, Ok (d + 1) A → InnI G a f c1 c2 c3 n cl M s →
    s.heap.PlainList a items → (∀ d, d ∈ ds → ∃ i, d = .int i) → RpL prog w s.heap M ds items.toList → ds.length ≤ lid → L < R → R ≤ ds.length → R - L ≤ 2 ^ d → x < 2 ^ (n * (R - L)) → n * (R - L) ≤ 2 ^ 20 →
    (∀ s' items', KB G.T (· = a) s s' → s'.heap.PlainList a items' → RpL prog w s'.heap M (ds.take L ++ (digs n x (R - L) ++ ds.drop R)) items'.toList → Q .none s') → wpAny (model prog w) A (call (.ref f) [.int (x : Int) t1, .int (L : Int) t2, .int (R : Int) t3]) Q E s := by
  intro d
  induction d using Nat.strongRecOn with
  | _ d ih =>
    intro A M s items ds x L R t1 t2 t3 Q E ho I hl hi hr hlen h1 h2 h3 h4 h5 hQ
    obtain ⟨doc, pm, c', ctv, hf, hco⟩ := I.fo
    obtain ⟨tn, hk3⟩ := I.k3
    have hlid : lid = 1048576 := rfl
    refine clos_run (k := d) (sc := inScope (fnBody PP iI2d) 1) (ps := ["x", "L", "R"]) (ds := [.int (x : Int), .int (L : Int), .int (R : Int)]) (ρf := [("n", .own (.int (n : Int)))]) (M := M) (Z := fun b => ∃ y, cl.lookup y = some b) ho I.base I.dom hf rfl rfl rfl rfl rfl hco rfl rfl (by decide +kernel) I.hfree (fun x c h => ⟨x, h⟩) (fun b ⟨y, h⟩ => I.mc y b h) rfl
      (RpL.cons (by simp [Rp]) (RpL.cons (by simp [Rp]) (RpL.cons (by simp [Rp]) RpL.nil))) (fun y b hy => ?_) (by simp) ?_
    · cases List.mem_singleton.mp hy
      exact ⟨by decide +kernel, _, c3, _, rfl, I.l3, hk3, by simp [Rp]⟩
    intro env s1 E' hv hcel hok k1 hfr fm
    have fm : Fm G (inScope (fnBody PP iI2d) 1) env (· = env.locals) (fun b => ∃ y, cl.lookup y = some b) (fun b => M b ∨ b = env.locals) [("n", .own (.int (n : Int))), ("x", .own (.int (x : Int))), ("L", .own (.int (L : Int))), ("R", .own (.int (R : Int)))] s1 := fm
    have I1 := (I.kp k1).more (M' := fun b => M b ∨ b = env.locals) (fun b h => .inl h) fm.vr.dom
    have oW : ∀ b, b = a → ¬ (b = env.locals) := fun b q q2 => by
      obtain ⟨o, e⟩ := I.dom a I.ma
      rw [← q, q2, hfr] at e; cases e
    have oZ : ∀ b, b = a → ¬ (∃ y, cl.lookup y = some b) := fun b q ⟨y, h⟩ => I.cne y (q ▸ h)
    refine wpAny_execs_cons (exec_ite (b := decide (L + 1 = R)) hok hv fm.vr (TrTo.cast (by walk_at "x") ?_) fun s2 k2 => ?_)
    · have : ((L : Int) + 1 == (R : Int)) = decide (L + 1 = R) := by
        by_cases h : L + 1 = R
        · simp [← h]
        · simp [h]; walk_at "l"
      exact this
    have I2 := I1.kp k2
    have f2 := fm.keeps k2
    have hl2 := PL.gr (PL.gr hl (k1.nt _)) (k2.nt _)
    have nameOf : ∀ {y : Str} {c : Addr} {v : Value} {sx : Shared} {p : Pos} {Q : Value → Shared → Prop} {E : Value → Shared → Prop}, (inScope (fnBody PP iI2d) 1).names.lookup y = some .free → cl.lookup y = some c → sx.heap.IsCell c (some v) → Q v sx → wpAny (model prog w) (A.deeper env) (eval (.Name y p) env) Q E sx := fun h1 h2 h3 q =>
      Acc.name hv (.inr ⟨hv.kindC _ (.inr h1), _, hcel ▸ h2, h3⟩) q
    by_cases hLR : L + 1 = R
    · rw [decide_eq_true hLR, if_pos rfl]
      refine wpAny_execs_cons (wpAny_Assign_Subscript ((EvTo.var (d := .int (x : Int)) (by walk_at "x")) _ env _ s2 _ _ hok hv f2.vr fun v s3 k3 r3 => nameOf (by decide +kernel) I.l1 (I2.kp k3).k1 ((EvTo.var (d := .int (L : Int)) (by walk_at "x")) _ env _ s3 _ _ hok hv (f2.keeps k3).vr fun kv s4 k4 r4 => ?_)) rfl)
      simp only [Rp] at r3 r4
      obtain ⟨tx, rfl⟩ := r3
      obtain ⟨tl, rfl⟩ := r4
      have hl4 := PL.gr (PL.gr hl2 (k3.nt _)) (k4.nt _)
      have hsz : items.size = ds.length := by have := hr.length; simpa using this
      refine wpAny_setItem_pl hl4 (by walk_at "l") (by walk_at "l") (by walk_at "l") fun h' hp hsb => ?_
      refine wpAny_execs_cons (wpAny_Return_none ?_)
      have kk : Kp G.T s s4 := ((k1.trans k2).trans k3).trans k4
      have ka : KB G.T (· = a) s4 { s4 with heap := h' } := .mk' ⟨h', s4.toks, rfl⟩ (fun b o hb e => (hsb.2 b hb).trans e) fun b o hb e => by
        obtain ⟨n', e0⟩ := hl4
        rw [hb, e0] at e; cases e; exact notCoS rfl
      refine hQ _ _ ((KB.of kk).trans ka) hp ?_
      have hRL : R - L = 1 := sub_is hLR.symm
      have hx : x < 2 ^ n := by rw [hRL, Nat.mul_one] at h4; exact h4
      rw [hRL, digs_one hx, ← hLR]
      have e1 : ds.take L ++ ([PyData.int (x : Int)] ++ ds.drop (L + 1)) = ds.set L (.int (x : Int)) := by
        rw [List.set_eq_take_append_cons_drop, if_pos (by walk_at "l")]; rfl
      rw [e1, Int.toNat_natCast, Array.toList_setIfInBounds]
      refine ints_M (fun d hd => ?_) (RpL.set hr L (d := .int (x : Int)) (v := .int x tx) (by simp [Rp])) _
      rcases List.mem_or_eq_of_mem_set hd with q | q
      · exact hi d q
      · exact ⟨_, q⟩
    · rw [decide_eq_false hLR, if_neg (by decide)]
      refine wpAny_execs_nil ?_
      obtain ⟨h, hh⟩ : ∃ h, (L + R) / 2 = L + h := Nat.exists_eq_add_of_le (by walk_at "l")
      obtain ⟨m, hm⟩ : ∃ m, R = L + h + m := Nat.exists_eq_add_of_le (by walk_at "l")
      have hLd : L ≤ ds.length := by walk_at "l"
      have hLh : L + h ≤ ds.length := by walk_at "l"
      have hh0 : 0 < h := by walk_at "l"
      have hm0 : 0 < m := by walk_at "l"
      have hd1 : 0 < d := by
        rcases Nat.eq_zero_or_pos d with q | q
        · subst q; simp at h3; walk_at "l"
        · exact q
      obtain ⟨e, rfl⟩ : ∃ e, d = e + 1 := Nat.exists_eq_add_of_le' hd1
      have hpow : 2 ^ (e + 1) = 2 * 2 ^ e := by rw [Nat.pow_succ]; walk_at "l"
      have hRL : R - L = h + m := sub_is (by rw [hm, Nat.add_assoc])
      rw [hRL] at h3 h4 h5 hQ
      have h5h : n * h ≤ 2 ^ 20 := Nat.le_trans (Nat.mul_le_mul_left n (by walk_at "l")) h5
      have h5m : n * m ≤ 2 ^ 20 := Nat.le_trans (Nat.mul_le_mul_left n (by walk_at "l")) h5
      have e2 : 2 ^ (n * (h + m)) = 2 ^ (n * h) * 2 ^ (n * m) := by rw [← Nat.pow_add, Nat.mul_add]
      have hup : x / 2 ^ (n * h) < 2 ^ (n * m) := Nat.div_lt_of_lt_mul (e2 ▸ h4)
      have hlow : x % 2 ^ (n * h) < 2 ^ (n * h) := Nat.mod_lt _ (Nat.pow_pos (by decide))
      have hub := intBits_le hup
      refine wpAny_execs_cons (Fm.assign hok hv f2 (ρ' := [("mid", .own (.int ((L + h : Nat) : Int))), ("n", .own (.int (n : Int))), ("x", .own (.int (x : Int))), ("L", .own (.int (L : Int))), ("R", .own (.int (R : Int)))]) (EvTo.cast (by walk_at "x") ?_) (by walk_at "x") (by walk_at "x") (fun s3 k3 f3 => ?_) rfl)
      · show PyData.int (((L : Int) + (R : Int)).fdiv (2 ^ 1)) = _
        rw [show (L : Int) + (R : Int) = ((L + R : Nat) : Int) by walk_at "l", fdiv_nat, ← hh]
      have hmul : IntMulOk (((L + h : Nat) : Int) - (L : Int)) (n : Int) := IntMulOk.of_left (by
        rw [show ((L + h : Nat) : Int) - (L : Int) = (h : Int) by walk_at "l"]
        exact Nat.le_trans (intBits_le (m := 21) (by walk_at "l")) (by decide))
      refine wpAny_execs_cons (Fm.assign hok hv f3 (ρ' := [("shift", .own (.int ((n * h : Nat) : Int))), ("mid", .own (.int ((L + h : Nat) : Int))), ("n", .own (.int (n : Int))), ("x", .own (.int (x : Int))), ("L", .own (.int (L : Int))), ("R", .own (.int (R : Int)))]) (EvTo.cast (EvTo.mul (EvTo.sub (by walk_at "x") (by walk_at "x")) (by walk_at "x") hmul) ?_) (by walk_at "x") (by walk_at "x") (fun s4 k4 f4 => ?_) rfl)
      · show PyData.int ((((L + h : Nat) : Int) - (L : Int)) * (n : Int)) = _
        rw [show ((L + h : Nat) : Int) - (L : Int) = (h : Int) by walk_at "l", Int.natCast_mul, Int.mul_comm]
      refine wpAny_execs_cons (Fm.assign hok hv f4 (ρ' := [("upper", .own (.int ((x / 2 ^ (n * h) : Nat) : Int))), ("shift", .own (.int ((n * h : Nat) : Int))), ("mid", .own (.int ((L + h : Nat) : Int))), ("n", .own (.int (n : Int))), ("x", .own (.int (x : Int))), ("L", .own (.int (L : Int))), ("R", .own (.int (R : Int)))]) (EvTo.cast (by walk_at "x") ?_) (by walk_at "x") (by walk_at "x") (fun s5 k5 f5 => ?_) rfl)
      · show PyData.int ((x : Int).fdiv (2 ^ (n * h))) = _
        rw [fdiv_nat]
      refine wpAny_execs_cons (Fm.assign hok hv f5 (ρ' := [("lower", .own (.int ((x % 2 ^ (n * h) : Nat) : Int))), ("upper", .own (.int ((x / 2 ^ (n * h) : Nat) : Int))), ("shift", .own (.int ((n * h : Nat) : Int))), ("mid", .own (.int ((L + h : Nat) : Int))), ("n", .own (.int (n : Int))), ("x", .own (.int (x : Int))), ("L", .own (.int (L : Int))), ("R", .own (.int (R : Int)))]) (EvTo.cast (by walk_at "x") ?_) (by walk_at "x") (by walk_at "x") (fun s6 k6 f6 => ?_) rfl)
      · show PyData.int (Builtin.bitXor (x : Int) (((x / 2 ^ (n * h) : Nat) : Int) * 2 ^ (n * h))) = _
        rw [show ((x / 2 ^ (n * h) : Nat) : Int) * 2 ^ (n * h) = ((x / 2 ^ (n * h) * 2 ^ (n * h) : Nat) : Int) by push_cast; rfl, bitXor_low]
      have kp6 : Kp G.T s s6 := ((KB.of (k1.trans k2)).trans (((k3.trans k4).trans k5).trans k6)).kp fun b q => q ▸ hfr
      have I6 := (I.kp kp6).more (M' := fun b => M b ∨ b = env.locals) (fun b h => .inl h) f6.vr.dom
      have hl6 := PL.gr hl (kp6.nt _)
      obtain ⟨o6, fd6, hf6, hd6⟩ := I6.fo'
      have L1 : L + h - L = h := Nat.add_sub_cancel_left L h
      have L2 : R - (L + h) = m := sub_is hm
      refine wpAny_execs_cons (wpAny_Expr_any (Call_Name rfl (nameOf (by decide +kernel) I.l2 I6.k2 (Calls.callWith_function (o := o6) (fd := fd6) (EvAll.args (ds := [.int ((x % 2 ^ (n * h) : Nat) : Int), .int (L : Int), .int ((L + h : Nat) : Int)]) (by walk_at "x") hok hv f6.vr fun vs s7 k7 r7 => ⟨⟨k7.nt _ _ (.func hd6) hf6, hd6⟩, ?_⟩)))) (interactive_fn hv) rfl)
      obtain ⟨u, v, z, rfl, q1, q2, q3⟩ := r7.three
      simp only [Rp] at q1 q2 q3
      obtain ⟨t4, rfl⟩ := q1
      obtain ⟨t5, rfl⟩ := q2
      obtain ⟨t6, rfl⟩ := q3
      have I7 := I6.kp k7
      have hl7 := PL.gr hl6 (k7.nt _)
      refine ih e (by walk_at "l") hok I7 hl7 hi (ints_M hi hr _) hlen (by walk_at "l") hLh (by rw [L1]; walk_at "l") (by rw [L1]; exact hlow) (by rw [L1]; exact h5h) fun s8 it8 k8 hl8 hr8 => ?_
      rw [L1] at hr8
      have al8 : ∃ o, s8.heap.get? a = some o := ⟨_, hl8.choose_spec⟩
      have f8 := (f6.keeps k7).kb k8 (fun b q => q ▸ .inl I.ma) oW oZ (fun b q => q ▸ I.nb) (fun b q => q ▸ al8)
      have I8 := I7.kb hl7 k8 al8
      obtain ⟨o8, fd8, hf8, hd8⟩ := I8.fo'
      have hi8 : ∀ y, y ∈ ds.take L ++ (digs n (x % 2 ^ (n * h)) h ++ ds.drop (L + h)) → ∃ i, y = PyData.int i := fun y hy => by
        rcases List.mem_append.mp hy with q | q
        · exact hi y (List.mem_of_mem_take q)
        · rcases List.mem_append.mp q with q | q
          · obtain ⟨z, _, rfl⟩ := List.mem_map.mp q; exact ⟨_, rfl⟩
          · exact hi y (List.mem_of_mem_drop q)
      have len8 : (ds.take L ++ (digs n (x % 2 ^ (n * h)) h ++ ds.drop (L + h))).length = ds.length := by
        simp only [List.length_append, List.length_take, List.length_drop, digs_length]; rw [Nat.min_eq_left hLd, ← Nat.add_assoc, Nat.add_sub_cancel' hLh]
      refine wpAny_execs_cons (wpAny_Expr_any (Call_Name rfl (nameOf (by decide +kernel) I.l2 I8.k2 (Calls.callWith_function (o := o8) (fd := fd8) (EvAll.args (ds := [.int ((x / 2 ^ (n * h) : Nat) : Int), .int ((L + h : Nat) : Int), .int (R : Int)]) (by walk_at "x") hok hv f8.vr fun vs s9 k9 r9 => ⟨⟨k9.nt _ _ (.func hd8) hf8, hd8⟩, ?_⟩)))) (interactive_fn hv) rfl)
      obtain ⟨u, v, z, rfl, q1, q2, q3⟩ := r9.three
      simp only [Rp] at q1 q2 q3
      obtain ⟨t7, rfl⟩ := q1
      obtain ⟨t8, rfl⟩ := q2
      obtain ⟨t9, rfl⟩ := q3
      have I9 := I8.kp k9
      have hl9 := PL.gr hl8 (k9.nt _)
      refine ih e (by walk_at "l") hok I9 hl9 hi8 (ints_M hi8 hr8 _) (by rw [len8]; exact hlen) (by walk_at "l") (by rw [len8]; assumption) (by rw [L2]; walk_at "l") (by rw [L2]; exact hup) (by rw [L2]; exact h5m) fun s10 it10 k10 hl10 hr10 => ?_
      refine wpAny_execs_nil ?_
      refine hQ s10 it10 (((KB.of (kp6.trans k7)).trans k8).trans ((KB.of k9).trans k10)) hl10 ?_
      rw [L2] at hr10
      have e3 : (ds.take L ++ (digs n (x % 2 ^ (n * h)) h ++ ds.drop (L + h))).take (L + h) = ds.take L ++ digs n (x % 2 ^ (n * h)) h := by
        rw [← List.append_assoc, List.take_left' (by simp only [List.length_append, List.length_take, digs_length]; rw [Nat.min_eq_left hLd])]
      have e4 : (ds.take L ++ (digs n (x % 2 ^ (n * h)) h ++ ds.drop (L + h))).drop R = ds.drop R := by
        rw [← List.append_assoc, hm, List.drop_append, List.drop_of_length_le (by simp only [List.length_append, List.length_take, digs_length]; rw [Nat.min_eq_left hLd]; exact Nat.le_add_right _ _), List.nil_append, List.drop_drop]
        congr 1; simp only [List.length_append, List.length_take, digs_length]; rw [Nat.min_eq_left hLd, Nat.add_sub_cancel_left]
      rw [e3, e4] at hr10
      rw [digs_append]
      simp only [List.append_assoc] at hr10 ⊢
      refine ints_M (fun y hy => ?_) hr10 _
      rcases List.mem_append.mp hy with q | q
      · exact hi y (List.mem_of_mem_take q)
      · rcases List.mem_append.mp q with q | q
        · obtain ⟨z, _, rfl⟩ := List.mem_map.mp q; exact ⟨_, rfl⟩
        · rcases List.mem_append.mp q with q | q
          · obtain ⟨z, _, rfl⟩ := List.mem_map.mp q; exact ⟨_, rfl⟩
          · exact hi y (List.mem_of_mem_drop q)
end
section
variable {prog : Program} {w : World} {G : Gl prog w} {k : Nat}
noncomputable def inPos (b : List Stmt) (i : Nat) : Pos := ((asDef b[i]?).map (·.2.2.2)).getD default
theorem clOf_lookup (env : Env) (names : List (Str × NameKind)) (x : Str) (h : (x, NameKind.free) ∈ names) : (clOf env names []).lookup x = some ((env.cells.lookup x).getD 0) :=
  lookup_of_mem (clOf_has env names x h) fun c' hc' => (clOf_mem env names x c' hc').2
theorem Acc.cell {sc : Scope} {env : Env} {h : Heap} {x : Str} {v : Value} (a : Acc env h x v) (hv : EnvOk sc env) (hx : sc.names.lookup x = some .cell) : ∃ c, env.cells.lookup x = some c ∧ h.IsCell c (some v) := by
  rcases a with ⟨h1, _⟩ | ⟨_, c, h2, h3⟩
  · rcases hv.kindC x (.inl hx) with q | q <;> rw [q] at h1 <;> cases h1
  · exact ⟨c, h2, h3⟩
noncomputable def i2n (n a : Nat) : Nat := (Builtin.Int.intBits (a : Int) + n - 1) / n
theorem i2d_body (hG : Glo G) {n x : Nat} (hn : 0 < n) (hb : Builtin.Int.intBits (x : Int) + n ≤ 2 ^ 19) {env : Env} {c' P : Addr} (T : TabDef G c' P (inPos (fnBody PP iI2d) 1) "_int2digits.<locals>.inner") (hcode : env.code = .ref c') (hq : env.qual = ("_int2digits" : Str) ++ (".<locals>." : Str)) :
    ExAt G 22 (fnScope PP iI2d) [("a", .own (.int (x : Int))), ("n", .own (.int (n : Int)))] env (fnBody PP iI2d) (fun o => o = .ret (.list (digs n x (i2n n x)))) := by
  intro A M0 L Wc Z s0 s Q E ho hv t hQ hR
  have hlid : lid = 1048576 := rfl
  have hk0 : i2n n x ≤ Builtin.Int.intBits (x : Int) + n := Nat.le_trans (Nat.div_le_self _ _) (Nat.sub_le _ _)
  have hk : i2n n x ≤ lid := by walk_at "l"
  refine wpAny_execs_cons (Step.assignIt (b := .mu (List.replicate (i2n n x) (.int 0))) (ρ' := [("a_digits", .mu (List.replicate (i2n n x) (.int 0))), ("a", .own (.int (x : Int))), ("n", .own (.int (n : Int)))])
    (EvIt.rep (d := .int 0) (n := ((i2n n x : Nat) : Int)) (by walk_at "x") (EvTo.cast (EvTo.fdiv (EvTo.sub (EvTo.add (by walk_at "x") (by walk_at "x")) (by walk_at "x")) (by walk_at "x") (by walk_at "l") ?_) ?_) (by simpa using hk) (by walk_at "l")) (by walk_at "x") (by walk_at "x") (fun _ => rfl) A env M0 L Wc Z s0 s _ _ ho hv t fun Z1 s1 t1 ch1 => ?_)
  · rw [Int.natAbs_natCast]
    exact Nat.lt_of_lt_of_le ((Nat.log2_lt (by walk_at "l")).mpr (show n < 2 ^ 20 by walk_at "l")) (by decide)
  · show PyData.int (((Builtin.Int.intBits (x : Int) : Nat) : Int) + (n : Int) - 1 |>.fdiv (n : Int)) = _
    rw [show ((Builtin.Int.intBits (x : Int) : Nat) : Int) + (n : Int) - 1 = ((Builtin.Int.intBits (x : Int) + n - 1 : Nat) : Int) by walk_at "l", Int.fdiv_eq_ediv_of_nonneg _ (by walk_at "l")]
    rfl
  have hqn : qualnameIn env "inner" "inner" = "_int2digits.<locals>.inner" := by
    unfold qualnameIn
    have : (env.kindOf ("inner" : Str) == some .globalExplicit) = false := by
      rcases hv.kindC "inner" (.inl (by decide +kernel)) with q | q <;> rw [q] <;> rfl
    rw [this, hq]; rfl
  have hcells : ∀ y, y ∈ (inScope (fnBody PP iI2d) 1).names → y.2 = .free → ∃ c, env.cells.lookup y.1 = some c := by
    have : ∀ y, y ∈ (inScope (fnBody PP iI2d) 1).names → y.2 = .free → (fnScope PP iI2d).names.lookup y.1 = some .cell := by decide +kernel
    exact fun y h1 h2 => hv.cells _ (.inl (this y h1 h2))
  refine wpAny_execs_cons (PySem.W.nestDef_K rfl rfl rfl ?_)
  rw [hqn]
  refine def_nested T t1.fm.vr.base hv.glob hcode (closureFor_eq hcells) fun f c2 ctv doc s2 k2 hfn hf hco => ?_
  have t2 := t1.keeps k2
  refine t2.storeB (b := .un) (ρ' := [("inner", .un), ("a_digits", .mu (List.replicate (i2n n x) (.int 0))), ("a", .own (.int (x : Int))), ("n", .own (.int (n : Int)))]) hv (by walk_at "x") (by walk_at "x") (fun _ _ _ => trivial) (fun h => by cases h) fun s3 k3 t3 hacc _ => ?_
  have hmu : (("a_digits" : Str), B.mu (List.replicate (i2n n x) (.int 0))) ∈ [(("inner" : Str), B.un), ("a_digits", .mu (List.replicate (i2n n x) (.int 0))), ("a", .own (.int (x : Int))), ("n", .own (.int (n : Int)))] := by walk_at "x"
  obtain ⟨a, items, acc, hM, hl, hr, hlen⟩ := t3.fm.vr.ent _ _ hmu
  obtain ⟨a', acc', hz⟩ := t3.fm.ym _ _ hmu trivial
  have ea := acc.det acc'
  cases ea
  obtain ⟨c1, l1, kc1⟩ := acc.cell hv (by decide +kernel)
  obtain ⟨c2', l2, kc2⟩ := hacc.cell hv (by decide +kernel)
  obtain ⟨vn, accn, rn⟩ := t3.fm.vr.ent (("n" : Str)) (.own (.int (n : Int))) (by walk_at "x")
  simp only [Rp] at rn
  obtain ⟨tn, rfl⟩ := rn
  obtain ⟨c3, l3, kc3⟩ := accn.cell hv (by decide +kernel)
  have hlook : ∀ y c, (clOf env (inScope (fnBody PP iI2d) 1).names []).lookup y = some c → env.cells.lookup y = some c := fun y c h => by
    obtain ⟨h1, h2⟩ := clOf_mem env _ y c (mem_of_lookup h)
    obtain ⟨c', h3⟩ := hcells _ h1 rfl
    rw [h3] at h2 ⊢
    rw [h2]; rfl
  have I : InnI G a f c1 c2' c3 n (clOf env (inScope (fnBody PP iI2d) 1).names []) (MM M0 Wc Z1 L) s3 :=
    { base := t3.fm.vr.base
      dom := t3.fm.vr.dom
      fo := ⟨doc, _, c2, ctv, k3.nt _ _ (fun q => by obtain ⟨o, e⟩ := t1.dom (.inl q); rw [hfn] at e; cases e) (.cls rfl) hf, hco.gr fun o i e => k3.code _ o i e⟩
      k1 := kc1
      k2 := kc2
      k3 := ⟨tn, kc3⟩
      ma := hM
      mc := fun y c h => t3.fm.vr.cel y c (hlook y c h)
      nb := by
        cases e : G.hB.get? a with
        | none => rfl
        | some o => obtain ⟨_, z⟩ := (t3.b0 a o e).al; rw [t3.fr a (.inr (.inl hz))] at z; cases z
      l1 := by rw [clOf_lookup _ _ _ (by decide +kernel), l1]; rfl
      l2 := by rw [clOf_lookup _ _ _ (by decide +kernel), l2]; rfl
      l3 := by rw [clOf_lookup _ _ _ (by decide +kernel), l3]; rfl
      hfree := fun y h => ⟨_, clOf_lookup env _ y (mem_of_lookup h)⟩
      cne := fun y h => t3.zw a hz (t3.cw y a (hlook y a h)) }
  refine wpAny_execs_cons (exec_ite (b := TruD (.int (x : Int))) ho hv t3.fm.vr (TrTo.of (d := .int (x : Int)) (by walk_at "x") trivial (fun _ _ => rfl)) fun s4 k4 => ?_)
  by_cases hx : x = 0
  · subst hx
    refine wpAny_execs_nil ?_
    have e0 : i2n n 0 = 0 := Nat.div_eq_of_lt (by rw [show Builtin.Int.intBits ((0 : Nat) : Int) = 0 from rfl, Nat.zero_add]; exact sub1_lt hn)
    rw [e0] at hmu t3 hQ hR
    exact ExTo.retMu (k := 22) (P := fun o => o = .ret (.list (digs n 0 0))) hmu rfl A env M0 L Wc Z1 s0 s4 Q E ho hv (t3.keeps k4) (fun _ _ _ hp => by cases hp) hR
  · have hT : TruD (.int (x : Int)) = true := by
      show ((x : Int) != 0) = true
      simp [hx]
    rw [hT, if_pos rfl]
    obtain ⟨o4, fd4, hf4, hd4⟩ := (I.kp k4).fo'
    have hxb : x < 2 ^ Builtin.Int.intBits (x : Int) := by
      unfold Builtin.Int.intBits
      have : ((x : Int) == 0) = false := by simp [hx]
      rw [this, if_neg (by decide), Int.natAbs_natCast]
      exact Nat.lt_log2_self
    have hle : Builtin.Int.intBits (x : Int) ≤ n * i2n n x := by
      unfold i2n
      have h1 := Nat.div_add_mod (Builtin.Int.intBits (x : Int) + n - 1) n
      have h2 := Nat.mod_lt (Builtin.Int.intBits (x : Int) + n - 1) hn
      walk_at "l"
    have hge : n * i2n n x ≤ Builtin.Int.intBits (x : Int) + n - 1 := Nat.mul_div_le _ _
    have hpos : 0 < i2n n x := by
      rcases Nat.eq_zero_or_pos (i2n n x) with q | q
      · rw [q] at hle
        have : Builtin.Int.intBits (x : Int) = 0 := by simpa using hle
        rw [this] at hxb; simp at hxb; exact absurd hxb hx
      · exact q
    refine wpAny_execs_cons (wpAny_Expr_any (Call_Name rfl ((hacc.keeps k4.nt).name hv (Calls.callWith_function (o := o4) (fd := fd4) (EvAll.args (ds := [.int (x : Int), .int 0, .int ((List.replicate (i2n n x) (PyData.int 0)).length : Nat)]) (by walk_at "x") ho hv (t3.fm.vr.keeps k4) fun vs s5 k5 r5 => ⟨⟨k5.nt _ _ (.func hd4) hf4, hd4⟩, ?_⟩)))) (interactive_fn hv) rfl)
    obtain ⟨u, v, z, rfl, q1, q2, q3⟩ := r5.three
    simp only [Rp] at q1 q2 q3
    obtain ⟨t4, rfl⟩ := q1
    obtain ⟨t5, rfl⟩ := q2
    obtain ⟨t6, rfl⟩ := q3
    have hrl : (List.replicate (i2n n x) (PyData.int 0)).length = i2n n x := List.length_replicate
    have hint : ∀ y, y ∈ List.replicate (i2n n x) (PyData.int 0) → ∃ i, y = PyData.int i := fun y hy => ⟨0, List.eq_of_mem_replicate hy⟩
    have k45 := k4.trans k5
    refine i2d_rec 20 (L := 0) (R := (List.replicate (i2n n x) (PyData.int 0)).length) (ho.mono (by decide)) (I.kp k45) (PL.gr hl (k45.nt _)) hint (ints_M hint hr _) hlen (by rw [hrl]; exact hpos) (Nat.le_refl _) (by rw [hrl]; walk_at "l") (by rw [hrl, Nat.sub_zero]; exact Nat.lt_of_lt_of_le hxb (Nat.pow_le_pow_right (by decide) hle)) (by rw [hrl, Nat.sub_zero]; walk_at "l") fun s6 it6 k6 hl6 hr6 => ?_
    refine wpAny_execs_nil ?_
    rw [List.take_zero, List.nil_append, List.drop_length, List.append_nil, hrl, Nat.sub_zero] at hr6
    obtain ⟨t7, _⟩ := (t3.keeps k45).mut (x := "a_digits") (b := .mu (digs n x (i2n n x))) (ρ' := [("inner", .un), ("a_digits", .mu (digs n x (i2n n x))), ("a", .own (.int (x : Int))), ("n", .own (.int (n : Int)))]) ⟨_, hmu, trivial⟩ (acc.keeps k45.nt) k6 (by walk_at "x") trivial ⟨_, hl6.choose_spec⟩ (fun h => ⟨a, it6, h, hM, hl6, hr6, by rw [digs_length]; exact hk⟩)
    exact ExTo.retMu (k := 22) (P := fun o => o = .ret (.list (digs n x (i2n n x)))) (by walk_at "x") rfl A env M0 L Wc Z1 s0 s6 Q E ho hv t7 (fun _ _ _ hp => by cases hp) hR
end
section
variable {prog : Program} {w : World} {G : Gl prog w} {k : Nat}
theorem i2d_fn (hG : Glo G) (hD : DefAt G "_int2digits" (fnPars PP iI2d) (fnBody PP iI2d) (fnScope PP iI2d)) (hT : ∀ c', CodeOf G "_int2digits" (fnPars PP iI2d) (fnBody PP iI2d) (fnScope PP iI2d) c' → ∃ P, TabDef G c' P (inPos (fnBody PP iI2d) 1) "_int2digits.<locals>.inner") :
    FnOk G "_int2digits" 23 (fun ds d => ∃ x n : Nat, ds = [.int (x : Int), .int (n : Int)] ∧ 0 < n ∧ Builtin.Int.intBits (x : Int) + n ≤ 2 ^ 19 ∧ d = .list (digs n x (i2n n x))) := by
  refine FnOk.of1 (k := 22) (ps := ["a", "n"]) hD (by decide +kernel) (fun pm c doc vs hl => ?_) fun ds d h => ?_
  · obtain ⟨a, b, rfl⟩ := two_vs hl
    rfl
  · obtain ⟨x, n, rfl, hn, hb, rfl⟩ := h
    refine ⟨rfl, fun env c' hc hcode hq => ?_⟩
    obtain ⟨P, T⟩ := hT c' hc
    intro A M0 L Wc Z s0 s Q E ho hv t hQ hR
    exact i2d_body hG hn hb T hcode hq A M0 L Wc Z s0 s Q E ho hv t (fun ρ' Z' s' hp => by cases hp) (fun d v s' hp hk hr => hR d v s' (.inl hp) hk hr)
end
section
variable {prog : Program} {w : World} {G : Gl prog w} {k : Nat}
theorem undig_lt (n : Nat) : ∀ l : List Nat, (∀ z, z ∈ l → z < 2 ^ n) → undig n l < 2 ^ (n * l.length)
  | [], _ => by simp [undig]
  | z :: r, h => by
    have h1 := h z List.mem_cons_self
    have h2 := undig_lt n r fun y hy => h y (List.mem_cons_of_mem _ hy)
    simp only [undig, List.length_cons]
    have e1 : 2 ^ (n * (r.length + 1)) = 2 ^ n * 2 ^ (n * r.length) := by rw [← Nat.pow_add]; congr 1; rw [Nat.mul_add]; walk_at "l"
    rw [e1]
    have h3 : 2 ^ n * (undig n r + 1) ≤ 2 ^ n * 2 ^ (n * r.length) := Nat.mul_le_mul_left _ h2
    rw [Nat.mul_add] at h3
    walk_at "l"
theorem exec_ret {A : Around} {env : Env} {s : Shared} {Q : Flow → Shared → Prop} {E : Value → Shared → Prop} {e : Expr} {pos : Pos} (h : wpAny (model prog w) A (eval e env) (fun v s' => Q (.ret v) s') E s) : wpAny (model prog w) A (exec (.Return (some e) pos) env) Q E s := by
  rw [exec_Return_some]
  exact wpAny_bind (wpAny_standAt (wpAny_bind (wpAny_mono h (fun v s' h' => wpAny_pure h') fun _ _ z => z)))
structure InnD (G : Gl prog w) (f c1 c2 c3 : Addr) (n : Nat) (zs : List Nat) (cl : List (Str × Addr)) (M : Addr → Prop) (s : Shared) : Prop where
  base : ∀ b o, G.hB.get? b = some o → Gr G.T s.heap b o
  dom : ∀ b, M b → ∃ o, s.heap.get? b = some o
  fo : ∃ doc pm c' ctv, s.heap.get? f = some (PySem.W.fnMade "inner" "_digits2int.<locals>.inner" (inPars (fnBody PP iD2i) 0) (inBody (fnBody PP iD2i) 0) (inScope (fnBody PP iD2i) 0) cl doc pm c' ctv) ∧ CodeO s.heap c' "_digits2int.<locals>.inner"
  k1 : ∃ v, s.heap.IsCell c1 (some v) ∧ Rp prog w s.heap M (.list (zs.map fun z : Nat => .int (z : Int))) v
  k2 : s.heap.IsCell c2 (some (.ref f))
  k3 : ∃ t, s.heap.IsCell c3 (some (.int n t))
  mc : ∀ x c, cl.lookup x = some c → M c
  l1 : cl.lookup ("digits" : Str) = some c1
  l2 : cl.lookup ("inner" : Str) = some c2
  l3 : cl.lookup ("n" : Str) = some c3
  hfree : ∀ x, (inScope (fnBody PP iD2i) 0).names.lookup x = some .free → ∃ c, cl.lookup x = some c
variable {f c1 c2 c3 : Addr} {n : Nat} {zs : List Nat} {cl : List (Str × Addr)} {M M' : Addr → Prop} {s s' : Shared}
theorem InnD.kp (I : InnD G f c1 c2 c3 n zs cl M s) (k : Kp G.T s s') : InnD G f c1 c2 c3 n zs cl M s' :=
  { I with
    base := fun b o e => (I.base b o e).trans k.code (k.tk b)
    dom := fun b hb => let ⟨o, e⟩ := I.dom b hb; k.al e
    fo := let ⟨doc, pm, c', ctv, h1, h2⟩ := I.fo; ⟨doc, pm, c', ctv, k.nt _ _ (.cls rfl) h1, h2.gr fun o i e => k.code _ o i e⟩
    k1 := let ⟨v, h, r⟩ := I.k1; ⟨v, Cel.gr h (k.nt _), Rp.agr k.agr _ _ r⟩
    k2 := Cel.gr I.k2 (k.nt _)
    k3 := let ⟨t, h⟩ := I.k3; ⟨t, Cel.gr h (k.nt _)⟩ }
theorem InnD.fo' (I : InnD G f c1 c2 c3 n zs cl M s) : ∃ o fd, s.heap.get? f = some o ∧ o.data = .func fd := let ⟨_, _, _, _, h, _⟩ := I.fo; ⟨_, _, h, rfl⟩
theorem d2i_rec (hz : ∀ z, z ∈ zs → z < 2 ^ n) (hzl : zs.length ≤ lid) : ∀ (d : Nat) {A : Around} {M : Addr → Prop} {s : Shared} {L R : Nat} {t2 t3 : Tok} {Q : Value → Shared → Prop} {E : Value → Shared → Prop}, Ok (d + 1) A → InnD G f c1 c2 c3 n zs cl M s →
    L < R → R ≤ zs.length → R - L ≤ 2 ^ d → n * (R - L) ≤ 2 ^ 20 →
    (∀ s' t, Kp G.T s s' → Q (.int ((undig n ((zs.drop L).take (R - L)) : Nat) : Int) t) s') → wpAny (model prog w) A (call (.ref f) [.int (L : Int) t2, .int (R : Int) t3]) Q E s := by
  intro d
  induction d using Nat.strongRecOn with
  | _ d ih =>
    intro A M s L R t2 t3 Q E ho I h1 h2 h3 h5 hQ
    obtain ⟨doc, pm, c', ctv, hf, hco⟩ := I.fo
    obtain ⟨tn, hk3⟩ := I.k3
    obtain ⟨vd, hk1, hrd⟩ := I.k1
    have hlid : lid = 1048576 := rfl
    refine clos_run (k := d) (sc := inScope (fnBody PP iD2i) 0) (ps := ["L", "R"]) (ds := [.int (L : Int), .int (R : Int)]) (ρf := [("n", .own (.int (n : Int))), ("digits", .own (.list (zs.map fun z : Nat => .int (z : Int))))]) (M := M) (Z := fun b => ∃ y, cl.lookup y = some b) ho I.base I.dom hf rfl rfl rfl rfl rfl hco rfl rfl (by decide +kernel) I.hfree (fun x c h => ⟨x, h⟩) (fun b ⟨y, h⟩ => I.mc y b h) rfl
      (RpL.cons (by simp [Rp]) (RpL.cons (by simp [Rp]) RpL.nil)) (fun y b hy => ?_) (by simp; decide) ?_
    · rcases List.mem_cons.mp hy with q | q
      · cases q; exact ⟨by decide +kernel, _, c3, _, rfl, I.l3, hk3, by simp [Rp]⟩
      · cases List.mem_singleton.mp q; exact ⟨by decide +kernel, _, c1, _, rfl, I.l1, hk1, hrd⟩
    intro env s1 E' hv hcel hok k1 hfr fm
    have fm : Fm G (inScope (fnBody PP iD2i) 0) env (· = env.locals) (fun b => ∃ y, cl.lookup y = some b) (fun b => M b ∨ b = env.locals) [("n", .own (.int (n : Int))), ("digits", .own (.list (zs.map fun z : Nat => .int (z : Int)))), ("L", .own (.int (L : Int))), ("R", .own (.int (R : Int)))] s1 := fm
    refine wpAny_execs_cons (exec_ite (b := decide (L + 1 = R)) hok hv fm.vr (TrTo.cast (by walk_at "x") ?_) fun s2 k2 => ?_)
    · have : ((L : Int) + 1 == (R : Int)) = decide (L + 1 = R) := by
        by_cases h : L + 1 = R
        · simp [← h]
        · simp [h]; walk_at "l"
      exact this
    have f2 := fm.keeps k2
    by_cases hLR : L + 1 = R
    · rw [decide_eq_true hLR, if_pos rfl]
      have hlt : L < zs.length := by walk_at "l"
      refine wpAny_execs_cons (exec_ret ((EvTo.item (d := .int ((zs[L] : Nat) : Int)) (n := (L : Int)) (EvL.of (EvTo.var (d := .list (zs.map fun z : Nat => .int (z : Int))) (by walk_at "x"))) (by walk_at "x") (by walk_at "l") (by simp [hlt]) (fun _ _ => rfl)) _ env _ s2 _ _ hok hv f2.vr fun v s3 k3 r3 => ?_))
      simp only [Rp] at r3
      obtain ⟨tv, rfl⟩ := r3
      have hRL : R - L = 1 := sub_is hLR.symm
      have e1 : undig n ((zs.drop L).take (R - L)) = zs[L] := by
        rw [hRL, List.drop_eq_getElem_cons hlt, List.take_succ_cons, List.take_zero]; simp [undig]
      have := hQ s3 tv ((k1.trans k2).trans k3)
      rw [e1] at this
      exact this
    · rw [decide_eq_false hLR, if_neg (by decide)]
      refine wpAny_execs_nil ?_
      have nameOf : ∀ {y : Str} {c : Addr} {v : Value} {sx : Shared} {p : Pos} {Q : Value → Shared → Prop} {E : Value → Shared → Prop}, (inScope (fnBody PP iD2i) 0).names.lookup y = some .free → cl.lookup y = some c → sx.heap.IsCell c (some v) → Q v sx → wpAny (model prog w) (A.deeper env) (eval (.Name y p) env) Q E sx := fun h1 h2 h3 q =>
        Acc.name hv (.inr ⟨hv.kindC _ (.inr h1), _, hcel ▸ h2, h3⟩) q
      obtain ⟨h, hh⟩ : ∃ h, (L + R) / 2 = L + h := Nat.exists_eq_add_of_le (by walk_at "l")
      obtain ⟨m, hm⟩ : ∃ m, R = L + h + m := Nat.exists_eq_add_of_le (by walk_at "l")
      have hh0 : 0 < h := by walk_at "l"
      have hm0 : 0 < m := by walk_at "l"
      have hd1 : 0 < d := by
        rcases Nat.eq_zero_or_pos d with q | q
        · subst q; simp at h3; walk_at "l"
        · exact q
      obtain ⟨e, rfl⟩ : ∃ e, d = e + 1 := Nat.exists_eq_add_of_le' hd1
      have hpow : 2 ^ (e + 1) = 2 * 2 ^ e := by rw [Nat.pow_succ]; walk_at "l"
      have hRL : R - L = h + m := sub_is (by rw [hm, Nat.add_assoc])
      rw [hRL] at h3 h5 hQ
      have h5h : n * h ≤ 2 ^ 20 := Nat.le_trans (Nat.mul_le_mul_left n (by walk_at "l")) h5
      have h5m : n * m ≤ 2 ^ 20 := Nat.le_trans (Nat.mul_le_mul_left n (by walk_at "l")) h5
      have hmul : IntMulOk (((L + h : Nat) : Int) - (L : Int)) (n : Int) := IntMulOk.of_left (by
        rw [show ((L + h : Nat) : Int) - (L : Int) = (h : Int) by walk_at "l"]
        exact Nat.le_trans (intBits_le (m := 21) (by walk_at "l")) (by decide))
      refine wpAny_execs_cons (Fm.assign hok hv f2 (ρ' := [("mid", .own (.int ((L + h : Nat) : Int))), ("n", .own (.int (n : Int))), ("digits", .own (.list (zs.map fun z : Nat => .int (z : Int)))), ("L", .own (.int (L : Int))), ("R", .own (.int (R : Int)))]) (EvTo.cast (by walk_at "x") ?_) (by walk_at "x") (by walk_at "x") (fun s3 k3 f3 => ?_) rfl)
      · show PyData.int (((L : Int) + (R : Int)).fdiv (2 ^ 1)) = _
        rw [show (L : Int) + (R : Int) = ((L + R : Nat) : Int) by walk_at "l", fdiv_nat, ← hh]
      refine wpAny_execs_cons (Fm.assign hok hv f3 (ρ' := [("shift", .own (.int ((n * h : Nat) : Int))), ("mid", .own (.int ((L + h : Nat) : Int))), ("n", .own (.int (n : Int))), ("digits", .own (.list (zs.map fun z : Nat => .int (z : Int)))), ("L", .own (.int (L : Int))), ("R", .own (.int (R : Int)))]) (EvTo.cast (EvTo.mul (EvTo.sub (by walk_at "x") (by walk_at "x")) (by walk_at "x") hmul) ?_) (by walk_at "x") (by walk_at "x") (fun s4 k4 f4 => ?_) rfl)
      · show PyData.int ((((L + h : Nat) : Int) - (L : Int)) * (n : Int)) = _
        rw [show ((L + h : Nat) : Int) - (L : Int) = (h : Int) by walk_at "l", Int.natCast_mul, Int.mul_comm]
      have kp4 : Kp G.T s s4 := ((KB.of (k1.trans k2)).trans (k3.trans k4)).kp fun b q => q ▸ hfr
      have I4 := I.kp kp4
      have L1 : L + h - L = h := Nat.add_sub_cancel_left L h
      have L2 : R - (L + h) = m := sub_is hm
      obtain ⟨o4, fd4, hf4, hd4⟩ := I4.fo'
      refine wpAny_execs_cons (exec_ret (wpAny_BinOp (wpAny_BinOp (Call_Name rfl (nameOf (by decide +kernel) I.l2 I4.k2 (Calls.callWith_function (o := o4) (fd := fd4) (EvAll.args (ds := [.int ((L + h : Nat) : Int), .int (R : Int)]) (by walk_at "x") hok hv f4.vr fun vs s5 k5 r5 => ⟨⟨k5.nt _ _ (.func hd4) hf4, hd4⟩, ?_⟩)))))))
      obtain ⟨u, v, rfl, q1, q2⟩ := r5.two
      simp only [Rp] at q1 q2
      obtain ⟨t4, rfl⟩ := q1
      obtain ⟨t5, rfl⟩ := q2
      refine ih e (by walk_at "l") hok (I4.kp k5) (by walk_at "l") h2 (by rw [L2]; walk_at "l") (by rw [L2]; exact h5m) fun s6 t6 k6 => ?_
      rw [L2]
      have f6 := (f4.keeps k5).keeps k6
      refine (EvTo.var (d := .int ((n * h : Nat) : Int)) (by walk_at "x")) _ env _ s6 _ _ hok hv f6.vr fun v s7 k7 r7 => ?_
      simp only [Rp] at r7
      obtain ⟨t7, rfl⟩ := r7
      have hup : undig n ((zs.drop (L + h)).take m) < 2 ^ (n * m) := by
        have q := undig_lt n ((zs.drop (L + h)).take m) fun z hz' => hz z (List.mem_of_mem_drop (List.mem_of_mem_take hz'))
        rw [List.length_take, List.length_drop, Nat.min_eq_left (Nat.le_sub_of_add_le (by walk_at "l"))] at q
        exact q
      have hub := intBits_le hup
      refine lshift_int (by walk_at "l") (by walk_at "l") ?_
      have k8 : Kp G.T s7 { s7 with toks := s7.toks + 1 } := Kp.tok _
      have f8 := (f6.keeps k7).keeps k8
      have kp8 : Kp G.T s { s7 with toks := s7.toks + 1 } := (((kp4.trans k5).trans k6).trans k7).trans k8
      have I8 := I.kp kp8
      obtain ⟨o8, fd8, hf8, hd8⟩ := I8.fo'
      refine Call_Name rfl (nameOf (by decide +kernel) I.l2 I8.k2 (Calls.callWith_function (o := o8) (fd := fd8) (EvAll.args (ds := [.int (L : Int), .int ((L + h : Nat) : Int)]) (by walk_at "x") hok hv f8.vr fun vs s9 k9 r9 => ⟨⟨k9.nt _ _ (.func hd8) hf8, hd8⟩, ?_⟩)))
      obtain ⟨u, v, rfl, q1, q2⟩ := r9.two
      simp only [Rp] at q1 q2
      obtain ⟨t8, rfl⟩ := q1
      obtain ⟨t9, rfl⟩ := q2
      refine ih e (by walk_at "l") hok (I8.kp k9) (by walk_at "l") (by walk_at "l") (by rw [L1]; walk_at "l") (by rw [L1]; exact h5h) fun s10 t10 k10 => ?_
      rw [L1]
      refine add_int ?_
      have e1 : (zs.drop L).take (h + m) = (zs.drop L).take h ++ (zs.drop (L + h)).take m := by
        rw [List.take_add, List.drop_drop]
      have e2 : ((zs.drop L).take h).length = h := by rw [List.length_take, List.length_drop, Nat.min_eq_left (Nat.le_sub_of_add_le (by walk_at "l"))]
      have e3 : ((undig n ((zs.drop (L + h)).take m) : Nat) : Int) * 2 ^ (((n * h : Nat) : Int)).toNat + ((undig n ((zs.drop L).take h) : Nat) : Int) = ((undig n ((zs.drop L).take (h + m)) : Nat) : Int) := by
        rw [e1, undig_append, e2, Int.toNat_natCast, Nat.mul_comm (2 ^ (n * h))]
        push_cast
        walk_at "l"
      have := hQ { s10 with toks := s10.toks + 1 } s10.toks (((kp8.trans k9).trans k10).trans (Kp.tok _))
      rw [← e3] at this
      exact this
end
section
variable {prog : Program} {w : World} {G : Gl prog w} {k : Nat}
theorem d2i_body (hG : Glo G) {n : Nat} {zs : List Nat} (hz : ∀ z, z ∈ zs → z < 2 ^ n) (hzl : zs.length ≤ lid) (hb : n * zs.length ≤ 2 ^ 20) {env : Env} {c' P : Addr} (T : TabDef G c' P (inPos (fnBody PP iD2i) 0) "_digits2int.<locals>.inner") (hcode : env.code = .ref c') (hq : env.qual = ("_digits2int" : Str) ++ (".<locals>." : Str)) :
    ExAt G 22 (fnScope PP iD2i) [("digits", .own (.list (zs.map fun z : Nat => .int (z : Int)))), ("n", .own (.int (n : Int)))] env (fnBody PP iD2i) (fun o => o = .ret (.int ((undig n zs : Nat) : Int))) := by
  intro A M0 L Wc Z s0 s Q E ho hv t hQ hR
  have hlid : lid = 1048576 := rfl
  have hqn : qualnameIn env "inner" "inner" = "_digits2int.<locals>.inner" := by
    unfold qualnameIn
    have : (env.kindOf ("inner" : Str) == some .globalExplicit) = false := by
      rcases hv.kindC "inner" (.inl (by decide +kernel)) with q | q <;> rw [q] <;> rfl
    rw [this, hq]; rfl
  have hcells : ∀ y, y ∈ (inScope (fnBody PP iD2i) 0).names → y.2 = .free → ∃ c, env.cells.lookup y.1 = some c := by
    have : ∀ y, y ∈ (inScope (fnBody PP iD2i) 0).names → y.2 = .free → (fnScope PP iD2i).names.lookup y.1 = some .cell := by decide +kernel
    exact fun y h1 h2 => hv.cells _ (.inl (this y h1 h2))
  refine wpAny_execs_cons (PySem.W.nestDef_K rfl rfl rfl ?_)
  rw [hqn]
  refine def_nested T t.fm.vr.base hv.glob hcode (closureFor_eq hcells) fun f c2 ctv doc s2 k2 hfn hf hco => ?_
  have t2 := t.keeps k2
  refine t2.storeB (b := .un) (ρ' := [("inner", .un), ("digits", .own (.list (zs.map fun z : Nat => .int (z : Int)))), ("n", .own (.int (n : Int)))]) hv (by walk_at "x") (by walk_at "x") (fun _ _ _ => trivial) (fun h => by cases h) fun s3 k3 t3 hacc _ => ?_
  obtain ⟨vd, accd, rd⟩ := t3.fm.vr.ent (("digits" : Str)) (.own (.list (zs.map fun z : Nat => .int (z : Int)))) (by walk_at "x")
  obtain ⟨c1, l1, kc1⟩ := accd.cell hv (by decide +kernel)
  obtain ⟨c2', l2, kc2⟩ := hacc.cell hv (by decide +kernel)
  obtain ⟨vn, accn, rn⟩ := t3.fm.vr.ent (("n" : Str)) (.own (.int (n : Int))) (by walk_at "x")
  simp only [Rp] at rn
  obtain ⟨tn, rfl⟩ := rn
  obtain ⟨c3, l3, kc3⟩ := accn.cell hv (by decide +kernel)
  have hlook : ∀ y c, (clOf env (inScope (fnBody PP iD2i) 0).names []).lookup y = some c → env.cells.lookup y = some c := fun y c h => by
    obtain ⟨h1, h2⟩ := clOf_mem env _ y c (mem_of_lookup h)
    obtain ⟨c', h3⟩ := hcells _ h1 rfl
    rw [h3] at h2 ⊢
    rw [h2]; rfl
  have I : InnD G f c1 c2' c3 n zs (clOf env (inScope (fnBody PP iD2i) 0).names []) (MM M0 Wc Z L) s3 :=
    { base := t3.fm.vr.base
      dom := t3.fm.vr.dom
      fo := ⟨doc, _, c2, ctv, k3.nt _ _ (fun q => by obtain ⟨o, e⟩ := t.dom (.inl q); rw [hfn] at e; cases e) (.cls rfl) hf, hco.gr fun o i e => k3.code _ o i e⟩
      k1 := ⟨vd, kc1, rd⟩
      k2 := kc2
      k3 := ⟨tn, kc3⟩
      mc := fun y c h => t3.fm.vr.cel y c (hlook y c h)
      l1 := by rw [clOf_lookup _ _ _ (by decide +kernel), l1]; rfl
      l2 := by rw [clOf_lookup _ _ _ (by decide +kernel), l2]; rfl
      l3 := by rw [clOf_lookup _ _ _ (by decide +kernel), l3]; rfl
      hfree := fun y h => ⟨_, clOf_lookup env _ y (mem_of_lookup h)⟩ }
  have fin : ∀ (v : Value) (s' : Shared), Kp G.T s3 s' → (∃ tk, v = .int ((undig n zs : Nat) : Int) tk) → Q (.ret v) s' := fun v s' kk hv' =>
    hR (.int ((undig n zs : Nat) : Int)) v s' rfl (t3.kp.trans kk) (by simp only [Rp]; exact hv')
  refine wpAny_execs_cons (exec_ret (IfExp_ ((TrTo.of (d := .list (zs.map fun z : Nat => .int (z : Int))) (EvTo.var (by walk_at "x")) trivial (fun _ _ => rfl)) A env _ s3 _ _ ho hv t3.fm.vr fun s4 k4 => ?_)))
  by_cases hzs : zs = []
  · subst hzs
    have hT0 : TruD (.list (([] : List Nat).map fun z : Nat => .int (z : Int))) = false := rfl
    rw [hT0, if_neg (by decide)]
    refine EvTo.intC A env _ s4 _ _ ho hv (t3.fm.vr.keeps k4) fun v s5 k5 r5 => ?_
    simp only [Rp] at r5
    exact fin v s5 (k4.trans k5) r5
  · have hT : TruD (.list (zs.map fun z : Nat => .int (z : Int))) = true := by
      cases zs with
      | nil => exact absurd rfl hzs
      | cons z r => rfl
    have hpos : 0 < zs.length := List.length_pos_iff.mpr hzs
    rw [hT, if_pos rfl]
    obtain ⟨o4, fd4, hf4, hd4⟩ := (I.kp k4).fo'
    refine Call_Name rfl ((hacc.keeps k4.nt).name hv (Calls.callWith_function (o := o4) (fd := fd4) (EvAll.args (ds := [.int 0, .int ((zs.map fun z : Nat => PyData.int (z : Int)).length : Nat)]) (by walk_at "x") ho hv (t3.fm.vr.keeps k4) fun vs s5 k5 r5 => ⟨⟨k5.nt _ _ (.func hd4) hf4, hd4⟩, ?_⟩)))
    obtain ⟨u, v, rfl, q1, q2⟩ := r5.two
    simp only [Rp] at q1 q2
    obtain ⟨t4, rfl⟩ := q1
    obtain ⟨t5, rfl⟩ := q2
    have hml : (zs.map fun z : Nat => PyData.int (z : Int)).length = zs.length := List.length_map _
    refine d2i_rec hz hzl 20 (L := 0) (R := (zs.map fun z : Nat => PyData.int (z : Int)).length) (ho.mono (by decide)) (I.kp (k4.trans k5)) (by rw [hml]; exact hpos) (by rw [hml]; exact Nat.le_refl _) (by rw [hml]; walk_at "l") (by rw [hml, Nat.sub_zero]; exact hb) fun s6 t6 k6 => ?_
    rw [hml, Nat.sub_zero, List.drop_zero, List.take_length]
    exact fin _ s6 ((k4.trans k5).trans k6) ⟨_, rfl⟩
theorem d2i_fn (hG : Glo G) (hD : DefAt G "_digits2int" (fnPars PP iD2i) (fnBody PP iD2i) (fnScope PP iD2i)) (hT : ∀ c', CodeOf G "_digits2int" (fnPars PP iD2i) (fnBody PP iD2i) (fnScope PP iD2i) c' → ∃ P, TabDef G c' P (inPos (fnBody PP iD2i) 0) "_digits2int.<locals>.inner") :
    FnOk G "_digits2int" 23 (fun ds d => ∃ (n : Nat) (zs : List Nat), ds = [.list (zs.map fun z : Nat => .int (z : Int)), .int (n : Int)] ∧ (∀ z, z ∈ zs → z < 2 ^ n) ∧ zs.length ≤ lid ∧ n * zs.length ≤ 2 ^ 20 ∧ d = .int ((undig n zs : Nat) : Int)) := by
  refine FnOk.of1 (k := 22) (ps := ["digits", "n"]) hD (by decide +kernel) (fun pm c doc vs hl => ?_) fun ds d h => ?_
  · obtain ⟨a, b, rfl⟩ := two_vs hl
    rfl
  · obtain ⟨n, zs, rfl, hz, hzl, hb, rfl⟩ := h
    refine ⟨rfl, fun env c' hc hcode hq => ?_⟩
    obtain ⟨P, T⟩ := hT c' hc
    intro A M0 L Wc Z s0 s Q E ho hv t hQ hR
    exact d2i_body hG hz hzl hb T hcode hq A M0 L Wc Z s0 s Q E ho hv t (fun ρ' Z' s' hp => by cases hp) (fun d v s' hp hk hr => hR d v s' (.inl hp) hk hr)
end
section
variable {prog : Program} {w : World} {G : Gl prog w} {k : Nat}
theorem d2n_fn (hG : Glo G) (hD : DefAt G "_div2n1n" (fnPars PP iD2) (fnBody PP iD2) (fnScope PP iD2)) :
    FnOk G "_div2n1n" 1 (fun ds d => ∃ a b n : Int, ds = [.int a, .int b, .int n] ∧ b ≠ 0 ∧ b.natAbs.log2 < 9000 ∧ (Builtin.Int.intBits a : Int) - n ≤ 4000 ∧ d = .tuple [.int (a.fdiv b), .int (a.fmod b)]) := by
  refine FnOk.of (k := 0) (ps := ["a", "b", "n"]) hD (by decide +kernel) (fun pm c doc vs hl => ?_) fun ds d h => ?_
  · obtain ⟨a, b, c, rfl⟩ := three_vs hl
    rfl
  · obtain ⟨a, b, n, rfl, h0, hb, hn, rfl⟩ := h
    refine ⟨rfl, ?_⟩
    show ExTo G 0 (fnScope PP iD2) [("a", B.own (.int a)), ("b", B.own (.int b)), ("n", B.own (.int n))] _ _
    refine ExTo.ite (b := true) (P1 := fun o => o = .ret (.tuple [.int (a.fdiv b), .int (a.fmod b)])) (TrTo.cast (TrTo.cmp (EvTo.sub (EvTo.bitLen (EvTo.var (d := .int a) (by walk_at "x")) (fun _ => rfl) rfl) (EvTo.var (d := .int n) (by walk_at "x"))) (EvTo.limit hG (by decide +kernel)) CmpOk.leI (by with_unfolding_all rfl)) (decide_eq_true hn)) (fun _ => ?_) (fun h => by cases h) (fun ρ' h => by cases h) (fun d h => by cases h; exact .inl rfl)
    refine ExTo.ret (d := .tuple [.int (a.fdiv b), .int (a.fmod b)]) ?_ rfl
    apply EvTo.divmod
    · decide +kernel
    · exact (Glo.divmod hG).1
    · exact (Glo.divmod hG).2
    · walk_at "x"
    · walk_at "x"
    · walk_at "x"
    · walk_at "x"
    · exact h0
    · exact hb
end
section
variable {prog : Program} {w : World} {G : Gl prog w} {k : Nat} {sc : Scope} {ρ ρ' : VEnv}
theorem ExTo.perm {ss : List Stmt} {P : Out → Prop} (h : ∀ p, p ∈ ρ' → p ∈ ρ) (hn : (ρ'.map (·.1)).Nodup) (hx : ExTo G k sc ρ' ss P) : ExTo G k sc ρ ss P := by
  intro A env M0 L Wc Z s0 s Q E ho hv t hQ hR
  exact hx A env M0 L Wc Z s0 s Q E ho hv (t.lessE (fun y b hy => .inr (h _ hy)) hn) hQ hR
end
theorem lt_bits (x : Nat) : x < 2 ^ Builtin.Int.intBits (x : Int) := by
  unfold Builtin.Int.intBits
  by_cases hx : x = 0
  · simp [hx]
  · have : ((x : Int) == 0) = false := by simp [hx]
    rw [this, if_neg (by decide), Int.natAbs_natCast]
    exact Nat.lt_log2_self
noncomputable def dq (n b : Nat) : List Nat → List Nat × Nat
  | [] => ([], 0)
  | z :: l => (((dq n b l).2 * 2 ^ n + z) / b :: (dq n b l).1, ((dq n b l).2 * 2 ^ n + z) % b)
theorem dq_len (n b : Nat) : ∀ l, (dq n b l).1.length = l.length
  | [] => rfl
  | z :: l => by simp [dq, dq_len n b l]
theorem dq_rest {n b : Nat} (hb : 0 < b) : ∀ l, (dq n b l).2 < b
  | [] => hb
  | z :: l => Nat.mod_lt _ hb
theorem dq_lt {n b : Nat} (hb : 0 < b) : ∀ l, (∀ z, z ∈ l → z < 2 ^ n) → ∀ q, q ∈ (dq n b l).1 → q < 2 ^ n
  | [], _, q, h => by simp [dq] at h
  | z :: l, hz, q, h => by
    simp only [dq, List.mem_cons] at h
    rcases h with rfl | h
    · have h1 := dq_rest (n := n) hb l
      have h2 := hz z List.mem_cons_self
      rw [Nat.div_lt_iff_lt_mul hb]
      have : ((dq n b l).2 + 1) * 2 ^ n ≤ b * 2 ^ n := Nat.mul_le_mul_right _ h1
      rw [Nat.add_mul, Nat.one_mul] at this
      rw [Nat.mul_comm (2 ^ n)]
      walk_at "l"
    · exact dq_lt hb l (fun y hy => hz y (List.mem_cons_of_mem _ hy)) q h
theorem dq_spec {n b : Nat} (hb : 0 < b) : ∀ l, b * undig n (dq n b l).1 + (dq n b l).2 = undig n l
  | [] => by simp [dq, undig]
  | z :: l => by
    have ih := dq_spec (n := n) hb l
    simp only [dq, undig]
    generalize (dq n b l).2 = r at *
    generalize undig n (dq n b l).1 = q at *
    have := Nat.div_add_mod (r * 2 ^ n + z) b
    rw [← ih, Nat.mul_add, Nat.mul_add]
    rw [Nat.mul_comm (2 ^ n) r, Nat.mul_left_comm b (2 ^ n) q]
    walk_at "l"
theorem dq_div {n b : Nat} (hb : 0 < b) (l : List Nat) : undig n (dq n b l).1 = undig n l / b ∧ (dq n b l).2 = undig n l % b := by
  have h1 := dq_spec (n := n) hb l
  have h2 := dq_rest (n := n) hb l
  constructor
  · symm
    rw [Nat.div_eq_iff hb]
    rw [Nat.mul_comm] at h1
    exact ⟨by rw [← h1]; exact Nat.le_add_right _ _, Nat.le_sub_one_of_lt (by rw [← h1]; exact Nat.add_lt_add_left h2 _)⟩
  · rw [← h1, Nat.mul_add_mod, Nat.mod_eq_of_lt h2]
theorem digN_lt (n : Nat) : ∀ (m x : Nat), ∀ z, z ∈ digN n x m → z < 2 ^ n
  | 0, _, z, h => by simp [digN] at h
  | m + 1, x, z, h => by
    simp only [digN, List.mem_cons] at h
    rcases h with rfl | h
    · exact Nat.mod_lt _ (Nat.pow_pos (by decide))
    · exact digN_lt n m _ z h
theorem i2n_enough {n x : Nat} (hn : 0 < n) : x < 2 ^ (n * i2n n x) := by
  have hle : Builtin.Int.intBits (x : Int) ≤ n * i2n n x := by
    unfold i2n
    have h1 := Nat.div_add_mod (Builtin.Int.intBits (x : Int) + n - 1) n
    have h2 := Nat.mod_lt (Builtin.Int.intBits (x : Int) + n - 1) hn
    walk_at "l"
  exact Nat.lt_of_lt_of_le (lt_bits x) (Nat.pow_le_pow_right (by decide) hle)
theorem fdivN (a b : Nat) : (a : Int).fdiv (b : Int) = ((a / b : Nat) : Int) := by rw [Int.fdiv_eq_ediv_of_nonneg _ (by walk_at "l")]; rfl
theorem fmodN (a b : Nat) : (a : Int).fmod (b : Int) = ((a % b : Nat) : Int) := by rw [Int.fmod_eq_emod_of_nonneg _ (by walk_at "l")]; rfl
theorem log2_lt_bits {b k : Nat} (h : Builtin.Int.intBits (b : Int) ≤ k) (hb : 0 < b) : b.log2 < k := by
  have h3 : b < 2 ^ k := Nat.lt_of_lt_of_le (lt_bits b) (Nat.pow_le_pow_right (by decide) h)
  exact (Nat.log2_lt (by walk_at "l")).mpr h3
section
variable {prog : Program} {w : World} {G : Gl prog w} {k : Nat}
noncomputable abbrev d2Rel : List PyData → PyData → Prop := fun ds d => ∃ a b n : Int, ds = [.int a, .int b, .int n] ∧ b ≠ 0 ∧ b.natAbs.log2 < 9000 ∧ (Builtin.Int.intBits a : Int) - n ≤ 4000 ∧ d = .tuple [.int (a.fdiv b), .int (a.fmod b)]
noncomputable abbrev i2Rel : List PyData → PyData → Prop := fun ds d => ∃ x n : Nat, ds = [.int (x : Int), .int (n : Int)] ∧ 0 < n ∧ Builtin.Int.intBits (x : Int) + n ≤ 2 ^ 19 ∧ d = .list (digs n x (i2n n x))
noncomputable abbrev diRel : List PyData → PyData → Prop := fun ds d => ∃ (n : Nat) (zs : List Nat), ds = [.list (zs.map fun z : Nat => .int (z : Int)), .int (n : Int)] ∧ (∀ z, z ∈ zs → z < 2 ^ n) ∧ zs.length ≤ lid ∧ n * zs.length ≤ 2 ^ 20 ∧ d = .int ((undig n zs : Nat) : Int)
noncomputable abbrev dmRel : List PyData → PyData → Prop := fun ds d => ∃ a b : Nat, ds = [.int (a : Int), .int (b : Int)] ∧ 0 < b ∧ Builtin.Int.intBits (a : Int) ≤ 2000 ∧ Builtin.Int.intBits (b : Int) ≤ 2000 ∧ d = .tuple [.int ((a / b : Nat) : Int), .int ((a % b : Nat) : Int)]
theorem dmp_fn (hG : Glo G) (hD : DefAt G "_divmod_pos" (fnPars PP iDmp) (fnBody PP iDmp) (fnScope PP iDmp)) (F2 : FnOk G "_div2n1n" 1 d2Rel) (Fi : FnOk G "_int2digits" 23 i2Rel) (Fd : FnOk G "_digits2int" 23 diRel) :
    FnOk G "_divmod_pos" 24 dmRel := by
  refine FnOk.of (k := 23) (ps := ["a", "b"]) hD (by decide +kernel) (fun pm c doc vs hl => ?_) fun ds d h => ?_
  · obtain ⟨a, b, rfl⟩ := two_vs hl
    rfl
  · obtain ⟨a, b, rfl, hb, hab, hbb, rfl⟩ := h
    refine ⟨rfl, ?_⟩
    walk_at "a"
    generalize hn : Builtin.Int.intBits (b : Int) = n at *
    have hn0 : 0 < n := by
      have := lt_bits b
      rw [hn] at this
      rcases Nat.eq_zero_or_pos n with q | q
      · rw [q] at this; simp at this; walk_at "l"
      · exact q
    have hbl : b < 2 ^ n := by rw [← hn]; exact lt_bits b
    apply ExTo.step
    · walk_at "x"
    rw [hn]
    apply ExTo.step
    · apply Step.assign (d := .list (digs n a (i2n n a)))
      · exact EvTo.user Fi (by decide +kernel) (by walk_at "l") (by walk_at "x") ⟨a, n, rfl, hn0, by walk_at "l", rfl⟩
      · walk_at "x"
      · walk_at "x"
      · exact fun _ => rfl
    have hlz := digN_lt n (i2n n a) a
    have hund := undig_digN n (i2n n a) a (i2n_enough hn0)
    have hll := digN_length n (i2n n a) a
    have hml : i2n n a ≤ 4000 := Nat.le_trans (Nat.div_le_self _ _) (Nat.le_trans (Nat.sub_le _ _) (by walk_at "l"))
    have hnm : n * i2n n a ≤ 4000 := Nat.le_trans (Nat.mul_div_le _ _) (Nat.le_trans (Nat.sub_le _ _) (by walk_at "l"))
    unfold digs
    generalize digN n a (i2n n a) = l at *
    apply ExTo.step
    · walk_at "x"
    apply ExTo.step
    · apply Step.assignIt
      · apply EvIt.list
        · walk_at "x"
        · walk_at "s"
      · walk_at "x"
      · walk_at "x"
      · exact fun _ => rfl
    refine ExTo.for (f := fun z : Nat => PyData.int (z : Int)) (xs := l.reverse) (Iv := fun _ => True)
      (R := fun i => [("a", .own (.int (a : Int))), ("b", .own (.int (b : Int))), ("n", .own (.int (n : Int))), ("a_digits", .own (.list (l.map fun z : Nat => PyData.int (z : Int)))), ("r", .own (.int ((dq n b (l.drop (l.length - i))).2 : Nat))), ("q_digits", .mu ((dq n b (l.drop (l.length - i))).1.reverse.map fun z : Nat => PyData.int (z : Int)))])
      (ρb := fun i x => [("a", .own (.int (a : Int))), ("b", .own (.int (b : Int))), ("n", .own (.int (n : Int))), ("a_digits", .own (.list (l.map fun z : Nat => PyData.int (z : Int)))), ("r", .own (.int ((dq n b (l.drop (l.length - i))).2 : Nat))), ("q_digits", .mu ((dq n b (l.drop (l.length - i))).1.reverse.map fun z : Nat => PyData.int (z : Int))), ("a_digit", .own (.int (x : Int)))])
      ?_ (fun _ _ => rfl) ?_ trivial ?_ ?_ ?_
    · rw [List.map_reverse]
      apply ItTo.rev
      · decide +kernel
      · exact (Glo.reversed hG).1
      · exact (Glo.reversed hG).2
      · walk_at "x"
      · walk_at "x"
    · rw [Nat.sub_zero, List.drop_length]
      simp only [dq, List.reverse_nil, List.map_nil, Int.ofNat_zero]
      walk_at "x"
    · intro i x hx _
      exact BindTo.name (by walk_at "x") (by walk_at "x")
    · intro i x hx _
      have hi : i < l.length := by have := (List.getElem?_eq_some_iff.mp hx).1; simpa using this
      have hxl : x ∈ l := by have := List.mem_of_getElem? hx; simpa using this
      have hdrop : l.drop (l.length - (i + 1)) = x :: l.drop (l.length - i) := by
        rw [List.getElem?_reverse hi] at hx
        have e : l.length - (i + 1) = l.length - 1 - i := by rw [Nat.sub_sub, Nat.add_comm 1 i]
        have hj : l.length - 1 - i < l.length := Nat.lt_of_le_of_lt (Nat.sub_le _ _) (sub1_lt (Nat.lt_of_le_of_lt (Nat.zero_le _) hi))
        rw [List.getElem?_eq_getElem hj] at hx
        rw [e, List.drop_eq_getElem_cons hj, Option.some.inj hx]
        congr 2
        rw [Nat.sub_right_comm, Nat.sub_add_cancel (Nat.sub_pos_of_lt hi)]
      rw [hdrop]
      simp only [dq, List.reverse_cons, List.map_append, List.map_cons, List.map_nil]
      have hr := dq_rest (n := n) hb (l.drop (l.length - i))
      have hlen := dq_len n b (l.drop (l.length - i))
      have hz := hlz x hxl
      generalize (dq n b (l.drop (l.length - i))).2 = r at *
      generalize (dq n b (l.drop (l.length - i))).1 = qs at *
      have hv : r * 2 ^ n + x < 2 ^ (n + n) := by
        have h1 : (r + 1) * 2 ^ n ≤ b * 2 ^ n := Nat.mul_le_mul_right _ hr
        have h2 : b * 2 ^ n ≤ 2 ^ n * 2 ^ n := Nat.mul_le_mul_right _ (Nat.le_of_lt hbl)
        rw [Nat.add_mul, Nat.one_mul] at h1
        rw [Nat.pow_add]
        walk_at "l"
      have hrb : Builtin.Int.intBits (r : Int) ≤ n := intBits_le (Nat.lt_trans hr hbl)
      apply ExTo.step
      · apply Step.assignT (xs := [.int ((r * 2 ^ n + x) / b : Nat), .int ((r * 2 ^ n + x) % b : Nat)])
        · refine EvTo.user F2 (by decide +kernel) (by walk_at "l") (ds := [.int ((r * 2 ^ n + x : Nat) : Int), .int (b : Int), .int (n : Int)]) (.cons (fun _ _ => rfl) (EvTo.cast (EvTo.add (EvTo.lsh (by walk_at "x") (by walk_at "x") (by walk_at "l") (by walk_at "l")) (by walk_at "x")) ?_) (by walk_at "x")) ⟨((r * 2 ^ n + x : Nat) : Int), (b : Int), (n : Int), rfl, by walk_at "l", ?_, ?_, ?_⟩
          · rw [Int.toNat_natCast]; push_cast; rfl
          · rw [Int.natAbs_natCast]; exact Nat.lt_of_lt_of_le (log2_lt_bits (Nat.le_of_eq hn) hb) (by walk_at "l")
          · have := intBits_le hv
            walk_at "l"
          · rw [fdivN, fmodN]
        · walk_at "x"
        · exact fun _ => rfl
        · exact fun _ => rfl
      apply ExTo.step
      · apply Step.append
        · walk_at "x"
        · walk_at "x"
        · walk_at "x"
        · rfl
        · walk_at "x"
        · have : lid = 1048576 := rfl
          have h9 : (List.drop (l.length - i) l).length ≤ l.length := by rw [List.length_drop]; exact Nat.sub_le _ _
          simp only [List.length_map, List.length_reverse]
          walk_at "l"
      exact ExTo.nil ⟨by walk_at "x", trivial⟩
    · intro _
      rw [List.length_reverse, Nat.sub_self, List.drop_zero]
      have hdv := dq_div (n := n) hb l
      rw [hund] at hdv
      have hlen := dq_len n b l
      have hqz := dq_lt (n := n) hb l hlz
      rw [← hdv.1, ← hdv.2]
      apply ExTo.step
      · apply Step.reverse
        · walk_at "x"
        · rfl
        · walk_at "x"
      rw [← List.map_reverse, List.reverse_reverse]
      apply ExTo.freeze (x := "q_digits")
      · walk_at "x"
      · walk_at "x"
      apply ExTo.step
      · apply Step.assign (d := .int ((undig n (dq n b l).1 : Nat) : Int))
        · exact EvTo.user Fd (by decide +kernel) (by walk_at "l") (by walk_at "x") ⟨n, (dq n b l).1, rfl, hqz, by have : lid = 1048576 := rfl; walk_at "l", by rw [hlen, hll]; walk_at "l", rfl⟩
        · walk_at "x"
        · walk_at "x"
        · exact fun _ => rfl
      refine ExTo.ret (d := .tuple [.int ((undig n (dq n b l).1 : Nat) : Int), .int (((dq n b l).2 : Nat) : Int)]) (by walk_at "x") (.inl rfl)
end
noncomputable def big : Nat := 2 ^ 1990
theorem big_bits {x : Int} (h : x.natAbs < big) : Builtin.Int.intBits x ≤ 2000 := by
  unfold big at h
  unfold Builtin.Int.intBits
  split
  · walk_at "l"
  · rename_i h0
    have h0 : x.natAbs ≠ 0 := by simpa using h0
    have := (Nat.log2_lt h0).mpr h
    walk_at "l"
theorem bitNot_eq (a : Int) : Builtin.bitNot a = -a - 1 := rfl
theorem fdiv_not {a b : Int} (hb : 0 < b) : Builtin.bitNot ((Builtin.bitNot a).fdiv b) = a.fdiv b ∧ b + Builtin.bitNot ((Builtin.bitNot a).fmod b) = a.fmod b := by
  rw [bitNot_eq, bitNot_eq, bitNot_eq]
  have h1 := Int.mul_fdiv_add_fmod (-a - 1) b
  have h2 := Int.mul_fdiv_add_fmod a b
  have h3 := Int.fmod_nonneg_of_pos (-a - 1) hb
  have h4 := Int.fmod_lt_of_pos (-a - 1) hb
  have h5 := Int.fmod_nonneg_of_pos a hb
  have h6 := Int.fmod_lt_of_pos a hb
  generalize (-a - 1).fdiv b = q at *
  generalize (-a - 1).fmod b = r at *
  generalize a.fdiv b = q' at *
  generalize a.fmod b = r' at *
  have h7 : b * (q' + q + 1) = b - 1 - r - r' := by
    rw [Int.mul_add, Int.mul_add]; walk_at "l"
  have h8 : q' + q + 1 = 0 := by
    rcases Int.lt_trichotomy (q' + q + 1) 0 with h | h | h
    · exfalso
      have : b * (q' + q + 1) ≤ b * (-1) := Int.mul_le_mul_of_nonneg_left (by walk_at "l") (by walk_at "l")
      walk_at "l"
    · exact h
    · exfalso
      have : b * 1 ≤ b * (q' + q + 1) := Int.mul_le_mul_of_nonneg_left (by walk_at "l") (by walk_at "l")
      walk_at "l"
  rw [h8] at h7
  walk_at "l"
theorem fdiv_negs {a b : Int} : (-a).fdiv (-b) = a.fdiv b ∧ -((-a).fmod (-b)) = a.fmod b := by
  exact ⟨Int.neg_fdiv_neg a b, by rw [Int.neg_fmod_neg, Int.neg_neg]⟩
section
variable {prog : Program} {w : World} {G : Gl prog w} {k : Nat}
noncomputable abbrev idRel : List PyData → PyData → Prop := fun ds d => ∃ a b : Int, ds = [.int a, .int b] ∧ b ≠ 0 ∧ a.natAbs < big ∧ b.natAbs < big ∧ d = .tuple [.int (a.fdiv b), .int (a.fmod b)]
noncomputable def Fnx (G : Gl prog w) (k : Nat) (name : Str) (f : List PyData → PyData → Prop) : Prop := ∃ n, n ≤ k ∧ FnOk G name n f
theorem idm_body (hG : Glo G) (Fm : FnOk G "_divmod_pos" 24 dmRel) {k : Nat} (hk : 24 ≤ k) {a b : Int} (hb : b ≠ 0) (ha : a.natAbs < big) (hbb : b.natAbs < big)
    (F1 : a < 0 → 0 < b → Fnx G k "int_divmod" (fun ds d => ∃ a b : Nat, ds = [.int (a : Int), .int (b : Int)] ∧ 0 < b ∧ (a : Int).natAbs < big ∧ (b : Int).natAbs < big ∧ d = .tuple [.int ((a : Int).fdiv b), .int ((a : Int).fmod b)]))
    (F2 : b < 0 → Fnx G k "int_divmod" (fun ds d => ∃ a b : Int, ds = [.int (a : Int), .int (b : Int)] ∧ 0 < b ∧ a.natAbs < big ∧ b.natAbs < big ∧ d = .tuple [.int (a.fdiv b), .int (a.fmod b)])) :
    ExTo G k (fnScope PP iIdm) [("a", .own (.int a)), ("b", .own (.int b))] (fnBody PP iIdm) (fun o => o = .ret (.tuple [.int (a.fdiv b), .int (a.fmod b)])) := by
  apply ExTo.ite (b := false) (P1 := fun o => o = .ret (.tuple [.int (a.fdiv b), .int (a.fmod b)]))
  · exact TrTo.cast (by walk_at "x") (by simp [hb])
  · intro h; cases h
  · intro _
    apply ExTo.ite (b := decide (b < 0)) (P1 := fun o => o = .ret (.tuple [.int (a.fdiv b), .int (a.fmod b)]))
    · walk_at "x"
    · intro h
      have h : b < 0 := of_decide_eq_true h
      obtain ⟨n, hn, F⟩ := F2 h
      apply ExTo.step
      · apply Step.assignT (xs := [.int ((-a).fdiv (-b)), .int ((-a).fmod (-b))])
        · exact EvTo.user F (by decide +kernel) hn (by walk_at "x") ⟨-a, -b, rfl, by walk_at "l", by rw [Int.natAbs_neg]; exact ha, by rw [Int.natAbs_neg]; exact hbb, rfl⟩
        · walk_at "x"
        · exact fun _ => rfl
        · exact fun _ => rfl
      · refine ExTo.ret (EvTo.cast (by walk_at "x") ?_) rfl
        rw [fdiv_negs.1, fdiv_negs.2]
    · intro h
      have h : ¬ b < 0 := of_decide_eq_false h
      apply ExTo.ite (b := decide (a < 0)) (P1 := fun o => o = .ret (.tuple [.int (a.fdiv b), .int (a.fmod b)]))
      · walk_at "x"
      · intro h2
        have h2 : a < 0 := of_decide_eq_true h2
        obtain ⟨n, hn, F⟩ := F1 h2 (by walk_at "l")
        obtain ⟨m, hm⟩ : ∃ m : Nat, Builtin.bitNot a = (m : Int) := ⟨(-a - 1).toNat, by rw [bitNot_eq]; walk_at "l"⟩
        obtain ⟨c, rfl⟩ : ∃ c : Nat, b = (c : Int) := ⟨b.toNat, by walk_at "l"⟩
        have hm2 : -a - 1 = (m : Int) := by rw [← hm, bitNot_eq]
        have e := fdiv_not (a := a) (b := (c : Int)) (by walk_at "l")
        rw [hm] at e
        apply ExTo.step
        · apply Step.assignT (xs := [.int ((m : Int).fdiv (c : Int)), .int ((m : Int).fmod (c : Int))])
          · exact EvTo.user F (by decide +kernel) hn (.cons (fun _ _ => rfl) (EvTo.cast (by walk_at "x") (by rw [hm])) (by walk_at "x")) ⟨m, c, rfl, by walk_at "l", by walk_at "l", by walk_at "l", rfl⟩
          · walk_at "x"
          · exact fun _ => rfl
          · exact fun _ => rfl
        · refine ExTo.ret (EvTo.cast (by walk_at "x") ?_) rfl
          rw [e.1, e.2]
      · intro h2
        have h2 : ¬ a < 0 := of_decide_eq_false h2
        obtain ⟨m, rfl⟩ : ∃ m : Nat, a = (m : Int) := ⟨a.toNat, by walk_at "l"⟩
        obtain ⟨c, rfl⟩ : ∃ c : Nat, b = (c : Int) := ⟨b.toNat, by walk_at "l"⟩
        refine ExTo.ret (d := .tuple [.int ((m : Int).fdiv c), .int ((m : Int).fmod c)]) (EvTo.user Fm (by decide +kernel) hk (by walk_at "x") ⟨m, c, rfl, by walk_at "l", big_bits ha, big_bits hbb, by rw [fdivN, fmodN]⟩) rfl
      · intro ρ' h; cases h
      · intro d h; exact h
    · intro ρ' h; cases h
    · intro d h; exact h
  · intro ρ' h; cases h
  · intro d h; exact h
theorem idm_fn (hG : Glo G) (hD : DefAt G "int_divmod" (fnPars PP iIdm) (fnBody PP iIdm) (fnScope PP iIdm)) (Fm : FnOk G "_divmod_pos" 24 dmRel) : FnOk G "int_divmod" 27 idRel := by
  have F1 : FnOk G "int_divmod" 25 (fun ds d => ∃ a b : Nat, ds = [.int (a : Int), .int (b : Int)] ∧ 0 < b ∧ (a : Int).natAbs < big ∧ (b : Int).natAbs < big ∧ d = .tuple [.int ((a : Int).fdiv b), .int ((a : Int).fmod b)]) := by
    refine FnOk.of (k := 24) (ps := ["a", "b"]) hD (by decide +kernel) (fun pm c doc vs hl => ?_) fun ds d h => ?_
    · obtain ⟨a, b, rfl⟩ := two_vs hl; rfl
    · obtain ⟨a, b, rfl, hb, ha, hbb, rfl⟩ := h
      exact ⟨rfl, (idm_body hG Fm (Nat.le_refl _) (by walk_at "l") ha hbb (fun h => absurd h (by walk_at "l")) (fun h => absurd h (by walk_at "l"))).mono fun o h => .inl h⟩
  have F2 : FnOk G "int_divmod" 26 (fun ds d => ∃ a b : Int, ds = [.int (a : Int), .int (b : Int)] ∧ 0 < b ∧ a.natAbs < big ∧ b.natAbs < big ∧ d = .tuple [.int (a.fdiv b), .int (a.fmod b)]) := by
    refine FnOk.of (k := 25) (ps := ["a", "b"]) hD (by decide +kernel) (fun pm c doc vs hl => ?_) fun ds d h => ?_
    · obtain ⟨a, b, rfl⟩ := two_vs hl; rfl
    · obtain ⟨a, b, rfl, hb, ha, hbb, rfl⟩ := h
      exact ⟨rfl, (idm_body hG Fm (by walk_at "l") (by walk_at "l") ha hbb (fun h _ => ⟨25, by walk_at "l", F1⟩) (fun h => absurd h (by walk_at "l"))).mono fun o h => .inl h⟩
  refine FnOk.of (k := 26) (ps := ["a", "b"]) hD (by decide +kernel) (fun pm c doc vs hl => ?_) fun ds d h => ?_
  · obtain ⟨a, b, rfl⟩ := two_vs hl; rfl
  · obtain ⟨a, b, rfl, hb, ha, hbb, rfl⟩ := h
    exact ⟨rfl, (idm_body hG Fm (by walk_at "l") hb ha hbb (fun h _ => ⟨25, by walk_at "l", F1⟩) (fun h => ⟨26, by walk_at "l", F2⟩)).mono fun o h => .inl h⟩
end
noncomputable def b3of (T : List (Int × Str)) (c : Nat) : Str := match getT T c with | some y => y | none => Txt.lower ⟨#[c]⟩
section
variable {prog : Program} {w : World} {G : Gl prog w} {k : Nat}
noncomputable def SetAt (G : Gl prog w) (S : Int → Bool) : Prop := ∃ a n, G.mg "b1_set" = some (.ref a) ∧ G.hB.SetOf (intKind prog w) a S n
noncomputable abbrev b1Rel (S : Int → Bool) : List PyData → PyData → Prop := fun ds d => ∃ c : Nat, ds = [.str ⟨#[c]⟩] ∧ d = .bool (S c)
noncomputable abbrev b3Rel (T : List (Int × Str)) : List PyData → PyData → Prop := fun ds d => ∃ c : Nat, ds = [.str ⟨#[c]⟩] ∧ tooLong (Txt.lower ⟨#[c]⟩).length = false ∧ d = .str (b3of T c)
theorem b1_fn (hG : Glo G) {S : Int → Bool} (hS : SetAt G S) (hD : DefAt G "in_table_b1" (fnPars PP iB1) (fnBody PP iB1) (fnScope PP iB1)) : FnOk G "in_table_b1" 1 (b1Rel S) := by
  refine FnOk.of (k := 0) (ps := ["code"]) hD (by decide +kernel) (fun pm c doc vs hl => ?_) fun ds d h => ?_
  · obtain ⟨a, rfl⟩ := one_vs hl; rfl
  · obtain ⟨c, rfl, rfl⟩ := h
    refine ⟨rfl, ?_⟩
    walk_at "a"
    obtain ⟨a, n, hm, hS⟩ := hS
    refine ExTo.ret (d := .bool (S c)) (EvTo.inSet (i := c) (by decide +kernel) hm hS (EvTo.ord (by decide +kernel) (Glo.ord hG).1 (Glo.ord hG).2 (by walk_at "x") (by walk_at "x"))) (.inl rfl)
theorem b3_fn (hG : Glo G) {T : List (Int × Str)} (hT : TabAt G "b3_exceptions" T) (hD : DefAt G "map_table_b3" (fnPars PP iB3) (fnBody PP iB3) (fnScope PP iB3)) : FnOk G "map_table_b3" 1 (b3Rel T) := by
  refine FnOk.of (k := 0) (ps := ["code"]) hD (by decide +kernel) (fun pm c doc vs hl => ?_) fun ds d h => ?_
  · obtain ⟨a, rfl⟩ := one_vs hl; rfl
  · obtain ⟨c, rfl, hf, rfl⟩ := h
    refine ⟨rfl, ?_⟩
    walk_at "a"
    apply ExTo.step
    · apply Step.assign (d := optS (getT T c))
      · exact EvTo.tabGet (by decide +kernel) hT (EvTo.ord (by decide +kernel) (Glo.ord hG).1 (Glo.ord hG).2 (by walk_at "x") (by walk_at "x")) (by walk_at "x") (fun _ => rfl) rfl
      · walk_at "x"
      · walk_at "x"
      · exact fun _ => rfl
    unfold b3of
    cases getT T c with
    | none =>
      simp only [optS]
      apply ExTo.ite (b := false) (P1 := fun o => o = .next [("code", .own (.str ⟨#[c]⟩)), ("r", .own .none)])
      · exact TrTo.cast (TrTo.cmp (a := .none) (by walk_at "x") EvTo.noneC (CmpOk.isnNone (.inr rfl)) rfl) rfl
      · intro h; cases h
      · intro _; exact ExTo.nil rfl
      · intro ρ' h
        cases h
        refine ExTo.ret (d := .str (Txt.lower ⟨#[c]⟩)) (EvTo.lower (by walk_at "x") (fun _ => rfl) rfl hf) (.inl rfl)
      · intro d h; cases h
    | some y =>
      simp only [optS]
      apply ExTo.ite (b := true) (P1 := fun o => o = .ret (.str y))
      · exact TrTo.cast (TrTo.cmp (a := .str y) (by walk_at "x") EvTo.noneC (CmpOk.isnNone (.inl ⟨_, rfl⟩)) rfl) rfl
      · intro _; exact ExTo.ret (by walk_at "x") rfl
      · intro h; cases h
      · intro ρ' h; cases h
      · intro d h; exact .inl h
end
noncomputable def unsL : List Nat := [173, 847, 6150, 6155, 6156, 6157, 8203, 8204, 8205, 8288, 65279, 65024, 65025, 65026, 65027, 65028, 65029, 65030, 65031, 65032, 65033, 65034, 65035, 65036, 65037, 65038, 65039]
noncomputable def unsS : Str := ⟨unsL.toArray⟩
noncomputable abbrev one (c : Nat) : Str := ⟨#[c]⟩
section
variable {prog : Program} {w : World} {G : Gl prog w} {k : Nat}
theorem un_fn (hG : Glo G) (hD : DefAt G "_law_unseen" (fnPars PP iUn) (fnBody PP iUn) (fnScope PP iUn)) : FnOk G "_law_unseen" 1 (fun ds d => ds = [] ∧ d = .str unsS) := by
  refine FnOk.of (k := 0) (ps := []) hD (by decide +kernel) (fun pm c doc vs hl => ?_) fun ds d h => ?_
  · obtain rfl : vs = [] := List.length_eq_zero_iff.mp hl
    rfl
  · obtain ⟨rfl, rfl⟩ := h
    refine ⟨rfl, ?_⟩
    walk_at "o"
    walk_at "g"
    have hj : Txt.join ("" : Str) (unsL.map one) = unsS := by decide +kernel
    have hl : unsL.length ≤ lid := by decide +kernel
    have hc : (([.int 173, .int 847, .int 6150, .int 6155, .int 6156, .int 6157, .int 8203, .int 8204, .int 8205, .int 8288, .int 65279] : List PyData) ++ (rangeL 65024 65040 1).map PyData.int) = unsL.map fun c : Nat => PyData.int (c : Int) := by
      have : rangeL 65024 65040 1 = [65024, 65025, 65026, 65027, 65028, 65029, 65030, 65031, 65032, 65033, 65034, 65035, 65036, 65037, 65038, 65039] := by decide +kernel
      rw [this]; rfl
    rw [← hj]
    refine' ExTo.ret (d := .str (Txt.join ("" : Str) (unsL.map one))) ?_ ?_
    · refine' EvTo.join (ts := unsL.map one) ?_ ?_ ?_ ?_ ?_ ?_
      · walk_at "x"
      · exact fun _ => rfl
      · rw [List.map_map]
        refine' EvTo.cmpN (f := fun c : Nat => .int (c : Int)) (ρc := []) ?_ ?_ ?_ ?_ ?_ ?_ ?_ ?_
        · decide +kernel
        · walk_at "x"
        · rw [← hc]
          refine' ItTo.list (EvTo.catL (EvL.of ?_) (EvL.of ?_) ?_)
          · walk_at "x"
          · refine' EvTo.listRange ?_ ?_ ?_ ?_ ?_ ?_ ?_ ?_ ?_ ?_ ?_ ?_
            · decide +kernel
            · exact (Glo.list hG).1
            · exact (Glo.list hG).2
            · decide +kernel
            · exact (Glo.range hG).1
            · exact (Glo.range hG).2
            · walk_at "x"
            · walk_at "x"
            · walk_at "x"
            · walk_at "x"
            · decide +kernel
            · decide +kernel
          · decide +kernel
        · exact fun _ _ => rfl
        · walk_at "x"
        · walk_at "x"
        · intro c hc
          have hle : c ≤ 1114111 := (by decide +kernel : ∀ c ∈ unsL, c ≤ 1114111) c hc
          exact EvTo.cast (EvTo.chr (by decide +kernel) (Glo.chr hG).1 (Glo.chr hG).2 (i := (c : Int)) (by walk_at "x") (by walk_at "x") (by walk_at "l") (by walk_at "l")) (by rw [Int.toNat_natCast]; rfl)
        · exact hl
      · walk_at "x"
      · rfl
      · decide +kernel
    · exact .inl rfl
end
noncomputable def rowsL : List Nat := [97, 65, 119808, 119860, 119912, 120016, 120172, 120224, 120276, 120328, 120380, 120432]
noncomputable def pairsL : List (Str × List Nat) := [("h", [13259]), ("p", [13274]), ("r", [8360]), ("s", [64261, 64262]), ("t", [8482]), ("m", [13245, 13247]), ("w", [13277]), ("b", [13251])]
noncomputable def pairOf (l : Nat) : List Nat := (getF pairsL (one l)).getD []
noncomputable def codeOf (c3 p j l : Nat) : Nat := rowsL.getD ((c3 + 5 * p + j) % 12) 0 + l - 97
noncomputable def pfx (turn : Nat) : Str := if turn % 2 = 1 then one (unsL.getD (turn / 2 % 27) 0) else ""
noncomputable def sglAt (c3 c4 l p k : Nat) : Str := pfx (c4 / 3 ^ p + k) ++ one (codeOf c3 p k l)
noncomputable def dblAt (c5 l p : Nat) : Str := pfx (c5 / 2 + p) ++ one ((pairOf l).getD (c5 % (pairOf l).length) 0)
noncomputable def sglRow (fs : List Nat) (c3 c4 l p : Nat) : List Str := (List.range (fs.getD p 0)).map (sglAt c3 c4 l p)
noncomputable def dblRow (n c5 l p : Nat) : List Str := if p + 1 < n then [dblAt c5 l p] else []
noncomputable def sglL (ls fs : List Nat) (c3 c4 : Nat) : List (List Str) := ls.zipIdx.map fun x => sglRow fs c3 c4 x.1 x.2
noncomputable def dblL (ls : List Nat) (c5 : Nat) : List Str := ls.zipIdx.flatMap fun x => dblRow ls.length c5 x.1 x.2
structure StOk (ls fs : List Nat) : Prop where
  len : fs.length = ls.length
  short : ls.length ≤ 4
  few : ∀ f, f ∈ fs → f ≤ 4
  az : ∀ l, l ∈ ls → 97 ≤ l ∧ l ≤ 122
  pair : ∀ (p l : Nat), ls[p]? = some l → p + 1 < ls.length → pairOf l ≠ []
noncomputable def wordS (ls : List Nat) : Str := ⟨ls.toArray⟩
noncomputable abbrev strsL (xs : List Str) : PyData := .list (xs.map .str)
noncomputable abbrev stRel : List PyData → PyData → Prop := fun ds d => ∃ (ls fs cs : List Nat) (c3 c4 c5 : Nat), ds = [.str (wordS ls), .list (natL fs), .list (natL cs), .str unsS] ∧ StOk ls fs ∧ cs[3]? = some c3 ∧ cs[4]? = some c4 ∧ cs[5]? = some c5 ∧ c3 < 10 ^ 6 ∧ c4 < 10 ^ 6 ∧ c5 < 10 ^ 6 ∧
  d = .tuple [.list ((sglL ls fs c3 c4).map strsL), .list ((dblL ls c5).map .str)]
theorem rows_lt (i : Nat) (h : i < 12) : ∃ r, rowsL[i]? = some r ∧ rowsL.getD i 0 = r ∧ r ≤ 120432 ∧ 65 ≤ r := by
  have : ∀ i, i < 12 → ∃ r, rowsL[i]? = some r ∧ rowsL.getD i 0 = r ∧ r ≤ 120432 ∧ 65 ≤ r := by
    intro i h
    have hl : i < rowsL.length := h
    refine ⟨rowsL[i], by rw [List.getElem?_eq_getElem hl], by rw [List.getD_eq_getElem?_getD, List.getElem?_eq_getElem hl]; rfl, ?_, ?_⟩
    · exact (by decide +kernel : ∀ r ∈ rowsL, r ≤ 120432) _ (List.getElem_mem hl)
    · exact (by decide +kernel : ∀ r ∈ rowsL, 65 ≤ r) _ (List.getElem_mem hl)
  exact this i h
theorem pairs_some {l : Nat} (h : pairOf l ≠ []) : getF pairsL (one l) = some (pairOf l) ∧ ∀ c ∈ pairOf l, c ≤ 64262 := by
  unfold pairOf at h ⊢
  cases e : getF pairsL (one l) with
  | none => rw [e] at h; exact absurd rfl h
  | some v =>
    refine ⟨rfl, ?_⟩
    have hm : ∃ kv ∈ pairsL, kv.2 = v := by
      unfold getF at e
      cases f : pairsL.find? (fun kv => decide (kv.1 = one l)) with
      | none => rw [f] at e; cases e
      | some kv => rw [f] at e; cases e; exact ⟨kv, List.mem_of_find?_eq_some f, rfl⟩
    obtain ⟨kv, hm, rfl⟩ := hm
    exact (by decide +kernel : ∀ kv ∈ pairsL, ∀ c ∈ kv.2, c ≤ 64262) kv hm
theorem flat_take_succ {α β : Type} (g : α → List β) (xs : List α) (i : Nat) (x : α) (h : xs[i]? = some x) : (xs.take (i + 1)).flatMap g = (xs.take i).flatMap g ++ g x := by
  have : xs.take (i + 1) = xs.take i ++ [x] := by rw [List.take_add_one, h]; rfl
  rw [this, List.flatMap_append]; simp
theorem flat_take_len {α β : Type} (g : α → List β) (c : Nat) : ∀ (xs : List α), (∀ x ∈ xs, (g x).length ≤ c) → (xs.flatMap g).length ≤ c * xs.length
  | [], _ => by simp
  | x :: xs, h => by
    have h1 := h x List.mem_cons_self
    have h2 := flat_take_len g c xs fun y hy => h y (List.mem_cons_of_mem _ hy)
    simp only [List.flatMap_cons, List.length_append, List.length_cons, Nat.mul_add]
    walk_at "l"
section
variable {prog : Program} {w : World} {G : Gl prog w} {k : Nat} {sc : Scope} {ρ : VEnv}
theorem getF_map {α β : Type} (g : α → β) (x : Str) : ∀ F : List (Str × α), getF (F.map fun y => (y.1, g y.2)) x = (getF F x).map g
  | [] => rfl
  | (y, d) :: F => by
    have ih := getF_map g x F
    unfold getF at ih ⊢
    by_cases h : y = x
    · simp [h]
    · rw [List.map_cons, List.find?_cons_of_neg (by simpa using h), List.find?_cons_of_neg (by simpa using h)]
      exact ih
theorem uns_item (i : Nat) (h : i < 27) : Txt.item unsS (i : Int) = one (unsL.getD i 0) ∧ (Txt.charAt unsS (i : Int)).isSome = true := by
  have : ∀ i : Nat, i < 27 → Txt.item unsS (i : Int) = one (unsL.getD i 0) ∧ (Txt.charAt unsS (i : Int)).isSome = true := by decide +kernel
  exact this i h
theorem small_mul {a b : Nat} (ha : a < 2 ^ 60) (hb : b < 2 ^ 60) : IntMulOk (a : Int) (b : Int) := IntMulOk.of_bits (Nat.le_trans (intBits_le ha) (by decide)) (Nat.le_trans (intBits_le hb) (by decide))
theorem wordS_len (ls : List Nat) : (wordS ls).length = ls.length := by simp [wordS, Str.length]
theorem wordS_signs (ls : List Nat) : signs (wordS ls) = ls.map fun c => .str (one c) := by simp [signs, wordS]
theorem piece_ev (hG : Glo G) {turn code : Nat} {p1 p2 p3 p4 p5 p6 p7 p8 p9 p10 p11 p12 p13 p14 p15 p16 p17 p18 : Pos} {n1 n2 n3 n4 n5 : Nat} (hk : sc.names.lookup ("chr" : Str) = some .globalImplicit) (ht : (("turn" : Str), B.own (.int (turn : Int))) ∈ ρ) (hc : (("code" : Str), B.own (.int (code : Int))) ∈ ρ) (hu : (("unseen" : Str), B.own (.str unsS)) ∈ ρ) (hle : code ≤ 1114111) :
    EvTo G k sc ρ (.BinOp (.IfExp (.Compare (.BinOp (.Name "turn" p1) .Mod (.Constant (.int 2) n1 p2) p3) [.Eq] [.Constant (.int 1) n2 p4] p5) (.Subscript (.Name "unseen" p6) (.BinOp (.BinOp (.Name "turn" p7) .FloorDiv (.Constant (.int 2) n3 p8) p9) .Mod (.Constant (.int 27) n4 p10) p11) p12) (.Constant (.str "") n5 p13) p14) .Add (.Call (.Name "chr" p15) [.Name "code" p16] [] p17) p18) (.str (pfx turn ++ one code)) := by
  have e : PyData.str (pfx turn) = if turn % 2 = 1 then .str (one (unsL.getD (turn / 2 % 27) 0)) else .str "" := by unfold pfx; split <;> rfl
  with_reducible refine' EvTo.cat (EvTo.cast (EvTo.iteB (TrTo.eqN (EvTo.modN ?o1 ?o2 ?o3) ?o4 ?o5) ?n2 ?n3) e.symm) ?n4 ?n5
  case o1 => exact EvTo.var ht
  case o2 => walk_at "n"
  case o3 => decide
  case o4 => walk_at "n"
  case o5 => rfl
  case n2 =>
    intro _
    have hu' := uns_item (turn / 2 % 27) (Nat.mod_lt _ (by decide))
    rw [← hu'.1]
    with_reducible refine' EvTo.itemS ?o1 ?o2 ?o3 hu'.2 ?o5
    case o1 => exact EvTo.var hu
    case o2 =>
      with_reducible refine' EvTo.modN (EvTo.divN ?p1 ?p2 ?p3 ?p4) ?p5 ?p6
      case p1 => exact EvTo.var ht
      case p2 => walk_at "n"
      case p3 => decide
      case p4 => walk_at "k"
      case p5 => walk_at "n"
      case p6 => decide
    case o3 =>
      have : turn / 2 % 27 < 27 := Nat.mod_lt _ (by decide)
      unfold fitsSsize
      simp
      walk_at "l"
    case o5 => exact fun _ _ => rfl
  case n3 =>
    intro _
    exact EvTo.strC
  case n4 =>
    with_reducible refine' EvTo.cast (EvTo.chr (i := (code : Int)) ?o1 ?o2 ?o3 ?o4 ?o5 ?o6 ?o7) ?o8
    case o1 => exact hk
    case o2 => exact (Glo.chr hG).1
    case o3 => exact (Glo.chr hG).2
    case o4 => exact EvTo.var hc
    case o5 => exact fun _ _ => rfl
    case o6 => walk_at "l"
    case o7 => walk_at "l"
    case o8 => rw [Int.toNat_natCast]
  case n5 =>
    unfold pfx
    split
    · exact Nat.le_trans (show 1 + 1 ≤ 2 by decide) (by decide)
    · exact Nat.le_trans (show 0 + 1 ≤ 2 by decide) (by decide)
end
section
variable {prog : Program} {w : World} {G : Gl prog w} {k : Nat}
noncomputable abbrev stEnv (ls fs cs : List Nat) (S : B) (done2 : List Str) (more : VEnv) : VEnv := ("word", .own (.str (wordS ls))) :: ("forms", .own (.list (natL fs))) :: ("cells", .own (.list (natL cs))) :: ("unseen", .own (.str unsS)) :: ("rows", .own (.list (natL rowsL))) :: ("pairs", .own (.dict (dk (pairsL.map fun x => (x.1, .list (natL x.2)))))) :: ("doubles", .mu (done2.map .str)) :: ("singles", S) :: more
theorem map_take_succ {α β : Type} (g : α → β) (xs : List α) (i : Nat) (x : α) (h : xs[i]? = some x) : (xs.take (i + 1)).map g = (xs.take i).map g ++ [g x] := by
  have : xs.take (i + 1) = xs.take i ++ [x] := by rw [List.take_add_one, h]; rfl
  rw [this, List.map_append]; rfl
theorem st_fn (hG : Glo G) (hD : DefAt G "_law_stock" (fnPars PP iSt) (fnBody PP iSt) (fnScope PP iSt)) : FnOk G "_law_stock" 1 stRel := by
  refine FnOk.of (k := 0) (ps := ["word", "forms", "cells", "unseen"]) hD (by decide +kernel) (fun pm c doc vs hl => ?_) fun ds d h => ?_
  · obtain ⟨a, b, c, d, rfl⟩ := four_vs hl; rfl
  · obtain ⟨ls, fs, cs, c3, c4, c5, rfl, ok, h3, h4, h5, hc3, hc4, hc5, rfl⟩ := h
    refine ⟨rfl, ?_⟩
    walk_at "o"
    have hlen := ok.len
    have hshort := ok.short
    have hlid : lid = 1048576 := rfl
    walk_at "t"
    case s1 =>
      with_reducible refine' Step.assign (d := .list (natL rowsL)) ?k1 ?k2 ?k3 ?k4
      case k1 => walk_at "e"
      case k2 => walk_at "x"
      case k3 => walk_at "x"
      case k4 => exact fun _ => rfl
    walk_at "t"
    case s1 =>
      with_reducible refine' Step.assign (d := .dict (dk (pairsL.map fun x => (x.1, .list (natL x.2))))) ?k1 ?k2 ?k3 ?k4
      case k2 => walk_at "x"
      case k3 => walk_at "x"
      case k4 => exact fun _ => rfl
      case k1 =>
        with_reducible refine' EvTo.cast (EvTo.dictS ?k1 ?k2 ?k3 ?k4 ?k5) ?k6
        case k1 => walk_at "x"
        case k2 => simp
        case k3 => decide
        case k4 => walk_at "k"
        case k5 => exact Nat.le_of_ble_eq_true rfl
        case k6 => rfl
    walk_at "t"
    case s1 =>
      with_reducible refine' Step.tupSwN (ρ' := stEnv ls fs cs (.mu (([] : List (List Str)).map strsL)) [] []) (bs := [.mu (([] : List (List Str)).map strsL), .mu (([] : List Str).map .str)]) (.cons ?k1 ?e1 (.cons ?k2 ?e2 .nil)) ?k6 ?k7 ?k8 ?k9 ?k10
      case k1 | k2 => exact fun _ _ => rfl
      case e1 | e2 => exact EvIt.list (ds := []) .nil (Nat.zero_le _)
      case k6 => walk_at "x"
      case k8 => walk_at "k"
      case k9 => rfl
      case k10 => exact Nat.le_of_ble_eq_true rfl
      case k7 =>
        dsimp only [List.reverse, List.reverseAux]
        with_reducible refine' UpdAll.cons (r1 := [("word", .own (.str (wordS ls))), ("forms", .own (.list (natL fs))), ("cells", .own (.list (natL cs))), ("unseen", .own (.str unsS)), ("rows", .own (.list (natL rowsL))), ("pairs", .own (.dict (dk (pairsL.map fun x => (x.1, .list (natL x.2)))))), ("doubles", .mu (([] : List Str).map .str))]) ?m1 ?m2 (UpdAll.cons ?m3 ?m4 ?m5)
        case m1 => walk_at "x"
        case m2 => walk_at "x"
        case m3 => walk_at "x"
        case m4 => walk_at "x"
        case m5 => walk_at "x"
    have hzip : ∀ (i : Nat) (x : Nat × Nat), ls.zipIdx[i]? = some x → x.2 = i ∧ ls[i]? = some x.1 := fun i x hx => by
      rw [List.getElem?_zipIdx] at hx
      cases h : ls[i]? with
      | none => rw [h] at hx; cases hx
      | some l => rw [h] at hx; simp at hx; exact ⟨by rw [← hx], by rw [← hx]⟩
    have hfs : ∀ p, p < ls.length → fs[p]? = some (fs.getD p 0) ∧ fs.getD p 0 ≤ 4 := fun p hp => by
      have hp' : p < fs.length := by walk_at "l"
      rw [List.getD_eq_getElem?_getD, List.getElem?_eq_getElem hp']
      exact ⟨rfl, ok.few _ (List.getElem_mem hp')⟩
    with_reducible refine' ExTo.for (α := Nat × Nat) (f := fun x => .tuple [.int (x.2 : Int), .str (one x.1)]) (xs := ls.zipIdx) (Iv := fun _ => True)
                        (R := fun i => stEnv ls fs cs (.mu (((ls.zipIdx.take i).map fun x => sglRow fs c3 c4 x.1 x.2).map strsL)) ((ls.zipIdx.take i).flatMap fun x => dblRow ls.length c5 x.1 x.2) [])
                        (ρb := fun i x => stEnv ls fs cs (.mu (((ls.zipIdx.take i).map fun x => sglRow fs c3 c4 x.1 x.2).map strsL)) ((ls.zipIdx.take i).flatMap fun x => dblRow ls.length c5 x.1 x.2) [("place", .own (.int (x.2 : Int))), ("letter", .own (.str (one x.1)))])
                        ?l1 ?l2 ?l3 trivial ?l5 ?l6 ?l7
    case l1 =>
      rw [show (ls.zipIdx.map fun x => PyData.tuple [.int (x.2 : Int), .str (one x.1)]) = enumD 0 (signs (wordS ls)) by rw [wordS_signs, enumD_map]]
      with_reducible refine' ItTo.enumS ?k1 ?k2 ?k3 ?k4 ?k5
      case k1 => walk_at "k"
      case k2 => exact (Glo.enumerate hG).1
      case k3 => exact (Glo.enumerate hG).2
      case k4 => walk_at "x"
      case k5 => walk_at "x"
    case l2 => exact fun _ _ => rfl
    case l3 => exact Wkn.refl _
    case l5 =>
      intro i x hx _
      walk_at "x"
    case l7 =>
      intro _
      rw [List.take_length]
      have hsl : (sglL ls fs c3 c4).length = ls.length := by simp [sglL]
      have hdl : (dblL ls c5).length ≤ 1 * 4 := by
        refine Nat.le_trans (flat_take_len _ 1 _ fun x hx' => ?_) (by simp; walk_at "l")
        unfold dblRow
        split <;> simp
      change ExTo _ _ _ (stEnv ls fs cs (.mu ((sglL ls fs c3 c4).map strsL)) (dblL ls c5) []) _ _
      with_reducible refine' ExTo.freeze (x := "singles") (ds := (sglL ls fs c3 c4).map strsL) (ρ' := stEnv ls fs cs (.own (.list ((sglL ls fs c3 c4).map strsL))) (dblL ls c5) []) ?m1 ?m2 (ExTo.freeze (x := "doubles") (ds := (dblL ls c5).map .str) ?m3 ?m4 (ExTo.ret (EvTo.tuple (ds := [_, _]) (.cons ?m5 ?m6 (.cons ?m7 ?m8 .nil)) ?m10) ?m9))
      case m1 | m2 | m3 | m4 | m5 | m6 | m7 | m8 => walk_at "x"
      case m9 => exact .inl rfl
      case m10 => exact Nat.le_of_ble_eq_true rfl
    case l6 =>
      rintro i ⟨l, p⟩ hx -
      obtain ⟨rfl, hl⟩ := hzip i _ hx
      dsimp only at hl ⊢
      have hp : p < ls.length := (List.getElem?_eq_some_iff.mp hl).1
      have hp4 : p < 4 := by walk_at "l"
      have haz := ok.az l (List.mem_of_getElem? hl)
      obtain ⟨hf, hf4⟩ := hfs p hp
      rw [flat_take_succ _ _ _ _ hx, map_take_succ _ _ _ _ hx]
      have hsl : ((ls.zipIdx.take p).map fun x => sglRow fs c3 c4 x.1 x.2).length = p := by simp; walk_at "l"
      have hdl : ((ls.zipIdx.take p).flatMap fun x => dblRow ls.length c5 x.1 x.2).length ≤ 1 * 4 := by
        refine Nat.le_trans (flat_take_len _ 1 _ fun x hx' => ?_) (by simp; walk_at "l")
        unfold dblRow
        split <;> simp
      generalize ((ls.zipIdx.take p).map fun x => sglRow fs c3 c4 x.1 x.2) = done at *
      generalize ((ls.zipIdx.take p).flatMap fun x => dblRow ls.length c5 x.1 x.2) = done2 at *
      have hrow : ∀ i : Nat, rowsL[i % 12]? = some (rowsL.getD (i % 12) 0) ∧ rowsL.getD (i % 12) 0 ≤ 120432 ∧ 65 ≤ rowsL.getD (i % 12) 0 := fun i => by
        obtain ⟨r, h1, h2, h3, h4⟩ := rows_lt (i % 12) (Nat.mod_lt _ (by decide))
        rw [h2]; exact ⟨h1, h3, h4⟩
      with_reducible refine' ExTo.pushRow2 (f := fun j : Nat => .int (j : Int)) (g := sglAt c3 c4 l p) (xs := List.range (fs.getD p 0)) (x := "singles") (ds := done.map strsL)
                                (R := fun a _ => stEnv ls fs cs (.is (.ref a)) done2 [("place", .own (.int (p : Int))), ("letter", .own (.str (one l)))])
                                (ρb := fun a _ j => stEnv ls fs cs (.is (.ref a)) done2 [("place", .own (.int (p : Int))), ("letter", .own (.str (one l))), ("k", .own (.int (j : Int)))])
                                (ρc := fun a _ j => stEnv ls fs cs (.is (.ref a)) done2 [("place", .own (.int (p : Int))), ("letter", .own (.str (one l))), ("k", .own (.int (j : Int))), ("turn", .own (.int ((c4 / 3 ^ p + j : Nat) : Int))), ("code", .own (.int ((codeOf c3 p j l : Nat) : Int)))])
                                (ρ' := stEnv ls fs cs (.mu (done.map strsL ++ [.list (((List.range (fs.getD p 0)).map (sglAt c3 c4 l p)).map .str)])) done2 [("place", .own (.int (p : Int))), ("letter", .own (.str (one l)))])
                                ?r1 ?r2 ?r3 ?r4 ?r5 ?r6 ?r7 ?r8 ?r9 ?r10 ?r11 ?r12 ?r13 ?r14 ?r15 ?r16 ?r17 ?r18 ?r19 ?r20
      case r1 => walk_at "x"
      case r2 => rfl
      case r3 => rfl
      case r4 => intro a; walk_at "x"
      case r5 =>
        intro a
        with_reducible refine' ItTo.rangeN ?m1 ?m2 ?m3 ?m4 ?m5 ?m6
        case m1 => walk_at "k"
        case m2 => exact (Glo.range hG).1
        case m3 => exact (Glo.range hG).2
        case m4 =>
          with_reducible refine' EvTo.itemNat ?n1 ?n2 ?n3 ?n4
          case n1 => walk_at "x"
          case n2 => walk_at "n"
          case n3 => exact hf
          case n4 => exact fun _ _ => rfl
        case m5 => walk_at "x"
        case m6 => walk_at "l"
      case r6 => exact fun _ _ => rfl
      case r7 => intro a i y hy; walk_at "x"
      case r8 =>
        intro a i j hj
        have hj : j < 4 := by have := List.mem_range.mp (List.mem_of_getElem? hj); walk_at "l"
        walk_at "t"
        case s1 =>
          with_reducible refine' Step.assign (d := .int ((c4 / 3 ^ p + j : Nat) : Int)) ?m1 ?m2 ?m3 ?m4
          case m2 => walk_at "x"
          case m3 => walk_at "x"
          case m4 => exact fun _ => rfl
          case m1 =>
            with_reducible refine' EvTo.addN (EvTo.divN (EvTo.itemNat ?n1 ?n2 h4 ?n3) (EvTo.powN ?n4 ?n5 ?n6) ?n7 ?n8) ?n9
            case n1 => walk_at "x"
            case n2 | n4 | n5 | n9 => walk_at "n"
            case n3 => exact fun _ _ => rfl
            case n6 =>
              rw [show Builtin.Int.intBits ((3 : Nat) : Int) = 2 from rfl]
              walk_at "l"
            case n7 => exact Nat.ne_of_gt (Nat.pow_pos (by decide))
            case n8 =>
              have : ∀ j, j < 4 → (3 ^ j).log2 < 9000 := by decide +kernel
              exact this p hp4
        walk_at "t"
        case s1 =>
          obtain ⟨r1, r2, r3⟩ := hrow (c3 + 5 * p + j)
          with_reducible refine' Step.assign (d := .int ((codeOf c3 p j l : Nat) : Int)) ?m1 ?m2 ?m3 ?m4
          case m2 => walk_at "x"
          case m3 => walk_at "x"
          case m4 => exact fun _ => rfl
          case m1 =>
            show EvTo _ _ _ _ _ (.int ((rowsL.getD ((c3 + 5 * p + j) % 12) 0 + l - 97 : Nat) : Int))
            with_reducible refine' EvTo.subN (EvTo.addN (EvTo.itemNat ?m1 ?m2 r1 ?m4) ?m5) ?m6 ?m7
            case m1 => walk_at "x"
            case m2 =>
              with_reducible refine' EvTo.modN (EvTo.addN (EvTo.addN (EvTo.itemNat ?n1 ?n2 h3 ?n4) (EvTo.mulN ?n5 ?n6 ?n7)) ?n8) ?n9 ?n10
              case n1 => walk_at "x"
              case n2 | n5 | n6 | n8 | n9 => walk_at "n"
              case n4 => exact fun _ _ => rfl
              case n7 => exact small_mul (by walk_at "l") (by walk_at "l")
              case n10 => decide
            case m4 => exact fun _ _ => rfl
            case m5 => walk_at "n"
            case m6 => walk_at "n"
            case m7 => walk_at "l"
        exact ExTo.nil rfl
      case r9 => intro a i y hy; walk_at "x"
      case r10 => intro a i y hy; rw [List.length_map, hsl]; walk_at "n"
      case r11 =>
        intro a i j hj
        obtain ⟨_, r2, r3⟩ := hrow (c3 + 5 * p + j)
        refine piece_ev hG (by decide +kernel) (by walk_at "x") (by walk_at "x") (by walk_at "x") ?_
        unfold codeOf; walk_at "l"
      case r12 => exact fun _ _ => rfl
      case r13 => exact fun _ => rfl
      case r14 => exact fun _ _ => rfl
      case r15 => intro a i y hy; walk_at "x"
      case r16 => intro a; walk_at "x"
      case r17 => intro a; walk_at "x"
      case r18 => rw [List.length_map, hsl]; walk_at "l"
      case r19 => rw [List.length_range]; walk_at "l"
      case r20 =>
      have hrows : done.map strsL ++ [PyData.list (((List.range (fs.getD p 0)).map (sglAt c3 c4 l p)).map .str)] = (done ++ [sglRow fs c3 c4 l p]).map strsL := by rw [List.map_append]; rfl
      rw [hrows]
      generalize (done ++ [sglRow fs c3 c4 l p]).map strsL = S2
      with_reducible refine' ExTo.ite (b := decide (p + 1 < ls.length)) (P1 := fun o => ∃ ρ', o = .next ρ' ∧ Wkn ρ' (stEnv ls fs cs (.mu S2) (done2 ++ dblRow ls.length c5 l p) [])) ?i1 ?i2 ?i3 ?i4 ?i5
      case i1 =>
        rw [← wordS_len ls]
        with_reducible refine' TrTo.ltN ?m1 ?m2 ?m3
        case m1 => walk_at "n"
        case m2 =>
          with_reducible refine' EvTo.lenS ?n1 ?n2 ?n3 ?n4 ?n5 ?n6
          case n1 => walk_at "k"
          case n2 => exact (Glo.len hG).1
          case n3 => exact (Glo.len hG).2
          case n4 => walk_at "x"
          case n5 => walk_at "x"
          case n6 => rw [wordS_len]; walk_at "l"
        case m3 => rfl
      case i2 =>
        intro hb
        have hlt : p + 1 < ls.length := of_decide_eq_true hb
        have hpo := ok.pair p l hl hlt
        obtain ⟨hg, hcs⟩ := pairs_some hpo
        have hpl : 0 < (pairOf l).length := List.length_pos_iff.mpr hpo
        have hget : getF (pairsL.map fun x => (x.1, PyData.list (natL x.2))) (one l) = some (.list (natL (pairOf l))) := by rw [getF_map (fun z => PyData.list (natL z)), hg]; rfl
        have hm := Nat.mod_lt c5 hpl
        have hcd : (pairOf l)[c5 % (pairOf l).length]? = some ((pairOf l).getD (c5 % (pairOf l).length) 0) := by rw [List.getD_eq_getElem?_getD, List.getElem?_eq_getElem hm]; rfl
        have hle : (pairOf l).getD (c5 % (pairOf l).length) 0 ≤ 64262 := hcs _ (List.mem_of_getElem? hcd)
        walk_at "t"
        case s1 =>
          with_reducible refine' Step.assign (d := .int ((c5 / 2 + p : Nat) : Int)) ?m1 ?m2 ?m3 ?m4
          case m2 => walk_at "x"
          case m3 => walk_at "x"
          case m4 => exact fun _ => rfl
          case m1 =>
            with_reducible refine' EvTo.addN (EvTo.divN (EvTo.itemNat ?n1 ?n2 h5 ?n3) ?n4 ?n5 ?n6) ?n7
            case n1 => walk_at "x"
            case n2 | n4 | n7 => walk_at "n"
            case n3 => exact fun _ _ => rfl
            case n5 => decide
            case n6 => walk_at "k"
        walk_at "t"
        case s1 =>
          with_reducible refine' Step.assign (d := .int (((pairOf l).getD (c5 % (pairOf l).length) 0 : Nat) : Int)) ?m1 ?m2 ?m3 ?m4
          case m2 => walk_at "x"
          case m3 => walk_at "x"
          case m4 => exact fun _ => rfl
          case m1 =>
            with_reducible refine' EvTo.itemNat (n := c5 % (natL (pairOf l)).length) (EvL.of (EvTo.key ?n1 ?n2 hget ?n4 ?n5)) (EvTo.modN (EvTo.itemNat ?n6 ?n7 h5 ?n8) (EvTo.lenL ?o1 ?o2 ?o3 (EvL.of (EvTo.key ?o4 ?o5 hget ?o6 ?o7)) ?o8) ?n9) ?n10 ?n11
            case n1 => walk_at "x"
            case n2 => walk_at "x"
            case n4 => exact fun _ _ => rfl
            case n5 => exact fun _ _ => rfl
            case n6 => walk_at "x"
            case n7 => walk_at "n"
            case n8 => exact fun _ _ => rfl
            case o1 => walk_at "k"
            case o2 => exact (Glo.len hG).1
            case o3 => exact (Glo.len hG).2
            case o4 => walk_at "x"
            case o5 => walk_at "x"
            case o6 => exact fun _ _ => rfl
            case o7 => exact fun _ _ => rfl
            case o8 => walk_at "x"
            case n9 => simp only [natL, List.length_map]; walk_at "l"
            case n10 => simp only [natL, List.length_map]; exact hcd
            case n11 => exact fun _ _ => rfl
        walk_at "t"
        case s1 =>
          with_reducible refine' Step.append (d := .str (dblAt c5 l p)) ?m1 ?m2 ?m3 ?m4 ?m5 ?m6
          case m1 => walk_at "x"
          case m2 =>
            refine piece_ev hG (by decide +kernel) (by walk_at "x") (by walk_at "x") (by walk_at "x") ?_
            walk_at "l"
          case m3 => exact fun _ _ => rfl
          case m4 => rfl
          case m5 => walk_at "x"
          case m6 => rw [List.length_map]; walk_at "l"
        refine' ExTo.nil ⟨_, rfl, ?_⟩
        unfold dblRow
        rw [if_pos hlt]
        simp only [stEnv, List.map_append, List.map_cons, List.map_nil]
        walk_at "x"
      case i3 =>
        intro hb
        have hlt : ¬ p + 1 < ls.length := of_decide_eq_false hb
        refine' ExTo.nil ⟨_, rfl, ?_⟩
        unfold dblRow
        rw [if_neg hlt, List.append_nil]
        walk_at "x"
      case i5 => rintro d ⟨ρ', h, _⟩; cases h
      case i4 =>
        rintro ρ' ⟨ρ2, h, hw⟩
        cases h
        exact ExTo.nil ⟨hw, trivial⟩
end
noncomputable def inU (c : Nat) : Bool := !(occurrences unsS (one c) 0 unsS.length 1).isEmpty
noncomputable def foldParts (T : List (Int × Str)) (p : List Nat) : List Str := (p.filter fun c => !inU c).map (b3of T)
noncomputable def foldOf (T : List (Int × Str)) (p : List Nat) : Str := Txt.join ("" : Str) (foldParts T p)
theorem filt_none {α : Type} (l : List α) : l.filter (fun _ => false) = [] := by induction l <;> simp
noncomputable def pieceS (p : List Nat) : Str := ⟨p.toArray⟩
theorem pieceS_signs (p : List Nat) : signs (pieceS p) = p.map fun c => .str (one c) := by simp [signs, pieceS]
structure FoOk (S : Int → Bool) (T : List (Int × Str)) (p : List Nat) : Prop where
  b1 : ∀ c, c ∈ p → S c = inU c
  low : ∀ c, c ∈ p → tooLong (Txt.lower (one c)).length = false
  short : p.length ≤ 10
  join : JoinOk ("" : Str) (foldParts T p) = true
noncomputable abbrev prRel (S : Int → Bool) (T : List (Int × Str)) : List PyData → PyData → Prop := fun ds d => ∃ p : List Nat, ds = [.str (pieceS p), .str unsS] ∧ FoOk S T p ∧ d = .str (foldOf T p)
section
variable {prog : Program} {w : World} {G : Gl prog w} {k : Nat}
theorem pr_fn (hG : Glo G) {S : Int → Bool} {T : List (Int × Str)} (F1 : FnOk G "in_table_b1" 1 (b1Rel S)) (F3 : FnOk G "map_table_b3" 1 (b3Rel T)) (hD : DefAt G "_law_prepared" (fnPars PP iPr) (fnBody PP iPr) (fnScope PP iPr)) : FnOk G "_law_prepared" 2 (prRel S T) := by
  refine FnOk.of (k := 1) (ps := ["piece", "unseen"]) hD (by decide +kernel) (fun pm c doc vs hl => ?_) fun ds d h => ?_
  · obtain ⟨a, b, rfl⟩ := two_vs hl; rfl
  · obtain ⟨p, rfl, ok, rfl⟩ := h
    refine ⟨rfl, ?_⟩
    walk_at "o"
    have hshort := ok.short
    have hpl : p.length ≤ lid := by have : lid = 1048576 := rfl; walk_at "l"
    with_reducible refine' ExTo.skipIf ?i1 (ExTo.ret (d := .str (foldOf T p)) ?z1 ?z2)
    case i1 =>
      with_reducible refine' TrTo.cast (TrTo.cmp (a := .list ((p.filter fun _ => false).map fun c => .str (one c))) (b := .list []) ?m1 ?m2 (CmpOk.neD ?m3 ?m4 ?m5) ?m6) ?m7
      case m1 =>
        with_reducible refine' EvTo.cmpIfN (f := fun c => .str (one c)) (g := fun c => .str (one c)) (xs := p) (b := fun _ => false) ?n1 ?n2 ?n3 ?n4 ?n5 ?n6 ?n7 ?n8 ?n9
        case n1 => walk_at "k"
        case n2 => walk_at "x"
        case n3 => rw [← pieceS_signs]; walk_at "x"
        case n4 => exact fun _ _ => rfl
        case n5 => walk_at "x"
        case n6 => walk_at "x"
        case n7 =>
          intro c hc
          with_reducible refine' TrTo.cast (TrTo.cmp (EvTo.user F1 ?o1 ?o2 ?o3 ⟨c, rfl, rfl⟩) (EvTo.cmp ?o4 ?o5 CmpOk.inS ?o6) CmpOk.isnB ?o7) ?o8
          case o1 => walk_at "k"
          case o2 => decide
          case o3 => walk_at "x"
          case o4 => walk_at "x"
          case o5 => walk_at "x"
          case o6 => rfl
          case o7 => rfl
          case o8 =>
            have := ok.b1 c hc
            rw [this]
            unfold inU
            exact bne_self_eq_false' _
        case n8 => intro c _ h; cases h
        case n9 => exact hpl
      case m2 => exact EvTo.list .nil (by decide)
      case m3 => rw [filt_none]; rfl
      case m4 => rfl
      case m5 => rw [filt_none]; decide
      case m6 => rfl
      case m7 => rw [filt_none]; rfl
    case z2 => exact .inl rfl
    case z1 =>
      unfold foldOf
      with_reducible refine' EvTo.join (ts := foldParts T p) ?n1 ?n2 ?n3 ?n4 ?n5 ok.join
      case n1 => walk_at "x"
      case n2 => exact fun _ => rfl
      case n4 => walk_at "x"
      case n5 => rfl
      case n3 =>
        unfold foldParts
        rw [List.map_map]
        with_reducible refine' EvTo.cmpIfN (f := fun c => .str (one c)) (xs := p) ?o1 ?o2 ?o3 ?o4 ?o5 ?o6 ?o7 ?o8 ?o9
        case o1 => walk_at "k"
        case o2 => walk_at "x"
        case o3 => rw [← pieceS_signs]; walk_at "x"
        case o4 => exact fun _ _ => rfl
        case o5 => walk_at "x"
        case o6 => walk_at "x"
        case o7 =>
          intro c hc
          with_reducible refine' TrTo.cmp ?p1 ?p2 CmpOk.ninS ?p3
          case p1 => walk_at "x"
          case p2 => walk_at "x"
          case p3 => rfl
        case o8 =>
          intro c hc _
          with_reducible refine' EvTo.user F3 ?p1 ?p2 ?p3 ⟨c, rfl, ok.low c hc, rfl⟩
          case p1 => walk_at "k"
          case p2 => decide
          case p3 => walk_at "x"
        case o9 => exact hpl
end
section
open PySem.StrLaws
noncomputable def AtL (g x : List Nat) (hi i : Nat) : Prop := i + x.length ≤ hi ∧ (g.drop i).take x.length = x
theorem pieceS_len (g : List Nat) : (pieceS g).length = g.length := by simp [pieceS, Str.length]
theorem pieceS_inj {a b : List Nat} (h : pieceS a = pieceS b) : a = b := by
  have := congrArg Str.cps h
  simpa [pieceS] using this
theorem pieceS_cat (a b : List Nat) : pieceS a ++ pieceS b = pieceS (a ++ b) := by
  show Str.append _ _ = _
  simp [pieceS, Str.append]
theorem at_iff (g x : List Nat) (hi i : Nat) : At (pieceS g) (pieceS x) hi i ↔ AtL g x hi i := by
  unfold At AtL Builtin.Str.subAt
  rw [pieceS_len]
  refine and_congr_right fun _ => ?_
  unfold pieceS
  simp [List.extract_eq_drop_take]
theorem find_spec (g x : List Nat) {sp ep : Nat} (h1 : sp ≤ ep) (h2 : ep ≤ g.length) :
    (findIn (pieceS g) (pieceS x) sp ep < 0 ∧ ∀ i, sp ≤ i → ¬ AtL g x ep i) ∨ ∃ i : Nat, findIn (pieceS g) (pieceS x) sp ep = i ∧ sp ≤ i ∧ AtL g x ep i ∧ ∀ k, sp ≤ k → k < i → ¬ AtL g x ep k := by
  have hlo : fromIndex (pieceS g).length (sp : Int) = sp := by
    rw [pieceS_len]; unfold fromIndex; rw [if_neg (Int.not_lt.mpr (Int.natCast_nonneg _)), Int.max_eq_right (Int.natCast_nonneg _)]; rfl
  have hhi : min (fromIndex (pieceS g).length (ep : Int)) (pieceS g).length = ep := by
    rw [pieceS_len]; unfold fromIndex; rw [if_neg (Int.not_lt.mpr (Int.natCast_nonneg _)), Int.max_eq_right (Int.natCast_nonneg _)]; exact Nat.min_eq_left h2
  unfold findIn
  rw [hlo, hhi, occ_eq]
  have hmem : ∀ i, i ∈ List.range' sp (ep + 1 - sp) ↔ sp ≤ i ∧ i ≤ ep := fun i => by rw [List.mem_range'_1, Nat.add_sub_cancel' (Nat.le_succ_of_le h1)]; exact and_congr_right fun _ => Nat.lt_succ_iff
  rcases occ_first (pieceS g) (pieceS x) ep 1 (Nat.le_refl _) (List.range' sp (ep + 1 - sp)) sp (fun i hi => ((hmem i).mp hi).1) with ⟨h0, hn⟩ | ⟨pre, a, post, e, h0, ha, hn⟩
  · left
    rw [h0]
    refine ⟨by decide, fun i hi ha => ?_⟩
    have := (at_iff g x ep i).mpr ha
    exact hn i ((hmem i).mpr ⟨hi, by have := ha.1; walk_at "l"⟩) this
  · right
    have hal : a ∈ List.range' sp (ep + 1 - sp) := by rw [e]; simp
    refine ⟨a, ?_, ((hmem a).mp hal).1, (at_iff g x ep a).mp ha, fun k hk hka hat => hn k ?_ ((at_iff g x ep k).mpr hat)⟩
    · generalize (forIn (List.range' sp (ep + 1 - sp)) ((#[] : Array Nat), sp) (occBody (pieceS g) (pieceS x) ep 1)).run.fst = arr at h0
      have h1 : arr.toList[0]? = some a := by simpa using h0
      cases hL : arr.toList with
      | nil => rw [hL] at h1; cases h1
      | cons b t => rw [hL] at h1; simp at h1; rw [h1]
    · have hkm : k ∈ List.range' sp (ep + 1 - sp) := (hmem k).mpr ⟨hk, by have := ((hmem a).mp hal).2; walk_at "l"⟩
      have hp : (pre ++ a :: post).Pairwise (· < ·) := by rw [← e]; exact List.pairwise_lt_range'
      rw [e] at hkm
      rcases List.mem_append.mp hkm with h | h
      · exact h
      · exfalso
        rcases List.mem_cons.mp h with h | h
        · walk_at "l"
        · have := (List.pairwise_cons.mp (List.pairwise_append.mp hp).2.1).1 k h; walk_at "l"
noncomputable def Occ : List (List Nat) → List Nat → Prop
  | [], _ => True
  | w :: ws, g => ∃ p r, g = p ++ w ++ r ∧ Occ ws r
theorem Occ.mono : ∀ {ws : List (List Nat)} {g : List Nat} (p : List Nat), Occ ws g → Occ ws (p ++ g)
  | [], _, _, _ => trivial
  | w :: ws, g, p, ⟨q, r, e, h⟩ => ⟨p ++ q, r, by rw [e]; simp, h⟩
theorem Occ.nil_cons {ws : List (List Nat)} {g : List Nat} : Occ ([] :: ws) g ↔ Occ ws g :=
  ⟨fun ⟨p, r, e, h⟩ => by rw [e]; exact h.mono _, fun h => ⟨[], g, by simp, h⟩⟩
theorem Occ.snoc_nil : ∀ {ws : List (List Nat)} {g : List Nat}, Occ (ws ++ [[]]) g ↔ Occ ws g
  | [], g => ⟨fun _ => trivial, fun _ => ⟨[], g, by simp, trivial⟩⟩
  | w :: ws, g => ⟨fun ⟨p, r, e, h⟩ => ⟨p, r, e, snoc_nil.mp h⟩, fun ⟨p, r, e, h⟩ => ⟨p, r, e, snoc_nil.mpr h⟩⟩
theorem Occ.sub : ∀ {ws : List (List Nat)} {g : List Nat}, Occ ws g → ws.flatten.Sublist g
  | [], _, _ => by simp
  | w :: ws, g, ⟨p, r, e, h⟩ => by
    rw [e, List.flatten_cons, List.append_assoc]
    exact List.Sublist.trans (List.Sublist.append (List.Sublist.refl w) h.sub) (List.sublist_append_right _ _)
theorem go_iff (g : List Nat) {ep : Nat} (h2 : ep ≤ g.length) : ∀ (ws : List (List Nat)) (sp : Nat), sp ≤ ep → (ellGo (pieceS g) ep (ws.map pieceS) sp = true ↔ Occ ws ((g.take ep).drop sp))
  | [], sp, _ => by simp [ellGo, Occ]
  | w :: ws, sp, h1 => by
    have cutAt : ∀ i, sp ≤ i → AtL g w ep i → (g.take ep).drop sp = ((g.take ep).drop sp).take (i - sp) ++ w ++ (g.take ep).drop (i + w.length) := fun i hi ha => by
      have e1 : (g.take ep).drop i = w ++ (g.take ep).drop (i + w.length) := by
        have : ((g.take ep).drop i).take w.length = w := by
          rw [List.drop_take, List.take_take, Nat.min_eq_left (Nat.le_sub_of_add_le (by rw [Nat.add_comm]; exact ha.1))]; exact ha.2
        calc (g.take ep).drop i = ((g.take ep).drop i).take w.length ++ ((g.take ep).drop i).drop w.length := (List.take_append_drop _ _).symm
          _ = w ++ (g.take ep).drop (i + w.length) := by rw [this, List.drop_drop]
      calc (g.take ep).drop sp = ((g.take ep).drop sp).take (i - sp) ++ ((g.take ep).drop sp).drop (i - sp) := (List.take_append_drop _ _).symm
        _ = _ := by rw [List.drop_drop, Nat.add_sub_cancel' hi, e1, List.append_assoc]
    have atOf : ∀ p r, (g.take ep).drop sp = p ++ w ++ r → AtL g w ep (sp + p.length) ∧ r = (g.take ep).drop (sp + p.length + w.length) := fun p r e => by
      have hl := congrArg List.length e
      simp only [List.length_drop, List.length_take, List.length_append, Nat.min_eq_left h2] at hl
      have hep := Nat.add_sub_cancel' h1
      rw [hl] at hep
      have e2 : (g.take ep).drop (sp + p.length) = w ++ r := by rw [← List.drop_drop, e, List.append_assoc, List.drop_left]
      refine ⟨⟨by walk_at "l", ?_⟩, ?_⟩
      · have : ((g.take ep).drop (sp + p.length)).take w.length = w := by rw [e2, List.take_left]
        rw [List.drop_take, List.take_take, Nat.min_eq_left (Nat.le_sub_of_add_le (by walk_at "l"))] at this; exact this
      · rw [← List.drop_drop, e2, List.drop_left]
    rw [List.map_cons]
    unfold ellGo
    rcases find_spec g w h1 h2 with ⟨hf, hn⟩ | ⟨i, hf, hi, ha, hmin⟩
    · rw [if_pos hf]
      refine ⟨fun h => (by cases h), fun ⟨p, r, e, _⟩ => ?_⟩
      exact absurd (atOf p r e).1 (hn _ (by walk_at "l"))
    · rw [if_neg (by rw [hf]; walk_at "l"), hf, pieceS_len, show ((i : Int) + (w.length : Int)) = ((i + w.length : Nat) : Int) by walk_at "l", go_iff g h2 ws (i + w.length) ha.1]
      constructor
      · intro h
        exact ⟨_, _, cutAt i hi ha, h⟩
      · rintro ⟨p, r, e, h⟩
        obtain ⟨h3, h4⟩ := atOf p r e
        have hij : i ≤ sp + p.length := by
          refine Nat.le_of_not_lt fun q => hmin _ (by walk_at "l") q h3
        have e5 : (g.take ep).drop (i + w.length) = ((g.take ep).drop (i + w.length)).take (sp + p.length - i) ++ r := by
          have e6 : (g.take ep).drop (i + w.length + (sp + p.length - i)) = ((g.take ep).drop (i + w.length)).drop (sp + p.length - i) := by rw [List.drop_drop]
          rw [h4, show sp + p.length + w.length = i + w.length + (sp + p.length - i) by rw [Nat.add_right_comm i, Nat.add_sub_cancel' hij], e6, List.take_append_drop]
        rw [e5]
        exact h.mono _
theorem starts_iff (g a : List Nat) : Txt.startswith (pieceS g) (pieceS a) = true ↔ ∃ r, g = a ++ r := by
  have : Txt.startswith (pieceS g) (pieceS a) = true ↔ AtL g a g.length 0 := by
    rw [← at_iff]; unfold Txt.startswith At
    simp only [Bool.and_eq_true, decide_eq_true_eq, pieceS_len]
  rw [this]
  unfold AtL
  constructor
  · rintro ⟨_, h⟩
    rw [List.drop_zero] at h
    exact ⟨g.drop a.length, by conv => lhs; rw [← List.take_append_drop a.length g, h]⟩
  · rintro ⟨r, rfl⟩
    simp
theorem ends_iff (g a : List Nat) : Txt.endswith (pieceS g) (pieceS a) = true ↔ ∃ r, g = r ++ a := by
  have : Txt.endswith (pieceS g) (pieceS a) = true ↔ a.length ≤ g.length ∧ AtL g a g.length (g.length - a.length) := by
    rw [← at_iff]; unfold Txt.endswith At
    simp only [Bool.and_eq_true, decide_eq_true_eq, pieceS_len]
    constructor
    · rintro ⟨h1, h2⟩; exact ⟨by walk_at "l", by walk_at "l", h2⟩
    · rintro ⟨h1, _, h2⟩; exact ⟨by walk_at "l", h2⟩
  rw [this]
  unfold AtL
  constructor
  · rintro ⟨h1, _, h⟩
    rw [List.take_of_length_le (by simp; walk_at "l")] at h
    exact ⟨g.take (g.length - a.length), by conv => lhs; rw [← List.take_append_drop (g.length - a.length) g, h]⟩
  · rintro ⟨r, rfl⟩
    simp
theorem mid_iff (g : List Nat) (ws : List (List Nat)) (sp ep : Nat) (h2 : ep ≤ g.length) : ellMid (pieceS g) (ws.map pieceS) sp ep = true ↔ sp ≤ ep ∧ Occ ws ((g.take ep).drop sp) := by
  unfold ellMid
  by_cases h : (sp : Int) > ep
  · rw [if_pos h]
    exact ⟨fun q => (by cases q), fun q => (by have := q.1; walk_at "l")⟩
  · rw [if_neg h, go_iff g h2 ws sp (by walk_at "l")]
    exact ⟨fun q => ⟨by walk_at "l", q⟩, fun q => q.2⟩
theorem getLastD_map (ws : List (List Nat)) (wl : List Nat) : ((ws ++ [wl]).map pieceS).getLastD Str.empty = pieceS wl := by
  rw [List.map_append, List.map_cons, List.map_nil, List.getLastD_eq_getLast?, List.getLast?_append]; rfl
theorem end_iff (g : List Nat) (ws : List (List Nat)) (wl : List Nat) (sp : Nat) : ellEnd (pieceS g) ((ws ++ [wl]).map pieceS) sp = true ↔ ∃ g1, g = g1 ++ wl ∧ sp ≤ g1.length ∧ Occ ws (g1.drop sp) := by
  unfold ellEnd
  simp only [getLastD_map]
  by_cases h : wl = []
  · subst h
    rw [if_neg (by simp [pieceS_len]), pieceS_len, mid_iff g _ sp g.length (Nat.le_refl _), List.take_length, Occ.snoc_nil]
    exact ⟨fun ⟨a, b⟩ => ⟨g, by simp, a, b⟩, fun ⟨g1, e, a, b⟩ => by rw [List.append_nil] at e; subst e; exact ⟨a, b⟩⟩
  · have hl : 0 < wl.length := List.length_pos_iff.mpr h
    rw [if_pos (by rw [pieceS_len]; simp; walk_at "l")]
    by_cases he : Txt.endswith (pieceS g) (pieceS wl) = true
    · rw [if_pos he]
      obtain ⟨r, rfl⟩ := (ends_iff g wl).mp he
      have e1 : ((ws ++ [wl]).map pieceS).dropLast = ws.map pieceS := by rw [List.map_append, List.map_cons, List.map_nil, List.dropLast_concat]
      rw [e1, pieceS_len, pieceS_len, show (((r ++ wl).length : Nat) : Int) - (wl.length : Int) = ((r.length : Nat) : Int) by simp, mid_iff _ ws sp r.length (by simp), List.take_left]
      exact ⟨fun ⟨a, b⟩ => ⟨r, rfl, a, b⟩, fun ⟨g1, e, a, b⟩ => by rw [List.append_cancel_right e]; exact ⟨a, b⟩⟩
    · rw [if_neg he]
      refine ⟨fun q => (by cases q), fun ⟨g1, e, _⟩ => absurd ((ends_iff g wl).mpr ⟨g1, e⟩) he⟩
theorem top_iff (g w0 wl : List Nat) (ws : List (List Nat)) : ellTop (pieceS g) ((w0 :: (ws ++ [wl])).map pieceS) = true ↔ ∃ r, g = w0 ++ r ++ wl ∧ Occ ws r := by
  unfold ellTop
  simp only [List.map_cons, List.headD_cons, List.tail_cons]
  by_cases h : w0 = []
  · subst h
    rw [if_neg (by simp [pieceS_len]), show (0 : Int) = ((0 : Nat) : Int) from rfl, ← List.map_cons, ← List.cons_append, end_iff]
    simp only [List.drop_zero, Occ.nil_cons]
    exact ⟨fun ⟨r, e, _, o⟩ => ⟨r, by simpa using e, o⟩, fun ⟨r, e, o⟩ => ⟨r, by simpa using e, Nat.zero_le _, o⟩⟩
  · have hl : 0 < w0.length := List.length_pos_iff.mpr h
    rw [if_pos (by rw [pieceS_len]; simp; walk_at "l")]
    by_cases he : Txt.startswith (pieceS g) (pieceS w0) = true
    · rw [if_pos he, pieceS_len, end_iff]
      obtain ⟨r, rfl⟩ := (starts_iff g w0).mp he
      constructor
      · rintro ⟨g1, e, hle, o⟩
        have e2 : g1 = w0 ++ g1.drop w0.length := by
          have := congrArg (List.take w0.length) e
          rw [List.take_left, List.take_append_of_le_length hle] at this
          calc g1 = g1.take w0.length ++ g1.drop w0.length := (List.take_append_drop _ _).symm
            _ = _ := by rw [← this]
        exact ⟨g1.drop w0.length, by rw [← e2]; exact e, o⟩
      · rintro ⟨r', e, o⟩
        exact ⟨w0 ++ r', e, by simp, by rw [List.drop_left]; exact o⟩
    · rw [if_neg he]
      refine ⟨fun q => (by cases q), fun ⟨r, e, _⟩ => absurd ((starts_iff g w0).mpr ⟨r ++ wl, by rw [e, List.append_assoc]⟩) he⟩
end
section
open PySem.StrLaws
noncomputable def dotsN : List Nat := [46, 46, 46]
theorem dots_S : dots = pieceS dotsN := by decide +kernel
noncomputable def wantN : List (List Nat) → List Nat
  | [] => []
  | [w] => w
  | w :: w' :: ws => w ++ dotsN ++ wantN (w' :: ws)
noncomputable def cutsN : Nat → List (List Nat) → List Nat
  | _, [] => []
  | _, [_] => []
  | a, w :: w' :: ws => (a + w.length) :: cutsN (a + w.length + 3) (w' :: ws)
theorem cutsN_len : ∀ (ws : List (List Nat)) (a : Nat), 3 * (cutsN a ws).length ≤ (wantN ws).length
  | [], _ => Nat.zero_le _
  | [_], _ => Nat.zero_le _
  | w :: w' :: ws, a => by
    have := cutsN_len (w' :: ws) (a + w.length + 3)
    simp only [cutsN, wantN, List.length_cons, List.length_append, dotsN, List.length_nil]
    walk_at "l"
noncomputable def stepO (s sub : Str) (hi limit : Nat) (st : Array Nat × Nat) (i : Nat) : Array Nat × Nat :=
  if ((st.1.size < limit ∧ st.2 ≤ i) ∧ i + sub.length ≤ hi) ∧ Builtin.Str.subAt s sub i = true then (st.1.push i, i + sub.length) else st
theorem forIn_fold (s sub : Str) (hi limit : Nat) : ∀ (l : List Nat) (st : Array Nat × Nat), (forIn l st (occBody s sub hi limit)).run = l.foldl (stepO s sub hi limit) st
  | [], _ => rfl
  | a :: l, st => by
    rw [List.forIn_cons, List.foldl_cons, ← forIn_fold s sub hi limit l]
    unfold occBody stepO
    split <;> rfl
theorem fold_skip (s sub : Str) (hi limit : Nat) : ∀ (l : List Nat) (st : Array Nat × Nat), (∀ i, i ∈ l → ¬ (st.2 ≤ i ∧ At s sub hi i)) → l.foldl (stepO s sub hi limit) st = st
  | [], _, _ => rfl
  | a :: l, st, h => by
    rw [List.foldl_cons]
    have e : stepO s sub hi limit st a = st := if_neg fun q => h a List.mem_cons_self ⟨q.1.1.2, q.1.2, q.2⟩
    rw [e]
    exact fold_skip s sub hi limit l st fun i hi' => h i (List.mem_cons_of_mem _ hi')
theorem at_dot {G : List Nat} {hi i : Nat} (h : AtL G dotsN hi i) : G[i]? = some 46 := by
  have h2 := congrArg (fun l => l[0]?) h.2
  simp only [dotsN, List.length_cons, List.length_nil, List.getElem?_take, List.getElem?_drop] at h2
  simpa using h2
theorem run_words (G : List Nat) (limit : Nat) : ∀ (ws : List (List Nat)) (a : Nat) (found : Array Nat), ws ≠ [] → G.drop a = wantN ws → a ≤ G.length → (∀ w, w ∈ ws → 46 ∉ w) → found.size + (cutsN a ws).length ≤ limit →
    ((List.range' a (G.length + 1 - a)).foldl (stepO (pieceS G) (pieceS dotsN) G.length limit) (found, a)).1.toList = found.toList ++ cutsN a ws
  | [], _, _, hne, _, _, _, _ => absurd rfl hne
  | [w], a, found, _, hd, ha, hw, _ => by
    rw [fold_skip]
    · simp [cutsN]
    · rintro i hi ⟨_, hat⟩
      have h1 := at_dot ((at_iff _ _ _ _).mp hat)
      have hai : a ≤ i := (List.mem_range'_1.mp hi).1
      have h2 : (G.drop a)[i - a]? = some 46 := by rw [List.getElem?_drop, Nat.add_sub_cancel' hai]; exact h1
      rw [hd] at h2
      exact hw w List.mem_cons_self (List.mem_of_getElem? h2)
  | w :: w' :: ws, a, found, _, hd, ha, hw, hl => by
    have hlen := congrArg List.length hd
    simp only [wantN, List.length_drop, List.length_append, dotsN, List.length_cons, List.length_nil] at hlen
    generalize hc : a + w.length = c at *
    generalize (wantN (w' :: ws)).length = k at *
    have hG : G.length = c + (k + 3) := by rw [← Nat.add_sub_cancel' ha, hlen]; walk_at "l"
    have hd2 : G.drop c = dotsN ++ wantN (w' :: ws) := by rw [← hc, ← List.drop_drop, hd]; simp [wantN]
    have hd3 : G.drop (c + 3) = wantN (w' :: ws) := by rw [← List.drop_drop, hd2]; rfl
    have e1 : List.range' a (G.length + 1 - a) = List.range' a w.length ++ (c :: ([c + 1, c + 2] ++ List.range' (c + 3) (G.length + 1 - (c + 3)))) := by
      have h1 : List.range' a (w.length + (G.length + 1 - c)) = List.range' a w.length ++ List.range' c (G.length + 1 - c) := by rw [← hc]; simp [List.range'_append_1]
      have h2 : List.range' c (G.length + 1 - c) = c :: ([c + 1, c + 2] ++ List.range' (c + 3) (G.length + 1 - (c + 3))) := by
        rw [sub_is (show G.length + 1 = c + (k + 1 + 1 + 1 + 1) by walk_at "l"), sub_is (show G.length + 1 = c + 3 + (k + 1) by walk_at "l")]
        simp [List.range'_succ]
      rw [← h2, ← h1, sub_is (show G.length + 1 = c + (k + 1 + 1 + 1 + 1) by walk_at "l"), sub_is (show G.length + 1 = a + (w.length + (k + 1 + 1 + 1 + 1)) by walk_at "l")]
    rw [e1, List.foldl_append, fold_skip _ _ _ _ _ (found, a), List.foldl_cons]
    · simp only [cutsN, List.length_cons] at hl
      have hat : AtL G dotsN G.length c := ⟨by simp only [dotsN, List.length_cons, List.length_nil]; walk_at "l", by rw [hd2]; rfl⟩
      have hat' := (at_iff G dotsN G.length c).mpr hat
      have e2 : stepO (pieceS G) (pieceS dotsN) G.length limit (found, a) c = (found.push c, c + 3) := if_pos ⟨⟨⟨show found.size < limit by walk_at "l", show a ≤ c by walk_at "l"⟩, hat'.1⟩, hat'.2⟩
      rw [e2, List.foldl_append, fold_skip _ _ _ _ _ (found.push c, c + 3)]
      · rw [run_words G limit (w' :: ws) (c + 3) (found.push c) (by simp) hd3 (by walk_at "l") (fun x hx => hw x (List.mem_cons_of_mem _ hx)) (by rw [Array.size_push]; walk_at "l")]
        simp [cutsN, hc]
      · rintro i hi ⟨h1, _⟩
        simp only [List.mem_cons, List.not_mem_nil, or_false] at hi
        simp only at h1
        walk_at "l"
    · rintro i hi ⟨_, hat⟩
      have h1 := at_dot ((at_iff _ _ _ _).mp hat)
      have hr := List.mem_range'_1.mp hi
      have h2 : (G.drop a)[i - a]? = some 46 := by rw [List.getElem?_drop, Nat.add_sub_cancel' hr.1]; exact h1
      rw [hd, wantN, List.append_assoc, List.getElem?_append_left (Nat.sub_lt_left_of_lt_add hr.1 hr.2)] at h2
      exact hw w List.mem_cons_self (List.mem_of_getElem? h2)
theorem occ_words (ws : List (List Nat)) (hne : ws ≠ []) (hw : ∀ w, w ∈ ws → 46 ∉ w) : occurrences (pieceS (wantN ws)) dots 0 (pieceS (wantN ws)).length ((pieceS (wantN ws)).length + 1) = cutsN 0 ws := by
  rw [occ_eq, forIn_fold, dots_S, pieceS_len, run_words (wantN ws) _ ws 0 #[] hne (by simp) (Nat.zero_le _) hw (by
    have := cutsN_len ws 0
    simp only [List.size_toArray, List.length_nil]; walk_at "l")]
  simp
theorem parts_words (G : List Nat) : ∀ (ws : List (List Nat)) (a : Nat), ws ≠ [] → G.drop a = wantN ws → partsFrom (pieceS G) 3 a (cutsN a ws) = ws.map pieceS
  | [], _, hne, _ => absurd rfl hne
  | [w], a, _, hd => by
    simp only [cutsN, partsFrom, List.map_cons, List.map_nil]
    rw [show Builtin.Str.strSub (pieceS G) a (pieceS G).length = pieceS ((G.drop a).take ((pieceS G).length - a)) by simp [Builtin.Str.strSub, pieceS, List.extract_eq_drop_take], List.take_of_length_le (by rw [pieceS_len]; simp), hd]
    rfl
  | w :: w' :: ws, a, _, hd => by
    have hd3 : G.drop (a + w.length + 3) = wantN (w' :: ws) := by
      rw [← List.drop_drop, ← List.drop_drop, hd, wantN, List.append_assoc, List.drop_left]; rfl
    simp only [cutsN, partsFrom, List.map_cons]
    rw [parts_words G (w' :: ws) (a + w.length + 3) (by simp) hd3, List.map_cons]
    congr 1
    rw [show Builtin.Str.strSub (pieceS G) a (a + w.length) = pieceS ((G.drop a).take w.length) by simp [Builtin.Str.strSub, pieceS, List.extract_eq_drop_take], hd, wantN, List.append_assoc, List.take_left]
theorem kind_pos (x : Str) : 1 ≤ Builtin.Str.strKind x := by
  unfold Builtin.Str.strKind
  split
  · exact Nat.le_refl _
  · split <;> decide
theorem dots_kind : Builtin.Str.strKind dots = 1 := by decide +kernel
theorem split_words (ws : List (List Nat)) (h2 : 2 ≤ ws.length) (hw : ∀ w, w ∈ ws → 46 ∉ w) : Txt.split (pieceS (wantN ws)) dots = ws.map pieceS := by
  obtain ⟨w, w', r, rfl⟩ : ∃ w w' r, ws = w :: w' :: r := by
    match ws, h2 with
    | w :: w' :: r, _ => exact ⟨w, w', r, rfl⟩
  unfold Txt.split
  have hk := kind_pos (pieceS (wantN (w :: w' :: r)))
  have hl : 3 ≤ (wantN (w :: w' :: r)).length := by simp only [wantN, List.length_append, dotsN, List.length_cons, List.length_nil]; walk_at "l"
  rw [if_neg (by
    rw [dots_kind, pieceS_len, dots_S, pieceS_len]
    simp only [Bool.or_eq_true, decide_eq_true_eq, dotsN, List.length_cons, List.length_nil]; walk_at "l"), occ_words _ (by simp) hw, if_neg (by simp [cutsN]), partsBetween_eq, show dots.length = 3 from by decide +kernel, parts_words _ _ 0 (by simp) (by simp)]
theorem found_words (ws : List (List Nat)) (h2 : 2 ≤ ws.length) : (!(!(occurrences (pieceS (wantN ws)) dots 0 (pieceS (wantN ws)).length 1).isEmpty)) = false := by
  obtain ⟨w, w', r, rfl⟩ : ∃ w w' r, ws = w :: w' :: r := by
    match ws, h2 with
    | w :: w' :: r, _ => exact ⟨w, w', r, rfl⟩
  rw [Bool.not_eq_false', found_iff]
  rw [dots_S, pieceS_len, pieceS_len]
  have ha : AtL (wantN (w :: w' :: r)) dotsN (wantN (w :: w' :: r)).length w.length := by
    refine ⟨by simp only [wantN, List.length_append]; walk_at "l", ?_⟩
    rw [wantN, List.append_assoc, List.drop_left]; rfl
  have := (at_iff _ _ _ _).mpr ha
  exact ⟨w.length, by have := this.1; rw [pieceS_len] at this; exact this, this.2⟩
theorem ell_dots (w0 wl g : List Nat) (ws : List (List Nat)) (hw : ∀ w, w ∈ w0 :: (ws ++ [wl]) → 46 ∉ w) : ell (pieceS (wantN (w0 :: (ws ++ [wl])))) (pieceS g) = true ↔ ∃ r, g = w0 ++ r ++ wl ∧ Occ ws r := by
  have h2 : 2 ≤ (w0 :: (ws ++ [wl])).length := by simp
  unfold ell
  rw [found_words _ h2, split_words _ h2 hw]
  exact top_iff g w0 wl ws
theorem ell_plain (a g : List Nat) (h : 46 ∉ a) : ell (pieceS a) (pieceS g) = decide (a = g) := by
  unfold ell
  have hf : (!(occurrences (pieceS a) dots 0 (pieceS a).length 1).isEmpty) = false := by
    cases e : (!(occurrences (pieceS a) dots 0 (pieceS a).length 1).isEmpty) with
    | false => rfl
    | true =>
      obtain ⟨i, h1, h3⟩ := (found_iff _ _).mp e
      rw [dots_S] at h1 h3
      rw [pieceS_len] at h1
      have hat : At (pieceS a) (pieceS dotsN) a.length i := ⟨h1, h3⟩
      exact absurd (List.mem_of_getElem? (at_dot ((at_iff _ _ _ _).mp hat))) h
  rw [hf, if_pos (by decide)]
  rw [Bool.eq_iff_iff, beq_iff_eq, decide_eq_true_iff]
  exact ⟨pieceS_inj, fun q => by rw [q]⟩
theorem partsFrom_len (x : Str) (w : Nat) : ∀ (cuts : List Nat) (a : Nat), (partsFrom x w a cuts).length = cuts.length + 1
  | [], _ => rfl
  | c :: r, a => by simp [partsFrom, partsFrom_len x w r]
theorem strSub_len (x : Str) (a b : Nat) : (Builtin.Str.strSub x a b).length ≤ x.length := by
  unfold Builtin.Str.strSub Str.length
  simp; walk_at "l"
theorem partsFrom_mem (x : Str) (w : Nat) : ∀ (cuts : List Nat) (a : Nat) z, z ∈ partsFrom x w a cuts → z.length ≤ x.length
  | [], a, z, h => by rw [List.mem_singleton.mp h]; exact strSub_len _ _ _
  | c :: r, a, z, h => by
    rcases List.mem_cons.mp h with rfl | h
    · exact strSub_len _ _ _
    · exact partsFrom_mem x w r _ z h
theorem ell_ok {want got : Str} (h1 : want.length ≤ 1000) (h2 : got.length ≤ 1000) : EllOk want got := by
  have e : lid = 1048576 := rfl
  have ho := occ_length_le want dots 0 want.length (want.length + 1)
  have hs : ∀ z, z ∈ Txt.split want dots → z.length ≤ want.length := fun z hz => by
    unfold Txt.split at hz
    split at hz
    · rw [List.mem_singleton.mp hz]; exact Nat.le_refl _
    · split at hz
      · rw [List.mem_singleton.mp hz]; exact Nat.le_refl _
      · rw [partsBetween_eq] at hz; exact partsFrom_mem _ _ _ _ z hz
  refine ⟨by walk_at "l", by walk_at "l", ?_, ?_, fun q => ?_, fun z hz => by have := hs z hz; walk_at "l"⟩
  · rw [partsBetween_eq, partsFrom_len]; walk_at "l"
  · unfold Txt.split
    split
    · simp; walk_at "l"
    · split
      · simp; walk_at "l"
      · rw [partsBetween_eq, partsFrom_len]; walk_at "l"
  · rw [Bool.not_eq_false', found_iff] at q
    obtain ⟨i, h3, h4⟩ := q
    have hd : dots.length = 3 := by decide +kernel
    have hk := kind_pos want
    unfold Txt.split
    rw [if_neg (by rw [dots_kind]; simp only [Bool.or_eq_true, decide_eq_true_eq]; walk_at "l")]
    rcases occ_head want dots (want.length + 1) (by walk_at "l") with ⟨_, hn⟩ | ⟨j, r, hj, _⟩
    · exact absurd ⟨h3, h4⟩ (hn i)
    · rw [hj, if_neg (by simp), partsBetween_eq, partsFrom_len]; simp
end
noncomputable def pairS (a b : Nat) : Str := ⟨#[a, b]⟩
theorem pairS_len (a b : Nat) : (pairS a b).length = 2 := rfl
theorem one_len (a : Nat) : (one a).length = 1 := rfl
noncomputable def allL : List Nat := [104, 112, 114, 115, 116, 109, 119, 98, 113]
noncomputable def lsOf (h i : Nat) : List Nat := (allL.drop i).take (1 + h)
noncomputable def IsWord (h : Nat) (ls : List Nat) : Prop := h < 4 ∧ ∃ i, i < 9 - h ∧ ls = lsOf h i
theorem word_all {P : Nat → List Nat → Bool} (h1 : ∀ h, h < 4 → ∀ i, i < 9 - h → P h (lsOf h i) = true) {h : Nat} {ls : List Nat} (w : IsWord h ls) : P h ls = true := by
  obtain ⟨hh, i, hi, rfl⟩ := w
  exact h1 h hh i hi
noncomputable def b1S (i : Int) : Bool := unsL.any fun n => decide ((n : Int) = i)
noncomputable def litKeys : List (Option Expr) → List Int
  | some (.Constant (.int i) _ _) :: r => i :: litKeys r
  | _ => []
noncomputable def litVals : List Expr → List Str
  | .Constant (.str x) _ _ :: r => x :: litVals r
  | _ => []
noncomputable def asDict : Expr → Option (List (Option Expr) × List Expr × Pos)
  | .Dict ks vs p => some (ks, vs, p)
  | _ => none
noncomputable def b3T : List (Int × Str) := (((asAsg PP.main.body[14]?).bind fun x => asDict x.2.1).map fun d => (litKeys d.1).zip (litVals d.2.1)).getD []
noncomputable def signB (c : Nat) (x : Str) : Bool := (b1S c == false) && (inU c == false) && (tooLong (Txt.lower (one c)).length == false) && decide (b3of b3T c = x)
theorem uns_sign : ∀ c, c ∈ unsL → b1S c = true ∧ inU c = true ∧ tooLong (Txt.lower (one c)).length = false := by decide +kernel
theorem single_sign : ∀ l, l ∈ allL → ∀ r, r ∈ rowsL → signB (r + l - 97) (one l) = true := by decide +kernel
theorem pair_sign : ∀ i, i < 8 → ∀ c, c ∈ pairOf (allL.getD i 0) → signB c (pairS (allL.getD i 0) (allL.getD (i + 1) 0)) = true := by decide +kernel
theorem pair_more : ∀ i, i < 8 → pairOf (allL.getD i 0) ≠ [] := by decide +kernel
noncomputable def Sign (c : Nat) (x : Str) : Prop := signB c x = true
theorem Sign.all {c : Nat} {x : Str} (h : Sign c x) : b1S c = false ∧ inU c = false ∧ tooLong (Txt.lower (one c)).length = false ∧ b3of b3T c = x := by
  unfold Sign signB at h
  simp only [Bool.and_eq_true, beq_iff_eq, decide_eq_true_eq] at h
  exact ⟨h.1.1.1, h.1.1.2, h.1.2, h.2⟩
theorem uns_get (i : Nat) : unsL.getD (i % 27) 0 ∈ unsL := by
  have h : i % 27 < unsL.length := Nat.mod_lt _ (by decide)
  rw [List.getD_eq_getElem?_getD, List.getElem?_eq_getElem h]
  exact List.getElem_mem h
noncomputable abbrev It := Nat × Nat
noncomputable def fsD (h d0 d1 : Nat) : List Nat := (List.range (1 + h)).map fun p => 2 + ([d0, d1].take (4 - h)).count p
noncomputable def IsFs (h : Nat) (fs : List Nat) : Prop := ∃ d0 d1, d0 < 5 ∧ d1 < 5 ∧ fs = fsD h d0 d1
noncomputable def fsT : List (Nat × List Nat) := [(0, [2]), (0, [3]), (0, [4]), (1, [2, 2]), (1, [2, 3]), (1, [2, 4]), (1, [3, 2]), (1, [3, 3]), (1, [4, 2]), (2, [2, 2, 2]), (2, [2, 2, 3]), (2, [2, 2, 4]), (2, [2, 3, 2]), (2, [2, 3, 3]), (2, [2, 4, 2]), (2, [3, 2, 2]), (2, [3, 2, 3]), (2, [3, 3, 2]), (2, [4, 2, 2]), (3, [2, 2, 2, 2]), (3, [2, 2, 2, 3]), (3, [2, 2, 3, 2]), (3, [2, 3, 2, 2]), (3, [3, 2, 2, 2])]
theorem fs_tab : ∀ h, h < 4 → ∀ d0, d0 < 5 → ∀ d1, d1 < 5 → fsT.contains (h, fsD h d0 d1) = true := by decide +kernel
theorem fs_all {P : Nat → List Nat → Bool} (h1 : fsT.all (fun x => P x.1 x.2) = true) {h : Nat} {fs : List Nat} (hh : h < 4) (w : IsFs h fs) : P h fs = true := by
  obtain ⟨d0, d1, h0, h2, rfl⟩ := w
  exact List.all_eq_true.mp h1 _ (List.contains_iff_mem.mp (fs_tab h hh d0 h0 d1 h2))
noncomputable def isD (fs : List Nat) (x : It) : Bool := x.2 == fs.getD x.1 0
noncomputable def lenI (fs : List Nat) (x : It) : Nat := if isD fs x then 2 else 1
noncomputable def stockI (fs : List Nat) : List It := (List.range fs.length).flatMap (fun p => (List.range (fs.getD p 0)).map fun q => (p, q)) ++ (List.range (fs.length - 1)).map fun p => (p, fs.getD p 0)
noncomputable def rowsN (fs : List Nat) : Nat → List (List It)
  | 0 => [[]]
  | 1 => (List.range (fs.getD (fs.length - 1) 0)).map fun q => [(fs.length - 1, q)]
  | n + 2 => (List.range (fs.getD (fs.length - (n + 2)) 0)).flatMap (fun q => (rowsN fs (n + 1)).map fun r => (fs.length - (n + 2), q) :: r) ++ (rowsN fs n).map fun r => (fs.length - (n + 2), fs.getD (fs.length - (n + 2)) 0) :: r
noncomputable def rowsAt (fs : List Nat) (p : Nat) : List (List It) := rowsN fs (fs.length - p)
noncomputable def foldI (ls fs : List Nat) (x : It) : Str := if isD fs x then pairS (ls.getD x.1 0) (ls.getD (x.1 + 1) 0) else one (ls.getD x.1 0)
noncomputable def kndL (ls : List Nat) : List Str := ls.map one ++ (List.range (ls.length - 1)).map fun p => pairS (ls.getD p 0) (ls.getD (p + 1) 0)
noncomputable def fitL (ls : List Nat) (p : Nat) : List Str := one (ls.getD p 0) :: (if p + 1 < ls.length then [pairS (ls.getD p 0) (ls.getD (p + 1) 0)] else [])
noncomputable def endL (ls : List Nat) (p : Nat) : List Str := one (ls.getD (p - 1) 0) :: (if 2 ≤ p then [pairS (ls.getD (p - 2) 0) (ls.getD (p - 1) 0)] else [])
noncomputable def wordB (h : Nat) (ls : List Nat) : Bool :=
  decide (ls.length = 1 + h) && decide ((kndL ls).Nodup) && (ls.all fun l => decide (97 ≤ l ∧ l ≤ 122) && allL.contains l) &&
    (List.range ls.length).all fun p => (List.range 9).any fun i => decide (allL.getD i 0 = ls.getD p 0) && ((!decide (p + 1 < ls.length)) || (decide (i < 8) && decide (ls.getD (p + 1) 0 = allL.getD (i + 1) 0)))
noncomputable def wordB2 (_ : Nat) (ls : List Nat) : Bool := (List.range ls.length).all fun p => decide ((kndL ls).filter (fun f => ell (f ++ dots) (Txt.slice (wordS ls) (some (p : Int)) none)) = fitL ls p)
noncomputable def wordB3 (_ : Nat) (ls : List Nat) : Bool := (List.range ls.length).all fun p => decide ((kndL ls).filter (fun f => (endL ls (p + 1)).contains f) = (kndL ls).filter (fun f => ell (dots ++ f) (Txt.slice (wordS ls) none (some ((p + 1 : Nat) : Int)))))
noncomputable def wordB4 (_ : Nat) (ls : List Nat) : Bool := (List.range ls.length).all fun p =>
  ((List.range ls.length).all fun p' => ((fitL ls p).contains (one (ls.getD p' 0)) == decide (p' = p)) && ((endL ls (p + 1)).contains (one (ls.getD p' 0)) == decide (p' + 1 = p + 1))) &&
    (List.range (ls.length - 1)).all fun p' => ((fitL ls p).contains (pairS (ls.getD p' 0) (ls.getD (p' + 1) 0)) == decide (p' = p)) && ((endL ls (p + 1)).contains (pairS (ls.getD p' 0) (ls.getD (p' + 1) 0)) == decide (p' + 2 = p + 1))
theorem word_b {h : Nat} {ls : List Nat} (w : IsWord h ls) : wordB h ls = true := word_all (by decide +kernel) w
theorem word_b2 {h : Nat} {ls : List Nat} (w : IsWord h ls) : wordB2 h ls = true := word_all (by decide +kernel) w
theorem word_b3 {h : Nat} {ls : List Nat} (w : IsWord h ls) : wordB3 h ls = true := word_all (by decide +kernel) w
theorem word_b4 {h : Nat} {ls : List Nat} (w : IsWord h ls) : wordB4 h ls = true := word_all (by decide +kernel) w
structure LsOk (h : Nat) (ls : List Nat) : Prop where
  len : ls.length = 1 + h
  nd : (kndL ls).Nodup
  az : ∀ l, l ∈ ls → 97 ≤ l ∧ l ≤ 122 ∧ l ∈ allL
  next : ∀ p, p < ls.length → ∃ i, allL.getD i 0 = ls.getD p 0 ∧ (p + 1 < ls.length → i < 8 ∧ ls.getD (p + 1) 0 = allL.getD (i + 1) 0)
theorem ls_ok {h : Nat} {ls : List Nat} (w : IsWord h ls) : LsOk h ls := by
  have b := word_b w
  unfold wordB at b
  simp only [Bool.and_eq_true, decide_eq_true_eq, List.all_eq_true, List.any_eq_true, List.contains_iff_mem, Bool.or_eq_true, Bool.not_eq_true', decide_eq_false_iff_not] at b
  obtain ⟨⟨⟨h1, h2⟩, h3⟩, h4⟩ := b
  refine ⟨h1, h2, fun l hl => ⟨(h3 l hl).1.1, (h3 l hl).1.2, (h3 l hl).2⟩, fun p hp => ?_⟩
  obtain ⟨i, _, h5, h6⟩ := h4 p (List.mem_range.mpr hp)
  exact ⟨i, h5, fun q => h6.resolve_left fun n => n q⟩
theorem word_cut : ∀ h : Nat, h < 4 → ∀ i : Nat, i < 9 - h → Txt.slice (Txt.slice ("hprstmwbq" : Str) (some (i : Int)) none) none (some ((1 + h : Nat) : Int)) = wordS (lsOf h i) := by decide +kernel
noncomputable def pfxN (turn : Nat) : List Nat := if turn % 2 = 1 then [unsL.getD (turn / 2 % 27) 0] else []
noncomputable def sgI (ls fs : List Nat) (c3 c5 : Nat) (x : It) : Nat := if isD fs x then (pairOf (ls.getD x.1 0)).getD (c5 % (pairOf (ls.getD x.1 0)).length) 0 else codeOf c3 x.1 x.2 (ls.getD x.1 0)
noncomputable def pcI (ls fs : List Nat) (c3 c4 c5 : Nat) (x : It) : List Nat := (if isD fs x then pfxN (c5 / 2 + x.1) else pfxN (c4 / 3 ^ x.1 + x.2)) ++ [sgI ls fs c3 c5 x]
theorem pfx_S (turn : Nat) : pfx turn = pieceS (pfxN turn) := by unfold pfx pfxN; split <;> rfl
theorem one_S (c : Nat) : one c = pieceS [c] := rfl
theorem mem_stock {fs : List Nat} {x : It} : x ∈ stockI fs ↔ x.1 < fs.length ∧ (x.2 < fs.getD x.1 0 ∨ (x.2 = fs.getD x.1 0 ∧ x.1 + 1 < fs.length)) := by
  unfold stockI
  rw [List.mem_append, List.mem_flatMap, List.mem_map]
  constructor
  · rintro (⟨p, hp, h⟩ | ⟨p, hp, rfl⟩)
    · obtain ⟨q, hq, rfl⟩ := List.mem_map.mp h
      exact ⟨List.mem_range.mp hp, .inl (List.mem_range.mp hq)⟩
    · have := List.mem_range.mp hp
      have h2 : p + 1 < fs.length := Nat.add_lt_of_lt_sub this
      exact ⟨Nat.lt_of_succ_lt h2, .inr ⟨rfl, h2⟩⟩
  · rintro ⟨h1, h2 | ⟨h2, h3⟩⟩
    · exact .inl ⟨x.1, List.mem_range.mpr h1, List.mem_map.mpr ⟨x.2, List.mem_range.mpr h2, rfl⟩⟩
    · exact .inr ⟨x.1, List.mem_range.mpr (Nat.lt_sub_of_add_lt h3), by rw [← h2]⟩
theorem isD_f {fs : List Nat} {x : It} (h : isD fs x = false) : x.2 ≠ fs.getD x.1 0 := by
  unfold isD at h; simpa using h
theorem isD_t {fs : List Nat} {x : It} (h : isD fs x = true) : x.2 = fs.getD x.1 0 := by
  unfold isD at h; simpa using h
theorem isD_next {fs : List Nat} {x : It} (hx : x ∈ stockI fs) (e : isD fs x = true) : x.1 + 1 < fs.length := ((mem_stock.mp hx).2.resolve_left (by rw [isD_t e]; exact Nat.lt_irrefl _)).2
theorem isD_lt {fs : List Nat} {p q : Nat} (h : q < fs.getD p 0) : isD fs (p, q) = false := by
  unfold isD; simp only [beq_eq_false_iff_ne]; walk_at "l"
theorem isD_at {fs : List Nat} {p : Nat} : isD fs (p, fs.getD p 0) = true := by
  unfold isD; simp
theorem getD_some {α : Type} {xs : List α} {i : Nat} {x d : α} (h : xs[i]? = some x) : xs.getD i d = x := by
  rw [List.getD_eq_getElem?_getD, h]; rfl
theorem get_getD {α : Type} {xs : List α} {i : Nat} (d : α) (h : i < xs.length) : xs[i]? = some (xs.getD i d) := by
  rw [List.getD_eq_getElem?_getD, List.getElem?_eq_getElem h]; rfl
theorem getD_mem {xs : List Nat} {i : Nat} (h : i < xs.length) : xs.getD i 0 ∈ xs := List.mem_of_getElem? (get_getD 0 h)
theorem flatMap_congr' {α β : Type} {f g : α → List β} : ∀ {xs : List α}, (∀ x, x ∈ xs → f x = g x) → xs.flatMap f = xs.flatMap g
  | [], _ => rfl
  | x :: xs, h => by rw [List.flatMap_cons, List.flatMap_cons, h x List.mem_cons_self, flatMap_congr' fun y hy => h y (List.mem_cons_of_mem _ hy)]
theorem zip_range {α : Type} (xs : List α) (d : α) : xs.zipIdx = (List.range xs.length).map fun p => (xs.getD p d, p) := by
  refine List.ext_getElem? fun i => ?_
  rw [List.getElem?_zipIdx, List.getElem?_map]
  by_cases h : i < xs.length
  · rw [List.getElem?_range h, List.getElem?_eq_getElem h]
    simp [List.getD_eq_getElem?_getD, List.getElem?_eq_getElem h]
  · rw [List.getElem?_eq_none (by walk_at "l"), List.getElem?_eq_none (by simp; walk_at "l")]; rfl
theorem sgl_S {ls fs : List Nat} (hl : fs.length = ls.length) (c3 c4 c5 : Nat) : sglL ls fs c3 c4 = (List.range fs.length).map fun p => (List.range (fs.getD p 0)).map fun q => pieceS (pcI ls fs c3 c4 c5 (p, q)) := by
  unfold sglL
  rw [zip_range ls 0, List.map_map, hl]
  refine List.map_congr_left fun p _ => ?_
  simp only [Function.comp, sglRow]
  refine List.map_congr_left fun q hq => ?_
  have h := isD_lt (List.mem_range.mp hq)
  unfold sglAt pcI sgI
  rw [h, if_neg (by decide), if_neg (by decide), pfx_S, one_S, pieceS_cat]
theorem flatMap_if_range {α : Type} (g : Nat → α) : ∀ n : Nat, ((List.range n).flatMap fun p => if p + 1 < n then [g p] else []) = (List.range (n - 1)).map g
  | 0 => rfl
  | n + 1 => by
    rw [List.range_succ, List.flatMap_append]
    have e : ((List.range n).flatMap fun p => if p + 1 < n + 1 then [g p] else []) = (List.range n).map g := by
      rw [← flatMap_single]
      refine flatMap_congr' fun p hp => ?_
      rw [if_pos (by have := List.mem_range.mp hp; walk_at "l")]
    rw [e]
    simp
theorem dbl_S {ls fs : List Nat} (hl : fs.length = ls.length) (c3 c4 c5 : Nat) : dblL ls c5 = (List.range (fs.length - 1)).map fun p => pieceS (pcI ls fs c3 c4 c5 (p, fs.getD p 0)) := by
  unfold dblL
  rw [zip_range ls 0, List.flatMap_map]
  simp only [dblRow]
  rw [flatMap_if_range (fun p => dblAt c5 (ls.getD p 0) p), hl]
  refine List.map_congr_left fun p _ => ?_
  have h : isD fs (p, fs.getD p 0) = true := isD_at
  unfold dblAt pcI sgI
  rw [h, if_pos rfl, if_pos rfl, pfx_S, one_S, pieceS_cat]
theorem pfx_mem {turn c : Nat} (h : c ∈ pfxN turn) : c ∈ unsL := by
  unfold pfxN at h
  split at h
  · rw [List.mem_singleton.mp h]; exact uns_get _
  · cases h
theorem pfx_len (turn : Nat) : (pfxN turn).length ≤ 1 := by unfold pfxN; split <;> simp
theorem code_sign {l : Nat} (hl : l ∈ allL) (c3 p j : Nat) : Sign (codeOf c3 p j l) (one l) := by
  unfold Sign codeOf
  refine single_sign l hl _ ?_
  have h : (c3 + 5 * p + j) % 12 < rowsL.length := Nat.mod_lt _ (by decide)
  rw [List.getD_eq_getElem?_getD, List.getElem?_eq_getElem h]
  exact List.getElem_mem h
theorem pair_code {h : Nat} {ls : List Nat} (ok : LsOk h ls) {p : Nat} (hp : p + 1 < ls.length) (c : Nat) : pairOf (ls.getD p 0) ≠ [] ∧ Sign ((pairOf (ls.getD p 0)).getD (c % (pairOf (ls.getD p 0)).length) 0) (pairS (ls.getD p 0) (ls.getD (p + 1) 0)) := by
  obtain ⟨i, h1, h2⟩ := ok.next p (by walk_at "l")
  obtain ⟨h3, h4⟩ := h2 hp
  have hne := pair_more i h3
  rw [h1] at hne
  refine ⟨hne, ?_⟩
  have hm := Nat.mod_lt c (List.length_pos_iff.mpr hne)
  have := pair_sign i h3 ((pairOf (ls.getD p 0)).getD (c % (pairOf (ls.getD p 0)).length) 0) (by
    rw [h1]; exact getD_mem hm)
  rw [h1, ← h4] at this
  exact this
theorem st_ok {h : Nat} {ls : List Nat} (ok : LsOk h ls) (hh : h < 4) {fs : List Nat} (hl : fs.length = ls.length) (hf : ∀ f, f ∈ fs → f ≤ 4) : StOk ls fs :=
  ⟨hl, by have := ok.len; walk_at "l", hf, fun l q => ⟨(ok.az l q).1, (ok.az l q).2.1⟩, fun p l q r => by have := (pair_code ok (p := p) (by walk_at "l") 0).1; rwa [getD_some q] at this⟩
section
variable {h : Nat} {ls fs : List Nat} (ok : LsOk h ls) (hl : fs.length = ls.length) (c3 c4 c5 : Nat)
include ok hl
theorem sg_sign {x : It} (hx : x ∈ stockI fs) : Sign (sgI ls fs c3 c5 x) (foldI ls fs x) := by
  obtain ⟨h1, h2⟩ := mem_stock.mp hx
  unfold sgI foldI
  cases e : isD fs x with
  | false =>
    simp only [Bool.false_eq_true, if_false]
    refine code_sign (ok.az _ ?_).2.2 _ _ _
    exact List.mem_of_getElem? (get_getD 0 (by walk_at "l"))
  | true =>
    simp only [if_true]
    exact (pair_code ok (hl ▸ isD_next hx e) c5).2
theorem pc_parts {x : It} (hx : x ∈ stockI fs) : foldParts b3T (pcI ls fs c3 c4 c5 x) = [foldI ls fs x] := by
  obtain ⟨_, h2, _, h4⟩ := (sg_sign ok hl c3 c5 hx).all
  unfold foldParts pcI
  have hu : ∀ u : List Nat, (∀ c, c ∈ u → c ∈ unsL) → u.filter (fun c => !inU c) = [] := fun u h => List.filter_eq_nil_iff.mpr fun c hc => by rw [(uns_sign c (h c hc)).2.1]; decide
  rw [List.filter_append, hu _ (by split <;> exact fun c hc => pfx_mem hc), List.nil_append, List.filter_cons_of_pos (by rw [h2]; rfl)]
  simp [h4]
omit ok hl in
theorem fold_len (x : It) : (foldI ls fs x).length = lenI fs x := by unfold foldI lenI; split <;> rfl
theorem pc_fold {x : It} (hx : x ∈ stockI fs) : foldOf b3T (pcI ls fs c3 c4 c5 x) = foldI ls fs x := by
  unfold foldOf
  rw [pc_parts ok hl c3 c4 c5 hx]; rfl
theorem pc_foOk {x : It} (hx : x ∈ stockI fs) : FoOk b1S b3T (pcI ls fs c3 c4 c5 x) := by
  obtain ⟨h1, h2, h3, _⟩ := (sg_sign ok hl c3 c5 hx).all
  have key : ∀ c, c ∈ pcI ls fs c3 c4 c5 x → (c ∈ unsL ∨ c = sgI ls fs c3 c5 x) := by
    intro c hc
    unfold pcI at hc
    rcases List.mem_append.mp hc with hc | hc
    · left; split at hc <;> exact pfx_mem hc
    · exact .inr (List.mem_singleton.mp hc)
  have hlen : (pcI ls fs c3 c4 c5 x).length ≤ 2 := by
    unfold pcI
    rw [List.length_append]
    split <;> (have := pfx_len (c5 / 2 + x.1); have := pfx_len (c4 / 3 ^ x.1 + x.2); simp; walk_at "l")
  refine ⟨fun c hc => ?_, fun c hc => ?_, by walk_at "l", ?_⟩
  · rcases key c hc with q | rfl
    · rw [(uns_sign c q).1, (uns_sign c q).2.1]
    · rw [h1, h2]
  · rcases key c hc with q | rfl
    · exact (uns_sign c q).2.2
    · exact h3
  · rw [pc_parts ok hl c3 c4 c5 hx]
    have := fold_len (ls := ls) (fs := fs) x
    have h2 : lenI fs x ≤ 2 := by unfold lenI; split <;> decide
    unfold JoinOk tooLong
    simp
    rw [sizeLine_eq]
    have : (Str.ofString "").length = 0 := by decide +kernel
    walk_at "l"
end
structure PcOk (fs : List Nat) (pc : It → List Nat) (sg : It → Nat) : Prop where
  shape : ∀ x, x ∈ stockI fs → ∃ u, pc x = u ++ [sg x] ∧ u.length ≤ 1 ∧ ∀ c, c ∈ u → c ∈ unsL
  sgn : ∀ x, x ∈ stockI fs → sg x ∉ unsL ∧ sg x ≠ 46
  inj : ∀ x y, x ∈ stockI fs → y ∈ stockI fs → sg x = sg y → x = y
theorem rows_inj : ∀ i, i < 12 → ∀ j, j < 12 → rowsL.getD i 0 = rowsL.getD j 0 → i = j := by decide +kernel
theorem sign_big : ∀ i, i < 9 → ∀ c, c ∈ pairOf (allL.getD i 0) → 65 ≤ c := by decide +kernel
theorem b1S_mem {c : Nat} (h : b1S c = false) : c ∉ unsL := fun hc => by
  unfold b1S at h
  rw [List.any_eq_false] at h
  exact h c hc (by simp)
theorem knd_at {h : Nat} {ls : List Nat} (ok : LsOk h ls) {fs : List Nat} (hl : fs.length = ls.length) {x : It} (hx : x ∈ stockI fs) : (kndL ls)[if isD fs x then ls.length + x.1 else x.1]? = some (foldI ls fs x) := by
  obtain ⟨h1, h2⟩ := mem_stock.mp hx
  unfold kndL foldI
  cases e : isD fs x with
  | false =>
    simp only [Bool.false_eq_true, if_false]
    rw [List.getElem?_append_left (by simp; walk_at "l"), List.getElem?_map, get_getD 0 (by walk_at "l")]; rfl
  | true =>
    simp only [if_true]
    rw [List.getElem?_append_right (by simp), List.length_map, Nat.add_sub_cancel_left, List.getElem?_map, List.getElem?_range (Nat.lt_sub_of_add_lt (hl ▸ isD_next hx e))]; rfl
theorem pc_ok {h : Nat} {ls : List Nat} (ok : LsOk h ls) {fs : List Nat} (hl : fs.length = ls.length) (hf : ∀ f, f ∈ fs → f ≤ 4) (c3 c4 c5 : Nat) : PcOk fs (pcI ls fs c3 c4 c5) (sgI ls fs c3 c5) := by
  refine ⟨fun x hx => ⟨if isD fs x then pfxN (c5 / 2 + x.1) else pfxN (c4 / 3 ^ x.1 + x.2), rfl, ?_, ?_⟩, fun x hx => ⟨b1S_mem (sg_sign ok hl c3 c5 hx).all.1, ?_⟩, fun x y hx hy e => ?_⟩
  · split <;> exact pfx_len _
  · split <;> exact fun c hc => pfx_mem hc
  · obtain ⟨h1, h2⟩ := mem_stock.mp hx
    unfold sgI
    cases e : isD fs x with
    | false =>
      simp only [Bool.false_eq_true, if_false]
      have haz := ok.az _ (List.mem_of_getElem? (get_getD 0 (show x.1 < ls.length by walk_at "l")))
      obtain ⟨r, _, h4, _, h6⟩ := rows_lt ((c3 + 5 * x.1 + x.2) % 12) (Nat.mod_lt _ (by decide))
      unfold codeOf
      rw [h4]; walk_at "l"
    | true =>
      simp only [if_true]
      have hn : x.1 + 1 < ls.length := hl ▸ isD_next hx e
      obtain ⟨i, h3, h4⟩ := ok.next x.1 (by walk_at "l")
      have hne := (pair_code ok (p := x.1) hn 0).1
      have hm := Nat.mod_lt c5 (List.length_pos_iff.mpr hne)
      have h5 := sign_big i (by have := (h4 (by walk_at "l")).1; walk_at "l") ((pairOf (ls.getD x.1 0)).getD (c5 % (pairOf (ls.getD x.1 0)).length) 0) (by
        rw [h3]; exact getD_mem hm)
      walk_at "l"
  · have e1 := (sg_sign ok hl c3 c5 hx).all.2.2.2
    have e2 := (sg_sign ok hl c3 c5 hy).all.2.2.2
    rw [e, e2] at e1
    have k1 := knd_at ok hl hx
    have k2 := knd_at ok hl hy
    rw [← e1] at k1
    obtain ⟨h1, h2⟩ := mem_stock.mp hx
    obtain ⟨h3, h4⟩ := mem_stock.mp hy
    have hij : (if isD fs x then ls.length + x.1 else x.1) = (if isD fs y then ls.length + y.1 else y.1) := by
      refine (List.getElem?_inj ?_ ok.nd).mp (k1.trans k2.symm)
      exact (List.getElem?_eq_some_iff.mp k1).1
    obtain ⟨p, q⟩ := x
    obtain ⟨p', q'⟩ := y
    simp only at h1 h2 h3 h4 hij
    cases ex : isD fs (p, q) <;> cases ey : isD fs (p', q') <;> simp only [ex, ey, if_true, Bool.false_eq_true, if_false] at hij
    · subst hij
      unfold sgI at e
      simp only [ex, ey, Bool.false_eq_true, if_false] at e
      have haz := ok.az _ (List.mem_of_getElem? (get_getD 0 (show p < ls.length by walk_at "l")))
      have hq := isD_f ex
      have hq' := isD_f ey
      simp only at hq hq'
      have hfp : fs.getD p 0 ≤ 4 := hf _ (List.mem_of_getElem? (get_getD 0 h1))
      obtain ⟨r, _, h5, _, h6⟩ := rows_lt ((c3 + 5 * p + q) % 12) (Nat.mod_lt _ (by decide))
      obtain ⟨r', _, h7, _, h8⟩ := rows_lt ((c3 + 5 * p + q') % 12) (Nat.mod_lt _ (by decide))
      have hr : rowsL.getD ((c3 + 5 * p + q) % 12) 0 = rowsL.getD ((c3 + 5 * p + q') % 12) 0 := by
        unfold codeOf at e
        rw [h5, h7] at e ⊢
        rw [Nat.add_sub_assoc haz.1, Nat.add_sub_assoc haz.1] at e
        exact Nat.add_right_cancel e
      have := rows_inj _ (Nat.mod_lt _ (by decide)) _ (Nat.mod_lt _ (by decide)) hr
      rw [Prod.mk.injEq]
      exact ⟨rfl, by walk_at "l"⟩
    · exfalso; walk_at "l"
    · exfalso; walk_at "l"
    · have hp : p = p' := by walk_at "l"
      subst hp
      have h5 := isD_t ex
      have h6 := isD_t ey
      simp only at h5 h6
      rw [h5, h6]
noncomputable def txtN (pc : It → List Nat) (r : List It) : List Nat := r.flatMap pc
noncomputable def adj (a b : It) : List It → Bool
  | x :: y :: r => (x == a && y == b) || adj a b (y :: r)
  | _ => false
theorem adj_iff (a b : It) : ∀ r : List It, adj a b r = true ↔ ∃ r1 r2, r = r1 ++ a :: b :: r2
  | [] => by simp [adj]
  | [x] => by
    simp only [adj, Bool.false_eq_true, false_iff]
    rintro ⟨r1, r2, e⟩
    have := congrArg List.length e
    simp at this; walk_at "l"
  | x :: y :: r => by
    have ih := adj_iff a b (y :: r)
    unfold adj
    rw [Bool.or_eq_true, ih, Bool.and_eq_true, beq_iff_eq, beq_iff_eq]
    constructor
    · rintro (⟨rfl, rfl⟩ | ⟨r1, r2, e⟩)
      · exact ⟨[], r, rfl⟩
      · exact ⟨x :: r1, r2, by rw [e]; rfl⟩
    · rintro ⟨r1, r2, e⟩
      cases r1 with
      | nil => cases e; exact .inl ⟨rfl, rfl⟩
      | cons z r1 => rw [List.cons_append, List.cons.injEq] at e; exact .inr ⟨r1, r2, e.2⟩
noncomputable def flt (t : List Nat) : List Nat := t.filter fun c => !unsL.contains c
theorem flt_cat (a b : List Nat) : flt (a ++ b) = flt a ++ flt b := List.filter_append ..
section
variable {fs : List Nat} {pc : It → List Nat} {sg : It → Nat} (P : PcOk fs pc sg)
include P
theorem flt_pc {x : It} (hx : x ∈ stockI fs) : flt (pc x) = [sg x] := by
  obtain ⟨u, e, _, hu⟩ := P.shape x hx
  have h1 : flt u = [] := List.filter_eq_nil_iff.mpr fun c hc => by simpa using hu c hc
  rw [e, flt_cat, h1, List.nil_append]
  have := (P.sgn x hx).1
  simp [flt, this]
theorem flt_txt : ∀ {r : List It}, (∀ x, x ∈ r → x ∈ stockI fs) → flt (txtN pc r) = r.map sg
  | [], _ => rfl
  | x :: r, h => by
    show flt (pc x ++ txtN pc r) = _
    rw [flt_cat, flt_pc P (h x List.mem_cons_self), flt_txt fun y hy => h y (List.mem_cons_of_mem _ hy)]; rfl
theorem map_sg_inj : ∀ {r r' : List It}, (∀ x, x ∈ r → x ∈ stockI fs) → (∀ x, x ∈ r' → x ∈ stockI fs) → r.map sg = r'.map sg → r = r'
  | [], [], _, _, _ => rfl
  | [], _ :: _, _, _, e => by cases e
  | _ :: _, [], _, _, e => by cases e
  | x :: r, y :: r', h, h', e => by
    rw [List.map_cons, List.map_cons, List.cons.injEq] at e
    rw [P.inj x y (h x List.mem_cons_self) (h' y List.mem_cons_self) e.1, map_sg_inj (fun z hz => h z (List.mem_cons_of_mem _ hz)) (fun z hz => h' z (List.mem_cons_of_mem _ hz)) e.2]
theorem txt_inj {r r' : List It} (h : ∀ x, x ∈ r → x ∈ stockI fs) (h' : ∀ x, x ∈ r' → x ∈ stockI fs) (e : txtN pc r = txtN pc r') : r = r' := by
  have := congrArg flt e
  rw [flt_txt P h, flt_txt P h'] at this
  exact map_sg_inj P h h' this
theorem pc_nodot {x : It} (hx : x ∈ stockI fs) : 46 ∉ pc x := by
  obtain ⟨u, e, _, hu⟩ := P.shape x hx
  rw [e]
  intro h
  rcases List.mem_append.mp h with h | h
  · exact absurd (hu 46 h) (by decide)
  · exact (P.sgn x hx).2 (List.mem_singleton.mp h).symm
theorem txt_nodot {r : List It} (h : ∀ x, x ∈ r → x ∈ stockI fs) : 46 ∉ txtN pc r := fun q => by
  obtain ⟨x, hx, hq⟩ := List.mem_flatMap.mp q
  exact pc_nodot P (h x hx) hq
theorem pc_len {x : It} (hx : x ∈ stockI fs) : 1 ≤ (pc x).length ∧ (pc x).length ≤ 2 := by
  obtain ⟨u, e, hu, _⟩ := P.shape x hx
  rw [e, List.length_append]; simp; walk_at "l"
theorem txt_len : ∀ {r : List It}, (∀ x, x ∈ r → x ∈ stockI fs) → r.length ≤ (txtN pc r).length ∧ (txtN pc r).length ≤ 2 * r.length
  | [], _ => ⟨Nat.le_refl _, Nat.zero_le _⟩
  | x :: r, h => by
    have h1 := pc_len P (h x List.mem_cons_self)
    have h2 := txt_len (r := r) fun y hy => h y (List.mem_cons_of_mem _ hy)
    show (x :: r).length ≤ (pc x ++ txtN pc r).length ∧ (pc x ++ txtN pc r).length ≤ _
    rw [List.length_append, List.length_cons]; walk_at "l"
theorem ell_same {r r' : List It} (h : ∀ x, x ∈ r → x ∈ stockI fs) (h' : ∀ x, x ∈ r' → x ∈ stockI fs) : ell (pieceS (txtN pc r)) (pieceS (txtN pc r')) = decide (r = r') := by
  rw [ell_plain _ _ (txt_nodot P h), Bool.eq_iff_iff, decide_eq_true_iff, decide_eq_true_iff]
  exact ⟨txt_inj P h h', fun e => by rw [e]⟩
omit P in
theorem split_map {α : Type} {f : α → Nat} : ∀ {r : List α} {a b : List Nat}, r.map f = a ++ b → ∃ r1 r2, r = r1 ++ r2 ∧ r1.map f = a ∧ r2.map f = b
  | r, [], b, h => ⟨[], r, rfl, rfl, h⟩
  | [], x :: a, b, h => by cases h
  | y :: r, x :: a, b, h => by
    rw [List.map_cons, List.cons_append, List.cons.injEq] at h
    obtain ⟨r1, r2, e, h1, h2⟩ := split_map h.2
    exact ⟨y :: r1, r2, by rw [e]; rfl, by rw [List.map_cons, h.1, h1], h2⟩
theorem one_of {x : It} {s : List It} (hx : x ∈ stockI fs) (h : ∀ y, y ∈ s → y ∈ stockI fs) (e : s.map sg = [sg x]) : s = [x] := map_sg_inj P h (fun y hy => by rw [List.mem_singleton.mp hy]; exact hx) e
theorem ell_adj {a b : It} {r : List It} (ha : a ∈ stockI fs) (hb : b ∈ stockI fs) (h : ∀ x, x ∈ r → x ∈ stockI fs) : ell (dots ++ pieceS (pc a) ++ pieceS (pc b) ++ dots) (pieceS (txtN pc r)) = adj a b r := by
  have e : dots ++ pieceS (pc a) ++ pieceS (pc b) ++ dots = pieceS (wantN ([] :: ([pc a ++ pc b] ++ [[]]))) := by
    rw [dots_S, pieceS_cat, pieceS_cat, pieceS_cat]
    simp [wantN]
  have hw : ∀ w, w ∈ [] :: ([pc a ++ pc b] ++ [[]]) → 46 ∉ w := by
    intro w hw
    simp only [List.mem_cons, List.cons_append, List.nil_append, List.not_mem_nil, or_false] at hw
    rcases hw with rfl | rfl | rfl
    · simp
    · rw [List.mem_append]; exact fun q => q.elim (pc_nodot P ha) (pc_nodot P hb)
    · simp
  rw [e, Bool.eq_iff_iff, ell_dots _ _ _ _ hw, adj_iff]
  constructor
  · rintro ⟨t, et, p, q, eq, _⟩
    rw [List.nil_append, List.append_nil] at et
    have h2 := flt_txt P h
    rw [et, eq, flt_cat, flt_cat, flt_cat, flt_pc P ha, flt_pc P hb] at h2
    obtain ⟨r12, r3, e1, h3, _⟩ := split_map h2.symm
    obtain ⟨r1, r2, e2, _, h4⟩ := split_map h3
    obtain ⟨s1, s2, e3, h5, h6⟩ := split_map h4
    subst e2; subst e3; subst e1
    have v : ∀ x, x ∈ s1 ∨ x ∈ s2 → x ∈ stockI fs := fun x hx => h x (by simp only [List.mem_append]; exact .inl (.inr hx))
    rw [one_of P ha (fun y hy => v y (.inl hy)) h5, one_of P hb (fun y hy => v y (.inr hy)) h6]
    exact ⟨r1, r3, by simp⟩
  · rintro ⟨r1, r2, rfl⟩
    refine ⟨txtN pc (r1 ++ a :: b :: r2), by simp, txtN pc r1, txtN pc r2, ?_, trivial⟩
    simp [txtN]
theorem ell_pat {a b : It} {r : List It} (ha : a ∈ stockI fs) (hb : b ∈ stockI fs) (h : ∀ x, x ∈ r → x ∈ stockI fs) : ell (pieceS (pc a) ++ dots ++ pieceS (pc b)) (pieceS (txtN pc r)) = (decide (2 ≤ r.length) && (r.head? == some a && r.getLast? == some b)) := by
  have e : pieceS (pc a) ++ dots ++ pieceS (pc b) = pieceS (wantN (pc a :: ([] ++ [pc b]))) := by
    rw [dots_S, pieceS_cat, pieceS_cat]; rfl
  have hw : ∀ w, w ∈ pc a :: ([] ++ [pc b]) → 46 ∉ w := by
    intro w hw
    simp only [List.mem_cons, List.nil_append, List.not_mem_nil, or_false] at hw
    rcases hw with rfl | rfl
    · exact pc_nodot P ha
    · exact pc_nodot P hb
  rw [e, Bool.eq_iff_iff, ell_dots _ _ _ _ hw, Bool.and_eq_true, Bool.and_eq_true, decide_eq_true_iff, beq_iff_eq, beq_iff_eq]
  constructor
  · rintro ⟨t, et, _⟩
    have h2 := flt_txt P h
    rw [et, flt_cat, flt_cat, flt_pc P ha, flt_pc P hb] at h2
    obtain ⟨r12, r3, e1, h3, h5⟩ := split_map h2.symm
    obtain ⟨r1, r2, e2, h4, _⟩ := split_map h3
    subst e2; subst e1
    rw [one_of P ha (fun y hy => h y (by simp [hy])) h4, one_of P hb (fun y hy => h y (by simp [hy])) h5]
    exact ⟨by simp, by simp, by rw [List.getLast?_append]; rfl⟩
  · rintro ⟨h1, h2, h3⟩
    cases r with
    | nil => cases h2
    | cons x r =>
      rw [List.head?_cons] at h2
      cases h2
      have hne : r ≠ [] := by rintro rfl; simp at h1
      obtain ⟨s, y, rfl⟩ : ∃ s y, r = s ++ [y] := ⟨r.dropLast, r.getLast hne, (List.dropLast_concat_getLast hne).symm⟩
      rw [← List.cons_append, List.getLast?_append] at h3
      have : y = b := by simpa using h3
      subst this
      refine ⟨txtN pc s, ?_, trivial⟩
      simp [txtN]
end
theorem glue_words : ∀ (ws : List (List Nat)) (acc : List Nat), (ws.map pieceS).foldl (fun acc p => acc ++ (pieceS dotsN).cps ++ p.cps) acc.toArray = (ws.foldl (fun acc p => acc ++ dotsN ++ p) acc).toArray
  | [], _ => rfl
  | w :: ws, acc => by
    rw [List.map_cons, List.foldl_cons, List.foldl_cons, ← glue_words ws]
    congr 1
    simp [pieceS]
theorem fold_want : ∀ (ws : List (List Nat)) (w acc : List Nat), ws.foldl (fun acc p => acc ++ dotsN ++ p) (acc ++ w) = acc ++ wantN (w :: ws)
  | [], w, acc => rfl
  | w' :: ws, w, acc => by
    rw [List.foldl_cons, fold_want ws w' (acc ++ w ++ dotsN)]
    simp [wantN]
theorem join_words (w : List Nat) (ws : List (List Nat)) : Txt.join dots ((w :: ws).map pieceS) = pieceS (wantN (w :: ws)) := by
  rw [dots_S]
  show Builtin.Str.glued _ _ = _
  unfold Builtin.Str.glued
  rw [show ((w :: ws).map pieceS).drop 1 = ws.map pieceS from rfl, show (((w :: ws).map pieceS).headD Str.empty).cps = w.toArray from rfl, glue_words]
  have := fold_want ws w []
  rw [List.nil_append, List.nil_append] at this
  rw [this]; rfl
theorem Occ.all : ∀ ws : List (List Nat), Occ ws ws.flatten
  | [] => trivial
  | w :: ws => ⟨[], ws.flatten, by simp, Occ.all ws⟩
section
variable {fs : List Nat} {pc : It → List Nat} {sg : It → Nat} (P : PcOk fs pc sg)
include P
theorem words_nodot {r : List It} (h : ∀ x, x ∈ r → x ∈ stockI fs) : ∀ w, w ∈ r.map pc → 46 ∉ w := fun w hw => by
  obtain ⟨x, hx, rfl⟩ := List.mem_map.mp hw
  exact pc_nodot P (h x hx)
theorem ell_join {r : List It} (hne : r ≠ []) (h : ∀ x, x ∈ r → x ∈ stockI fs) : ell (Txt.join dots (r.map fun x => pieceS (pc x))) (pieceS (txtN pc r)) = true := by
  rw [show (r.map fun x => pieceS (pc x)) = (r.map pc).map pieceS by rw [List.map_map]; rfl]
  cases r with
  | nil => exact absurd rfl hne
  | cons x r =>
    rw [List.map_cons, join_words]
    by_cases hr : r = []
    · subst hr
      rw [show wantN (pc x :: ([] : List It).map pc) = txtN pc [x] by simp [wantN, txtN], ell_same P h h]
      simp
    · obtain ⟨s, y, rfl⟩ : ∃ s y, r = s ++ [y] := ⟨r.dropLast, r.getLast hr, (List.dropLast_concat_getLast hr).symm⟩
      have hw := words_nodot P h
      rw [List.map_cons, List.map_append, List.map_cons, List.map_nil] at hw
      rw [List.map_append, List.map_cons, List.map_nil, ell_dots _ _ _ _ hw]
      refine ⟨(s.map pc).flatten, ?_, Occ.all _⟩
      simp [txtN, List.flatMap]
theorem ell_long {s : List It} {g : List Nat} (h2 : 2 ≤ s.length) (h : ∀ x, x ∈ s → x ∈ stockI fs) (hl : g.length < (txtN pc s).length) : ell (Txt.join dots (s.map fun x => pieceS (pc x))) (pieceS g) = false := by
  rw [show (s.map fun x => pieceS (pc x)) = (s.map pc).map pieceS by rw [List.map_map]; rfl]
  cases s with
  | nil => simp at h2
  | cons x r =>
    rw [List.map_cons, join_words]
    have hr : r ≠ [] := by rintro rfl; simp at h2
    obtain ⟨s, y, rfl⟩ : ∃ s y, r = s ++ [y] := ⟨r.dropLast, r.getLast hr, (List.dropLast_concat_getLast hr).symm⟩
    have hw := words_nodot P h
    rw [List.map_cons, List.map_append, List.map_cons, List.map_nil] at hw
    rw [List.map_append, List.map_cons, List.map_nil, Bool.eq_false_iff]
    intro q
    obtain ⟨t, rfl, ho⟩ := (ell_dots _ _ _ _ hw).mp q
    have := ho.sub.length_le
    simp [txtN, List.flatMap] at hl this
    walk_at "l"
theorem ell_twice {x : It} {r : List It} (h : ∀ y, y ∈ x :: r → y ∈ stockI fs) (hn : x ∉ r) : ell (dots ++ pieceS (pc x) ++ dots ++ one (sg x) ++ dots) (pieceS (txtN pc (x :: r))) = false := by
  have hx := h x List.mem_cons_self
  have e : dots ++ pieceS (pc x) ++ dots ++ one (sg x) ++ dots = pieceS (wantN ([] :: ([pc x, [sg x]] ++ [[]]))) := by
    rw [dots_S, one_S, pieceS_cat, pieceS_cat, pieceS_cat, pieceS_cat]
    simp [wantN]
  have hw : ∀ w, w ∈ [] :: ([pc x, [sg x]] ++ [[]]) → 46 ∉ w := by
    intro w hw
    simp only [List.mem_cons, List.cons_append, List.nil_append, List.not_mem_nil, or_false] at hw
    rcases hw with rfl | rfl | rfl | rfl
    · simp
    · exact pc_nodot P hx
    · rw [List.mem_singleton]; exact fun q => (P.sgn x hx).2 q.symm
    · simp
  rw [e, Bool.eq_false_iff]
  intro q
  obtain ⟨t, et, ho⟩ := (ell_dots _ _ _ _ hw).mp q
  rw [List.nil_append, List.append_nil] at et
  subst et
  have hs := ho.sub.filter (fun c => !unsL.contains c)
  change (flt _).Sublist (flt _) at hs
  rw [show ([pc x, [sg x]] : List (List Nat)).flatten = pc x ++ [sg x] by simp, flt_cat, flt_pc P hx, flt_txt P h, show flt [sg x] = [sg x] by have := (P.sgn x hx).1; simp [flt, this], List.map_cons, List.singleton_append] at hs
  have h1 := List.cons_sublist_cons.mp hs
  have h2 := h1.subset List.mem_cons_self
  obtain ⟨y, hy, e2⟩ := List.mem_map.mp h2
  exact hn (P.inj y x (h y (List.mem_cons_of_mem _ hy)) hx e2 ▸ hy)
theorem pc_last {x : It} (hx : x ∈ stockI fs) : Txt.item (pieceS (pc x)) (-1) = one (sg x) ∧ (Txt.charAt (pieceS (pc x)) (-1)).isSome = true := by
  obtain ⟨u, e, _, _⟩ := P.shape x hx
  have hc : Txt.charAt (pieceS (pc x)) (-1) = some (sg x) := by
    unfold Txt.charAt
    have hs : seqIndex? (-1) (pieceS (pc x)).length = some u.length := by
      rw [pieceS_len, e, List.length_append]
      unfold seqIndex?
      simp
      walk_at "l"
    rw [hs, e]
    simp [pieceS]
  unfold Txt.item
  rw [hc]
  exact ⟨rfl, rfl⟩
end
theorem nat_pick {t : List Nat} {a b : Nat} : (sliceRange (a : Int) (b : Int) 1).filterMap (t[·]?) = (t.drop a).take (b - a) := by
  rw [range_one, List.filterMap_map]
  exact filt_range_from t a (b - a)
theorem slice_one {t : List Nat} (h : t ≠ []) : Txt.slice (pieceS t) (some 1) none = pieceS (t.drop 1) := by
  have hl : 1 ≤ t.length := List.length_pos_iff.mpr h
  have hi : Builtin.Str.strSliceIndices (some 1) none 1 (pieceS t).length = sliceRange ((1 : Nat) : Int) (t.length : Int) 1 := by
    unfold Builtin.Str.strSliceIndices
    rw [pieceS_len]
    simp only [show (1 : Int) > 0 by decide, if_true, show ¬ ((1 : Int) < 0) by decide, if_false]
    congr 1
    walk_at "l"
  unfold Txt.slice
  rw [hi, range_one]
  rw [if_neg (by simp [pieceS_len]; walk_at "l"), ← range_one]
  unfold pieceS
  simp only [List.getElem?_toArray]
  rw [nat_pick, List.take_of_length_le (by simp)]
theorem slice_but {t : List Nat} (h : t ≠ []) : Txt.slice (pieceS t) none (some (-1)) = pieceS t.dropLast := by
  have hl : 1 ≤ t.length := List.length_pos_iff.mpr h
  have hi : Builtin.Str.strSliceIndices none (some (-1)) 1 (pieceS t).length = sliceRange ((0 : Nat) : Int) ((t.length - 1 : Nat) : Int) 1 := by
    unfold Builtin.Str.strSliceIndices
    rw [pieceS_len]
    simp only [show (1 : Int) > 0 by decide, if_true, show ((-1 : Int) < 0) by decide]
    congr 1
    exact last_max hl
  unfold Txt.slice
  rw [hi, range_one]
  rw [if_neg (by simp [pieceS_len]; walk_at "l"), ← range_one]
  unfold pieceS
  simp only [List.getElem?_toArray]
  rw [nat_pick, List.drop_zero, Nat.sub_zero, List.dropLast_eq_take]
noncomputable def pairsI (fs : List Nat) (r : List It) : Nat := (r.filter (isD fs)).length
noncomputable def cntL (fs : List Nat) (p : Nat) : List Nat := (List.range ((fs.length - p) / 2 + 1)).map fun k => ((rowsAt fs p).filter fun r => pairsI fs r == k).length
noncomputable def sumN (fs : List Nat) (p : Nat) : Nat := if p ≤ fs.length then (rowsAt fs p).length else 0
noncomputable def noAdj (fs : List Nat) (p : Nat) (r : List It) : Bool := (List.range (fs.length - 1 - p)).all fun i => !adj (p + i, fs.getD (p + i) 0 - 1) (p + i + 1, 0) r
noncomputable def gapN (fs : List Nat) (p : Nat) : Nat := if p ≤ fs.length then ((rowsAt fs p).filter fun r => pairsI fs r == 0 && noAdj fs p r).length else 0
noncomputable def pev (x : Nat) : List Nat → Nat
  | [] => 0
  | c :: l => c + x * pev x l
noncomputable def padd : List Nat → List Nat → List Nat
  | [], b => b
  | a, [] => a
  | c :: a, d :: b => (c + d) :: padd a b
noncomputable def pmul : List Nat → List Nat → List Nat
  | [], _ => []
  | c :: a, b => padd (b.map (c * ·)) (0 :: pmul a b)
theorem pev_add (x : Nat) : ∀ a b : List Nat, pev x (padd a b) = pev x a + pev x b
  | [], b => by simp [padd, pev]
  | c :: a, [] => by simp [padd, pev]
  | c :: a, d :: b => by
    simp only [padd, pev, pev_add x a b, Nat.mul_add]; walk_at "l"
theorem pev_scale (x c : Nat) : ∀ b : List Nat, pev x (b.map (c * ·)) = c * pev x b
  | [] => by simp [pev]
  | d :: b => by
    simp only [List.map_cons, pev, pev_scale x c b, Nat.mul_add]
    rw [Nat.mul_left_comm]
theorem pev_mul (x : Nat) : ∀ a b : List Nat, pev x (pmul a b) = pev x a * pev x b
  | [], b => by simp [pmul, pev]
  | c :: a, b => by
    simp only [pmul, pev_add, pev_scale, pev, pev_mul x a b, Nat.zero_add, Nat.add_mul, Nat.mul_assoc]
theorem pev_undig (n : Nat) : ∀ l : List Nat, undig n l = pev (2 ^ n) l
  | [] => rfl
  | c :: l => by simp only [undig, pev, pev_undig n l]
noncomputable def peq : List Nat → List Nat → Bool
  | [], b => b.all (· == 0)
  | a, [] => a.all (· == 0)
  | c :: a, d :: b => c == d && peq a b
theorem pev_zero (x : Nat) : ∀ l : List Nat, l.all (· == 0) = true → pev x l = 0
  | [], _ => rfl
  | c :: l, h => by
    rw [List.all_cons, Bool.and_eq_true, beq_iff_eq] at h
    rw [pev, h.1, pev_zero x l h.2]; simp
theorem pev_eq (x : Nat) : ∀ {a b : List Nat}, peq a b = true → pev x a = pev x b
  | [], b, h => by unfold peq at h; rw [pev_zero x b h]; rfl
  | c :: a, [], h => by unfold peq at h; rw [pev_zero x (c :: a) h]; rfl
  | c :: a, d :: b, h => by
    unfold peq at h
    rw [Bool.and_eq_true, beq_iff_eq] at h
    rw [pev, pev, h.1, pev_eq x h.2]
noncomputable def frP (fs : List Nat) : Nat → List Nat
  | 0 => [1]
  | 1 => [fs.getD 0 0]
  | p + 2 => padd ((frP fs (p + 1)).map (fs.getD (p + 1) 0 * ·)) (0 :: frP fs p)
noncomputable def bothB (fs : List Nat) (r : List It) : Bool := decide (2 ≤ r.length) && (r.head? == some (0, fs.getD 0 0 - 1) && r.getLast? == some (fs.length - 1, fs.getD (fs.length - 1) 0 - 1))
noncomputable def bothP (fs : List Nat) : List Nat := (List.range 3).map fun j => (((rowsAt fs 0).filter (bothB fs)).filter fun r => pairsI fs r == j).length
noncomputable def numA (h : Nat) (fs : List Nat) : Bool :=
  decide (fs.length = 1 + h) && (fs.all fun f => decide (2 ≤ f ∧ f ≤ 4)) &&
    ((List.range (fs.length + 1)).all fun p => decide (0 < (rowsAt fs p).length ∧ (rowsAt fs p).length ≤ 100) && (rowsAt fs p).all fun r => decide (r.length ≤ 4 ∧ pairsI fs r < (fs.length - p) / 2 + 1) && (r.all fun x => decide (x.1 < fs.length ∧ (x.2 < fs.getD x.1 0 ∨ (x.2 = fs.getD x.1 0 ∧ x.1 + 1 < fs.length)) ∧ p ≤ x.1)))
noncomputable def numB (fs : List Nat) : Bool :=
  (List.range fs.length).all fun p => decide ((stockI fs).flatMap (fun x => if x.1 = p then (rowsAt fs (p + lenI fs x)).map (fun r => x :: r) else []) = rowsAt fs p)
noncomputable def numC (fs : List Nat) : Bool :=
  (List.range (fs.length + 1)).all fun p => decide ((cntL fs p).sum = sumN fs p ∧ (cntL fs p).getLastD 0 ≠ 0 ∧ (cntL fs p).length ≤ 3) && ((cntL fs p).all fun c => decide (c < 100)) &&
    decide ((gapN fs p : Int) = ((cntL fs p).getD 0 0 : Int) - ((cntL fs p).getD 1 0 : Int) + ((cntL fs p).getD 2 0 : Int) ∧ 0 < gapN fs p)
noncomputable def numD (fs : List Nat) : Bool :=
  (List.range fs.length).all fun p => decide (sumN fs p = fs.getD p 0 * sumN fs (p + 1) + sumN fs (p + 2) ∧ sumN fs (p + 2) < sumN fs (p + 1) ∧ gapN fs p + gapN fs (p + 2) = fs.getD p 0 * gapN fs (p + 1) ∧ gapN fs (p + 2) < gapN fs (p + 1))
noncomputable def numF (fs : List Nat) : Bool :=
  (List.range fs.length).all fun p => peq (padd (pmul (frP fs (p + 1)) (cntL fs (p + 1))) (if p + 1 < fs.length then 0 :: pmul (frP fs p) (cntL fs (p + 2)) else [])) (cntL fs 0) &&
    decide ((stockI fs).filter (fun x => x.1 + lenI fs x == p + 1) = (List.range (fs.getD p 0)).map (fun q => (p, q)) ++ (if 1 ≤ p then [(p - 1, fs.getD (p - 1) 0)] else []))
noncomputable def numG (fs : List Nat) : Bool :=
  if fs.length % 2 = 0 then peq (pmul (cntL fs 0) (bothP fs)) (padd (pmul (cntL fs 1) (frP fs (fs.length - 1))) (List.replicate (fs.length - 1) 0 ++ [1]))
  else peq (padd (pmul (cntL fs 0) (bothP fs)) (List.replicate (fs.length - 1) 0 ++ [1])) (pmul (cntL fs 1) (frP fs (fs.length - 1)))
set_option maxRecDepth 100000
theorem num_a : fsT.all (fun x => numA x.1 x.2) = true := by decide +kernel
theorem num_b : fsT.all (fun x => numB x.2) = true := by decide +kernel
theorem num_c : fsT.all (fun x => numC x.2) = true := by decide +kernel
theorem num_d : fsT.all (fun x => numD x.2) = true := by decide +kernel
theorem num_f : fsT.all (fun x => numF x.2) = true := by decide +kernel
theorem num_g : fsT.all (fun x => numG x.2) = true := by decide +kernel
theorem fdm {a d q r : Int} (h : a = d * q + r) (hr : (0 ≤ r ∧ r < d) ∨ (d < r ∧ r ≤ 0)) : a.fdiv d = q ∧ a.fmod d = r := by
  have pos : ∀ {a d q r : Int}, a = d * q + r → 0 ≤ r → r < d → a.fdiv d = q ∧ a.fmod d = r := fun {a d q r} h h1 h2 => by
    have hm : a.fmod d = r := by rw [h, Int.add_comm, Int.add_mul_fmod_self_left, Int.fmod_eq_of_lt h1 h2]
    have e := Int.mul_fdiv_add_fmod a d
    rw [hm] at e
    exact ⟨Int.eq_of_mul_eq_mul_left (a := d) (by walk_at "l") (Int.add_left_inj r |>.mp (e.trans h)), hm⟩
  rcases hr with ⟨h1, h2⟩ | ⟨h1, h2⟩
  · exact pos h h1 h2
  · obtain ⟨h3, h4⟩ := pos (a := -a) (d := -d) (q := q) (r := -r) (by rw [h, Int.neg_mul]; walk_at "l") (by walk_at "l") (by walk_at "l")
    have := @fdiv_negs a d
    rw [h3, h4] at this
    exact ⟨this.1.symm, by walk_at "l"⟩
theorem pev3 (b : Nat) : ∀ {cs : List Nat}, cs.length ≤ 3 → pev b cs = cs.getD 0 0 + b * (cs.getD 1 0 + b * cs.getD 2 0) ∧ cs.sum = cs.getD 0 0 + cs.getD 1 0 + cs.getD 2 0
  | [], _ => by simp [pev]
  | [c], _ => by simp [pev]
  | [c, d], _ => by simp [pev]
  | [c, d, e], _ => by simp [pev]; walk_at "l"
  | _ :: _ :: _ :: _ :: _, h => by simp at h
theorem pev_lt (b : Nat) : ∀ {cs : List Nat}, (∀ c, c ∈ cs → c < b) → pev b cs < b ^ cs.length
  | [], _ => by simp [pev]
  | c :: cs, h => by
    have h1 := h c List.mem_cons_self
    have h2 := pev_lt b (cs := cs) fun d hd => h d (List.mem_cons_of_mem _ hd)
    rw [pev, List.length_cons, Nat.pow_succ]
    have h3 : b * (pev b cs + 1) ≤ b * b ^ cs.length := Nat.mul_le_mul_left _ h2
    rw [Nat.mul_comm (b ^ cs.length)]
    rw [Nat.mul_add] at h3
    walk_at "l"
theorem pev_ge (b : Nat) : ∀ {cs : List Nat}, cs.getLastD 0 ≠ 0 → b ^ (cs.length - 1) ≤ pev b cs
  | [], h => by simp at h
  | [c], h => by simp at h; simp [pev]; walk_at "l"
  | c :: d :: cs, h => by
    have h2 := pev_ge b (cs := d :: cs) (by simpa using h)
    rw [pev]
    simp only [List.length_cons, Nat.add_sub_cancel] at h2 ⊢
    rw [Nat.pow_succ, Nat.mul_comm]
    have := Nat.mul_le_mul_left b h2
    walk_at "l"
theorem digN_undig (n : Nat) : ∀ {cs : List Nat}, (∀ c, c ∈ cs → c < 2 ^ n) → digN n (undig n cs) cs.length = cs
  | [], _ => rfl
  | c :: cs, h => by
    have h1 := h c List.mem_cons_self
    have ih := digN_undig n (cs := cs) fun d hd => h d (List.mem_cons_of_mem _ hd)
    simp only [List.length_cons, digN, undig]
    rw [Nat.add_mul_mod_self_left, Nat.mod_eq_of_lt h1, Nat.add_mul_div_left _ _ (Nat.pow_pos (by decide)), Nat.div_eq_of_lt h1, Nat.zero_add, ih]
theorem bits_two {x k : Nat} (h1 : 2 ^ k ≤ x) : k + 1 ≤ Builtin.Int.intBits (x : Int) := by
  have h0 : x ≠ 0 := by
    have := Nat.pow_pos (n := k) (show 0 < 2 by decide); walk_at "l"
  unfold Builtin.Int.intBits
  have : ((x : Int) == 0) = false := by simp [h0]
  rw [this, if_neg (by decide), Int.natAbs_natCast]
  have := (Nat.le_log2 h0).mpr h1
  walk_at "l"
theorem digs_back {n : Nat} (hn : 0 < n) {cs : List Nat} (h : ∀ c, c ∈ cs → c < 2 ^ n) (hl : cs.getLastD 0 ≠ 0) : digs n (undig n cs) (i2n n (undig n cs)) = natL cs := by
  have hne : cs ≠ [] := by rintro rfl; simp at hl
  have hpos : 0 < cs.length := List.length_pos_iff.mpr hne
  have e : i2n n (undig n cs) = cs.length := by
    have h1 : undig n cs < 2 ^ (n * cs.length) := by rw [pev_undig, Nat.pow_mul]; exact pev_lt _ h
    have h2 : 2 ^ (n * (cs.length - 1)) ≤ undig n cs := by rw [pev_undig, Nat.pow_mul]; exact pev_ge _ hl
    have h3 := intBits_le h1
    have h4 := bits_two h2
    unfold i2n
    have h5 : n * cs.length = n * (cs.length - 1) + n := by
      rw [← Nat.mul_succ]; congr 1; exact (Nat.succ_pred_eq_of_pos hpos).symm
    rw [Nat.div_eq_iff hn]
    rw [Nat.mul_comm]
    exact ⟨Nat.le_sub_of_add_le (by walk_at "l"), Nat.sub_le_sub_right (Nat.add_le_add_right h3 n) 1⟩
  unfold digs
  rw [e, digN_undig n h]; rfl
theorem digs_self {x : Nat} (hx : 0 < x) : digs (Builtin.Int.intBits (x : Int)) x (i2n (Builtin.Int.intBits (x : Int)) x) = natL [x] := by
  have hb : 0 < Builtin.Int.intBits (x : Int) := by
    have := bits_two (x := x) (k := 0) (by rw [Nat.pow_zero]; exact hx); walk_at "l"
  have e : i2n (Builtin.Int.intBits (x : Int)) x = 1 := by
    unfold i2n
    rw [Nat.div_eq_iff hb, Nat.one_mul]; exact ⟨Nat.le_sub_of_add_le (Nat.add_le_add_left hb _), Nat.le_refl _⟩
  rw [e, digs_one (lt_bits x)]; rfl
theorem whole_less {b : Nat} {cs : List Nat} (hb : 256 ≤ b) (hl : cs.length ≤ 3) (hs : cs.sum ≤ 200) : ((pev b cs : Nat) : Int).fmod ((b - 1 : Nat) : Int) = (cs.sum : Int) := by
  obtain ⟨h1, h2⟩ := pev3 b hl
  obtain ⟨B, rfl⟩ : ∃ B, b = B + 1 := ⟨b - 1, by walk_at "l"⟩
  rw [h1, h2]
  refine (fdm (q := ((cs.getD 1 0 + cs.getD 2 0 * (B + 2) : Nat) : Int)) ?_ (.inl ⟨by walk_at "l", by walk_at "l"⟩)).2
  rw [Nat.add_sub_cancel]
  push_cast
  grind
theorem whole_more {b g : Nat} {cs : List Nat} (hb : 256 ≤ b) (hl : cs.length ≤ 3) (hg : (g : Int) = (cs.getD 0 0 : Int) - (cs.getD 1 0 : Int) + (cs.getD 2 0 : Int)) (h0 : 0 < g) (h2 : g ≤ 200) {L R : Int} (hL : L = 1 ∨ L = -1) (hR : R = 1 ∨ R = -1) :
    (if L = R then R * (L * ((pev b cs : Nat) : Int)).fmod (R * ((b + 1 : Nat) : Int)) else ((b + 1 : Nat) : Int) - R * (L * ((pev b cs : Nat) : Int)).fmod (R * ((b + 1 : Nat) : Int))) = (g : Int) := by
  have hW : ((pev b cs : Nat) : Int) = ((b + 1 : Nat) : Int) * ((cs.getD 1 0 : Int) + (cs.getD 2 0 : Int) * ((b : Int) - 1)) + (g : Int) := by
    rw [(pev3 b hl).1, hg]
    push_cast
    grind
  generalize ((pev b cs : Nat) : Int) = W at *
  generalize (cs.getD 1 0 : Int) + (cs.getD 2 0 : Int) * ((b : Int) - 1) = q at *
  generalize hD : ((b + 1 : Nat) : Int) = D at *
  rcases hL with rfl | rfl <;> rcases hR with rfl | rfl
  · rw [if_pos rfl, Int.one_mul, Int.one_mul, Int.one_mul]
    exact (fdm (q := q) hW (.inl ⟨by walk_at "l", by walk_at "l"⟩)).2
  · rw [if_neg (by decide), Int.one_mul, (fdm (a := W) (d := -1 * D) (q := -(q + 1)) (r := (g : Int) - D) (by rw [hW]; grind) (.inr ⟨by walk_at "l", by walk_at "l"⟩)).2]
    walk_at "l"
  · rw [if_neg (by decide), Int.one_mul, Int.one_mul, (fdm (a := -1 * W) (d := D) (q := -(q + 1)) (r := D - (g : Int)) (by rw [hW]; grind) (.inl ⟨by walk_at "l", by walk_at "l"⟩)).2]
    walk_at "l"
  · rw [if_pos rfl, (fdm (a := -1 * W) (d := -1 * D) (q := q) (r := -(g : Int)) (by rw [hW]; grind) (.inr ⟨by walk_at "l", by walk_at "l"⟩)).2]
    walk_at "l"
noncomputable abbrev elRel : List PyData → PyData → Prop := fun ds d => ∃ want got, ds = [.str want, .str got] ∧ EllOk want got ∧ d = .bool (ell want got)
noncomputable abbrev lawA : List Stmt := (fnBody PP iLaw).take 21
noncomputable def ownL : List Nat := [6, 3, 21, 0, 1, 3, 3, 15]
noncomputable def pickI (sc : List Int) (lo hi st : Option Int) : List Int := (sliceRange (sliceBounds lo hi st sc.length).1 (sliceBounds lo hi st sc.length).2.1 (sliceBounds lo hi st sc.length).2.2).filterMap (sc[·]?)
theorem pick_int (sc : List Int) (lo hi st : Option Int) : pickL (sc.map .int) lo hi st = (pickI sc lo hi st).map .int := by
  unfold pickL pickI
  rw [List.length_map, List.map_filterMap]
  refine fm_congr fun i _ => ?_
  simp
noncomputable def cellI (sc : List Int) (j : Nat) : Int := ((((ownL.getD j 0 : Nat) : Int) + (pickI sc (some (j : Int)) (some 60) (some 8)).sum)).fmod ((10 ^ 6 : Nat) : Int)
noncomputable def cellN (sc : List Int) (j : Nat) : Nat := (cellI sc j).toNat
theorem cell_cast (sc : List Int) (j : Nat) : cellI sc j = (cellN sc j : Int) ∧ cellN sc j < 10 ^ 6 := by
  have h1 := Int.fmod_nonneg_of_pos ((((ownL.getD j 0 : Nat) : Int) + (pickI sc (some (j : Int)) (some 60) (some 8)).sum)) (b := ((10 ^ 6 : Nat) : Int)) (by decide)
  have h2 := Int.fmod_lt_of_pos ((((ownL.getD j 0 : Nat) : Int) + (pickI sc (some (j : Int)) (some 60) (some 8)).sum)) (b := ((10 ^ 6 : Nat) : Int)) (by decide)
  unfold cellN
  change 0 ≤ cellI sc j at h1
  change cellI sc j < _ at h2
  exact ⟨(Int.toNat_of_nonneg h1).symm, by walk_at "l"⟩
noncomputable def cellsL (sc : List Int) : List Nat := (List.range 8).map (cellN sc)
theorem count_cast (p : Nat) : ∀ xs : List Nat, (xs.map fun n : Nat => (n : Int)).count (p : Int) = xs.count p
  | [] => rfl
  | x :: xs => by
    rw [List.map_cons, List.count_cons, List.count_cons, count_cast p xs]
    congr 1
    by_cases h : x = p
    · simp [h]
    · have h2 : ¬ ((x : Int) = (p : Int)) := by walk_at "l"
      simp [h, h2]
theorem put_const {α : Type} (d : α) (K : List Str) (x : Str) : put (K.map fun y => (y, d)) x d = (if K.contains x then K else K ++ [x]).map fun y => (y, d) := by
  unfold put
  have e : ((K.map fun y => (y, d)).any fun kv => decide (kv.1 = x)) = K.contains x := by
    rw [List.any_map, Bool.eq_iff_iff, List.contains_iff_mem, List.any_eq_true]
    exact ⟨fun ⟨y, hy, q⟩ => by have : y = x := by simpa using q
                                exact this ▸ hy, fun h => ⟨x, h, by simp⟩⟩
  rw [e]
  split
  · rw [List.map_map]
    refine List.map_congr_left fun y _ => ?_
    simp only [Function.comp]
    split <;> rfl
  · rw [List.map_append]; rfl
theorem puts_const {α : Type} (kf : α → Str) (d : PyData) : ∀ (xs : List α) (K : List Str), putsF kf (fun _ => d) xs (K.map fun y => (y, d)) = (xs.foldl (fun K x => if K.contains (kf x) then K else K ++ [kf x]) K).map fun y => (y, d)
  | [], _ => rfl
  | x :: xs, K => by
    show putsF kf (fun _ => d) xs (put (K.map fun y => (y, d)) (kf x) d) = _
    rw [put_const, puts_const kf d xs]; rfl
noncomputable def kndB (h : Nat) (fs : List Nat) : Bool := (List.range (9 - h)).all fun i => decide ((stockI fs).foldl (fun K x => if K.contains (foldI (lsOf h i) fs x) then K else K ++ [foldI (lsOf h i) fs x]) [] = kndL (lsOf h i))
theorem kinds_all : fsT.all (fun x => kndB x.1 x.2) = true := by decide +kernel
theorem kinds_is {h : Nat} {ls fs : List Nat} (w : IsWord h ls) (f : IsFs h fs) : putsF (foldI ls fs) (fun _ => PyData.int 0) (stockI fs) [] = (kndL ls).map fun y => (y, PyData.int 0) := by
  obtain ⟨hh, i, hi, rfl⟩ := w
  have b := fs_all kinds_all hh f
  unfold kndB at b
  have b2 := of_decide_eq_true (List.all_eq_true.mp b i (List.mem_range.mpr hi))
  have := puts_const (foldI (lsOf h i) fs) (PyData.int 0) (stockI fs) []
  rw [b2] at this
  exact this
structure FsOk (h : Nat) (fs : List Nat) : Prop where
  hh : h < 4
  w : IsFs h fs
  len : fs.length = 1 + h
  two : ∀ f, f ∈ fs → 2 ≤ f ∧ f ≤ 4
  rows : ∀ p, p ≤ fs.length → 0 < (rowsAt fs p).length ∧ (rowsAt fs p).length ≤ 100 ∧ ∀ r, r ∈ rowsAt fs p → r.length ≤ 4 ∧ pairsI fs r < (fs.length - p) / 2 + 1 ∧ ∀ x, x ∈ r → x ∈ stockI fs ∧ p ≤ x.1
theorem fs_ok {h : Nat} {fs : List Nat} (hh : h < 4) (w : IsFs h fs) : FsOk h fs := by
  have b := fs_all (P := numA) num_a hh w
  unfold numA at b
  simp only [Bool.and_eq_true, decide_eq_true_eq, List.all_eq_true, List.mem_range] at b
  obtain ⟨⟨h1, h2⟩, h3⟩ := b
  refine ⟨hh, w, h1, h2, fun p hp => ?_⟩
  obtain ⟨h4, h5⟩ := h3 p (by walk_at "l")
  refine ⟨h4.1, h4.2, fun r hr => ⟨(h5 r hr).1.1, (h5 r hr).1.2, fun x hx => ⟨mem_stock.mpr ⟨((h5 r hr).2 x hx).1, ((h5 r hr).2 x hx).2.1⟩, ((h5 r hr).2 x hx).2.2⟩⟩⟩
theorem FsOk.f {h : Nat} {fs : List Nat} (k : FsOk h fs) {p : Nat} (hp : p < fs.length) : 2 ≤ fs.getD p 0 ∧ fs.getD p 0 ≤ 4 := k.two _ (getD_mem hp)
theorem stock_len {fs : List Nat} (hl : fs.length ≤ 4) (hf : ∀ f, f ∈ fs → f ≤ 4) : (stockI fs).length ≤ 20 := by
  unfold stockI
  rw [List.length_append, List.length_map, List.length_range]
  have := flat_take_len (fun p => (List.range (fs.getD p 0)).map fun q => (p, q)) 4 (List.range fs.length) fun p hp => by
    rw [List.length_map, List.length_range]; exact hf _ (getD_mem (List.mem_range.mp hp))
  rw [List.length_range] at this
  exact Nat.le_trans (Nat.add_le_add (Nat.le_trans this (Nat.mul_le_mul_left 4 hl)) (Nat.le_trans (Nat.sub_le _ _) hl)) (by decide)
section
noncomputable abbrev sglD (fs : List Nat) (pc : It → List Nat) : PyData := .list ((List.range fs.length).map fun p => strsL ((List.range (fs.getD p 0)).map fun q => pieceS (pc (p, q))))
noncomputable abbrev dblD (fs : List Nat) (pc : It → List Nat) : PyData := strsL ((List.range (fs.length - 1)).map fun p => pieceS (pc (p, fs.getD p 0)))
noncomputable abbrev stockD (ls fs : List Nat) (pc : It → List Nat) : PyData := .list ((stockI fs).map fun x => .tuple [.str (pieceS (pc x)), .str (foldI ls fs x)])
noncomputable abbrev EA (cs : List Nat) (h : Nat) (ls fs : List Nat) (pc : It → List Nat) (more : VEnv) : VEnv :=
  ("cells", .own (.list (natL cs))) :: ("many", .own (.int ((1 + h : Nat) : Int))) :: ("word", .own (.str (wordS ls))) :: ("forms", .own (.list (natL fs))) :: ("singles", .own (sglD fs pc)) :: ("doubles", .own (dblD fs pc)) :: ("stock", .own (stockD ls fs pc)) ::
    ("kinds", .own (.dict (dk ((kndL ls).map fun y => (y, PyData.int 0))))) :: more
noncomputable def eaN : List Str := ["cells", "many", "word", "forms", "singles", "doubles", "stock", "kinds"]
theorem EA_mem {cs : List Nat} {h : Nat} {ls fs : List Nat} {pc : It → List Nat} {more : VEnv} {y : Str} {b : B} (hn : eaN.contains y = false) (hp : (y, b) ∈ more) : (y, b) ∈ EA cs h ls fs pc more := List.mem_append_right (EA cs h ls fs pc []) hp
theorem EA_upd {cs : List Nat} {h : Nat} {ls fs : List Nat} {pc : It → List Nat} {more more' : VEnv} {y : Str} {b : B} (hn : eaN.contains y = false) (hu : Upd y b more more') : Upd y b (EA cs h ls fs pc more) (EA cs h ls fs pc more') := upd_pre (pre := EA cs h ls fs pc []) hu hn
local macro_rules | `(tactic| walk_at "x") => `(tactic| first
  | ((with_reducible refine EA_mem ?_ ?_); (· kernel_rfl!); (· walk_at "x"))
  | ((with_reducible refine EA_upd ?_ ?_); (· kernel_rfl!); (· walk_at "x")))
noncomputable abbrev EB (cs : List Nat) (h : Nat) (ls fs : List Nat) (more : VEnv) : VEnv :=
  ("cells", .own (.list (natL cs))) :: ("many", .own (.int ((1 + h : Nat) : Int))) :: ("word", .own (.str (wordS ls))) :: ("forms", .own (.list (natL fs))) :: ("unseen", .own (.str unsS)) :: more
noncomputable def stockX (fs : List Nat) : List (List It) := (List.range fs.length).map (fun p => (List.range (fs.getD p 0)).map fun q => (p, q)) ++ [(List.range (fs.length - 1)).map fun p => (p, fs.getD p 0)]
theorem stockX_flat (fs : List Nat) : (stockX fs).flatMap (fun r => r) = stockI fs := by
  unfold stockX stockI
  rw [List.flatMap_append, List.flatMap_map]
  simp
theorem flatMap_map' {α β γ : Type} (f : β → γ) (g : α → List β) : ∀ xs : List α, (xs.flatMap g).map f = xs.flatMap fun x => (g x).map f
  | [] => rfl
  | x :: xs => by simp [List.flatMap_cons, flatMap_map' f g xs]
theorem two_all {α β : Type} (v : α → β → PyData) (ys : α → List β) (xs : List α) : xs.flatMap (two v ys (fun _ => true) (fun _ _ => true)) = xs.flatMap fun x => (ys x).map (v x) := by
  refine flatMap_congr' fun x _ => ?_
  unfold two
  rw [if_pos rfl, List.filter_eq_self.mpr fun _ _ => rfl]
section
variable {prog : Program} {w : World} {G : Gl prog w} {k : Nat}
theorem law_a0 (hG : Glo G) (hk : 27 ≤ k) (Fu : FnOk G "_law_unseen" 1 (fun ds d => ds = [] ∧ d = .str unsS)) (sc : List Int) (hsc : sc.length ≤ 63) {P : Out → Prop}
    (next : ∀ h ls fs, IsWord h ls → LsOk h ls → FsOk h fs → ExTo G k (fnScope PP iLaw) (EB (cellsL sc) h ls fs []) (lawA.drop 7) P) :
    ExTo G k (fnScope PP iLaw) [("script", .own (.list (sc.map .int)))] lawA P := by
  have hlid : lid = 1048576 := rfl
  refine ExTo.body (ss' := [_, _, _, _, _, _, _, _, _, _, _, _, _, _, _, _, _, _, _, _, _]) rfl ?_
  walk_at "t"
  case s1 =>
    with_reducible refine' Step.assign (d := .list (natL ownL)) ?k1 ?k2 ?k3 ?k4
    case k1 => walk_at "e"
    case k2 => walk_at "x"
    case k3 => walk_at "x"
    case k4 => exact fun _ => rfl
  walk_at "t"
  case s1 =>
    with_reducible refine' Step.cmpN (f := fun j : Nat => .int (j : Int)) (g := fun j : Nat => .int (cellN sc j : Nat)) (xs := List.range 8) ?k1 ?k2 ?k3 ?k4 ?k5 ?k6 ?k7 ?k8 ?k9 ?k10
    case k1 => walk_at "k"
    case k2 => walk_at "x"
    case k3 => walk_at "x"
    case k4 => exact fun _ _ => rfl
    case k5 => walk_at "x"
    case k6 => walk_at "x"
    case k7 =>
      intro j hj
      have hj := List.mem_range.mp hj
      rw [← (cell_cast sc j).1]
      unfold cellI
      have ho : ownL[j]? = some (ownL.getD j 0) := get_getD 0 hj
      with_reducible refine' EvTo.fmod (EvTo.add (EvTo.itemNat ?m1 ?m2 ho ?m3) (EvTo.sum ?m4 ?m5 ?m6 (EvTo.cast (EvTo.sliceL ?m7 (.some ?m8) (.some ?m9) (.some ?m10) ?m11) (congrArg PyData.list (pick_int sc _ _ _))) ?m12)) (EvTo.powN ?n1 ?n2 ?n3) ?n4
      case m1 => walk_at "x"
      case m2 => walk_at "n"
      case m3 => exact fun _ _ => rfl
      case m4 => walk_at "k"
      case m5 => exact (Glo.sum hG).1
      case m6 => exact (Glo.sum hG).2
      case m7 => walk_at "x"
      case m8 => walk_at "n"
      case m9 => walk_at "x"
      case m10 => walk_at "x"
      case m11 => decide
      case m12 => walk_at "x"
      case n1 => walk_at "n"
      case n2 => walk_at "n"
      case n3 => decide
      case n4 => decide
    case k8 => decide
    case k9 => walk_at "x"
    case k10 => walk_at "x"
  have hc : ∀ j, j < 8 → (cellsL sc)[j]? = some (cellN sc j) := fun j hj => by unfold cellsL; rw [List.getElem?_map, List.getElem?_range hj]; rfl
  rw [show ((List.range 8).map fun j : Nat => PyData.int (cellN sc j : Nat)) = natL (cellsL sc) by unfold natL cellsL; rw [List.map_map]; rfl]
  have b3 := (cell_cast sc 3).2
  have b4 := (cell_cast sc 4).2
  have b5 := (cell_cast sc 5).2
  generalize hc0 : cellN sc 0 = c0 at *
  generalize hc1 : cellN sc 1 = c1 at *
  generalize hc2 : cellN sc 2 = c2 at *
  have e0 : (cellsL sc)[0]? = some c0 := by rw [hc 0 (by decide), hc0]
  have e1 : (cellsL sc)[1]? = some c1 := by rw [hc 1 (by decide), hc1]
  have e2 : (cellsL sc)[2]? = some c2 := by rw [hc 2 (by decide), hc2]
  have e3 : (cellsL sc)[3]? = some (cellN sc 3) := hc 3 (by decide)
  have e4 : (cellsL sc)[4]? = some (cellN sc 4) := hc 4 (by decide)
  have e5 : (cellsL sc)[5]? = some (cellN sc 5) := hc 5 (by decide)
  obtain ⟨h, hh, hh4⟩ : ∃ h, c0 % 4 = h ∧ h < 4 := ⟨c0 % 4, rfl, Nat.mod_lt _ (by decide)⟩
  walk_at "t"
  case s1 =>
    with_reducible refine' Step.assign (d := .int ((1 + c0 % 4 : Nat) : Int)) (EvTo.addN ?m1 (EvTo.modN (EvTo.itemNat ?m2 ?m3 e0 ?m4) ?m5 ?m6)) ?k2 ?k3 ?k4
    case m1 | m3 | m5 => walk_at "n"
    case m2 => walk_at "x"
    case m4 => exact fun _ _ => rfl
    case m6 => decide
    case k2 => walk_at "x"
    case k3 => walk_at "x"
    case k4 => exact fun _ => rfl
  rw [hh]
  obtain ⟨i, hi, hi8⟩ : ∃ i, c1 % (10 - (1 + h)) = i ∧ i < 9 - h := ⟨_, rfl, by have := Nat.mod_lt c1 (show 0 < 10 - (1 + h) from Nat.sub_pos_of_lt (by walk_at "l")); walk_at "l"⟩
  have hw : IsWord h (lsOf h i) := ⟨hh4, i, hi8, rfl⟩
  have hcut := word_cut h hh4 i hi8
  walk_at "t"
  case s1 =>
    with_reducible refine' Step.assign (d := .str (wordS (lsOf h i))) ?k1 ?k2 ?k3 ?k4
    case k2 => walk_at "x"
    case k3 => walk_at "x"
    case k4 => exact fun _ => rfl
    case k1 =>
      rw [← hcut, ← hi]
      with_reducible refine' EvTo.sliceX (EvTo.sliceX ?m1 (.some (EvTo.modN (EvTo.itemNat ?m2 ?m3 e1 ?m4) (EvTo.subN ?m5 ?m6 ?m7) ?m8)) .none ?m9) .none (.some ?n1) ?n2
      case m1 => exact EvTo.strC
      case m2 => walk_at "x"
      case m3 => walk_at "n"
      case m4 => exact fun _ _ => rfl
      case m5 => walk_at "n"
      case m6 => walk_at "n"
      case m7 => walk_at "l"
      case m8 => walk_at "l"
      case m9 => walk_at "k"
      case n1 => walk_at "n"
      case n2 =>
        rw [hi]
        have : ∀ h : Nat, h < 4 → ∀ i : Nat, i < 9 - h → (Txt.slice ("hprstmwbq" : Str) (some (i : Int)) none).length ≤ sizeLine := by decide +kernel
        exact this h hh4 i hi8
  walk_at "t"
  case s1 =>
    with_reducible refine' Step.assign (d := .list ((natL [c2 % 5, c2 / 5 % 5]).take (5 - (1 + h)))) ?k1 ?k2 ?k3 ?k4
    case k2 => walk_at "x"
    case k3 => walk_at "x"
    case k4 => exact fun _ => rfl
    case k1 =>
      with_reducible refine' EvTo.takeL (EvL.of (EvTo.list (.cons ?n1 (EvTo.modN (EvTo.itemNat ?m2 ?m3 e2 ?m4) ?m5 ?m6) (.cons ?n2 (EvTo.modN (EvTo.divN (EvTo.itemNat ?o2 ?o3 e2 ?o4) ?o5 ?o6 ?o7) ?o8 ?o9) .nil)) ?n3)) (EvTo.subN ?p1 ?p2 ?p3)
      case n1 | n2 => exact fun _ _ => rfl
      case m2 | o2 => walk_at "x"
      case m3 | o3 | m5 | o5 | o8 | p1 | p2 => walk_at "n"
      case m4 | o4 => exact fun _ _ => rfl
      case m6 | o6 | o9 => decide
      case o7 => walk_at "k"
      case n3 => exact Nat.le_of_ble_eq_true rfl
      case p3 => walk_at "l"
  have hmore : (natL [c2 % 5, c2 / 5 % 5]).take (5 - (1 + h)) = (([c2 % 5, c2 / 5 % 5].take (4 - h)).map fun n : Nat => (n : Int)).map .int := by
    rw [show 5 - (1 + h) = 4 - h by walk_at "l", List.map_map]
    unfold natL
    rw [← List.map_take]; rfl
  rw [hmore]
  obtain ⟨d0, d1, hd0, hd1, hfs⟩ : ∃ d0 d1, d0 < 5 ∧ d1 < 5 ∧ [c2 % 5, c2 / 5 % 5] = [d0, d1] := ⟨_, _, Nat.mod_lt _ (by decide), Nat.mod_lt _ (by decide), rfl⟩
  rw [hfs]
  walk_at "t"
  case s1 =>
    with_reducible refine' Step.cmpN (f := fun j : Nat => .int (j : Int)) (g := fun j : Nat => .int ((2 + ([d0, d1].take (4 - h)).count j : Nat) : Int)) (xs := List.range (1 + h)) ?k1 ?k2 ?k3 ?k4 ?k5 ?k6 ?k7 ?k8 ?k9 ?k10
    case k1 => walk_at "k"
    case k2 => walk_at "x"
    case k3 => walk_at "x"
    case k4 => exact fun _ _ => rfl
    case k5 => walk_at "x"
    case k6 => walk_at "x"
    case k7 =>
      intro j hj
      with_reducible refine' EvTo.addN ?m1 (EvTo.cast (EvTo.countI (i := (j : Int)) (ns := ([d0, d1].take (4 - h)).map fun n : Nat => (n : Int)) ?m2 ?m3 ?m4 ?m5 ?m6) ?m7)
      case m1 => walk_at "n"
      case m2 => walk_at "x"
      case m3 => exact fun _ => rfl
      case m4 => walk_at "n"
      case m5 => exact fun _ _ => rfl
      case m6 => rfl
      case m7 => rw [count_cast]
    case k8 => simp only [List.length_range]; walk_at "l"
    case k9 => walk_at "x"
    case k10 => walk_at "x"
  rw [show ((List.range (1 + h)).map fun j : Nat => PyData.int ((2 + ([d0, d1].take (4 - h)).count j : Nat) : Int)) = natL (fsD h d0 d1) by unfold natL fsD; rw [List.map_map]; rfl]
  have fk := fs_ok hh4 ⟨d0, d1, hd0, hd1, rfl⟩
  have lk := ls_ok hw
  generalize lsOf h i = ls at *
  generalize fsD h d0 d1 = fs at *
  have hlen : fs.length = ls.length := by rw [fk.len, lk.len]
  have hst := st_ok lk hh4 hlen fun f hf => (fk.two f hf).2
  have hsl := stock_len (fs := fs) (by have := hst.short; walk_at "l") fun f hf => (fk.two f hf).2
  walk_at "t"
  case s1 =>
    with_reducible refine' Step.assign (d := .str unsS) ?k1 ?k2 ?k3 ?k4
    case k1 => exact EvTo.user Fu (by decide +kernel) (by walk_at "l") .nil ⟨rfl, rfl⟩
    case k2 => walk_at "x"
    case k3 => walk_at "x"
    case k4 => exact fun _ => rfl
  refine' ExTo.perm ?q1 ?q2 (next h ls fs hw lk fk)
  case q1 => walk_at "x"
  case q2 => dsimp only [EB, List.map]; decide +kernel
end
section
variable {prog : Program} {w : World} {G : Gl prog w} {k : Nat}
theorem stockD_is (ls fs : List Nat) (pc : It → List Nat) : stockD ls fs pc = .list ((stockX fs).flatMap (two (fun (_ : List It) (x : It) => .tuple [.str (pieceS (pc x)), .str (foldI ls fs x)]) (fun r => r) (fun _ => true) (fun _ _ => true))) := by
  show PyData.list _ = _
  rw [two_all, ← stockX_flat, flatMap_map']
theorem stockX_D (fs : List Nat) (pc : It → List Nat) : ((stockX fs).map fun r : List It => strsL (r.map fun x => pieceS (pc x))) = ((List.range fs.length).map fun p => strsL ((List.range (fs.getD p 0)).map fun q => pieceS (pc (p, q)))) ++ [dblD fs pc] := by
  unfold stockX dblD
  rw [List.map_append, List.map_map, List.map_cons, List.map_nil, List.map_map]
  congr 1
  refine List.map_congr_left fun p _ => ?_
  simp only [Function.comp]
  rw [List.map_map]; rfl
theorem stockX_mem {fs : List Nat} {r : List It} {x : It} (hr : r ∈ stockX fs) (hx : x ∈ r) : x ∈ stockI fs := by
  rw [← stockX_flat]; exact List.mem_flatMap.mpr ⟨r, hr, hx⟩
theorem law_a1 (hG : Glo G) (hk : 27 ≤ k) (Fs : FnOk G "_law_stock" 1 stRel) (Fp : FnOk G "_law_prepared" 2 (prRel b1S b3T)) {cs : List Nat} {h c3 c4 c5 : Nat} {ls fs : List Nat} (hw : IsWord h ls) (lk : LsOk h ls) (fk : FsOk h fs)
    (e3 : cs[3]? = some c3) (e4 : cs[4]? = some c4) (e5 : cs[5]? = some c5) (b3 : c3 < 10 ^ 6) (b4 : c4 < 10 ^ 6) (b5 : c5 < 10 ^ 6) {P : Out → Prop}
    (next : ExTo G k (fnScope PP iLaw) (EA cs h ls fs (pcI ls fs c3 c4 c5) []) (lawA.drop 10) P) :
    ExTo G k (fnScope PP iLaw) (EB cs h ls fs []) (lawA.drop 7) P := by
  have hlid : lid = 1048576 := rfl
  have hlen : fs.length = ls.length := by rw [fk.len, lk.len]
  have hst := st_ok lk fk.hh hlen fun f hf => (fk.two f hf).2
  have hsl := stock_len (fs := fs) (by have := hst.short; walk_at "l") fun f hf => (fk.two f hf).2
  have hpc : ∀ x, x ∈ stockI fs → foldOf b3T (pcI ls fs c3 c4 c5 x) = foldI ls fs x ∧ FoOk b1S b3T (pcI ls fs c3 c4 c5 x) := fun x hx => ⟨pc_fold lk hlen _ _ _ hx, pc_foOk lk hlen _ _ _ hx⟩
  have hsgl := sgl_S hlen c3 c4 c5
  have hdbl := dbl_S hlen c3 c4 c5
  refine ExTo.body (ss' := [_, _, _, _, _, _, _, _, _, _, _, _, _, _]) rfl ?_
  generalize hP : pcI ls fs c3 c4 c5 = pc at *
  have htup : PyData.tuple [.list ((sglL ls fs c3 c4).map strsL), .list ((dblL ls c5).map .str)] = .tuple [sglD fs pc, dblD fs pc] := by
    rw [hsgl, hdbl, List.map_map]; rfl
  walk_at "t"
  case s1 =>
    with_reducible refine' Step.assignT (EvTo.cast (EvTo.user Fs ?m4 ?m5 ?m6 ⟨ls, fs, cs, c3, c4, c5, rfl, hst, e3, e4, e5, b3, b4, b5, rfl⟩) htup) ?k2 ?k3 ?k4
    case m4 => walk_at "k"
    case m5 => walk_at "l"
    case m6 => walk_at "x"
    case k2 => walk_at "x"
    case k3 => exact fun _ => rfl
    case k4 => exact fun _ => rfl
  walk_at "t"
  case s1 =>
    with_reducible refine' Step.comp2 (ρ' := EB cs h ls fs [("singles", .own (sglD fs pc)), ("doubles", .own (dblD fs pc)), ("stock", .own (stockD ls fs pc))]) (f := fun r : List It => strsL (r.map fun x => pieceS (pc x))) (xs := stockX fs) (v := fun (_ : List It) (x : It) => .tuple [.str (pieceS (pc x)), .str (foldI ls fs x)]) (ys := fun r => r) (b := fun _ => true) (c := fun _ _ => true)
                            ?k1 ?k2 ?k3 ?k4 (turn_two (g := fun x : It => .str (pieceS (pc x))) (ρ1 := fun r => ("row", .own (strsL (r.map fun x => pieceS (pc x)))) :: [("unseen", .own (.str unsS))]) (ρ2 := fun r x => ("piece", .own (.str (pieceS (pc x)))) :: ("row", .own (strsL (r.map fun x => pieceS (pc x)))) :: [("unseen", .own (.str unsS))]) ?t1 ?t2 ?t3 ?t4 ?t5 ?t6 ?t7 ?t8 ?t9) ?k5 ?k6 ?k7
    case k1 => walk_at "k"
    case k2 => walk_at "x"
    case k3 =>
      rw [stockX_D]
      with_reducible refine' ItTo.list (EvTo.catL (EvL.of ?m1) (EvL.of ?m2) ?m3)
      case m1 => walk_at "x"
      case m2 =>
        with_reducible refine' EvTo.list (.cons ?n1 ?n2 .nil) ?n3
        case n1 => exact fun _ _ => rfl
        case n2 => walk_at "x"
        case n3 => exact Nat.le_of_ble_eq_true rfl
      case m3 => simp; have := hst.short; walk_at "l"
    case k4 => exact fun _ _ => rfl
    case k5 => rw [two_all, ← flatMap_map', stockX_flat, List.length_map]; walk_at "l"
    case k6 => walk_at "x"
    case k7 => rw [← stockD_is]; walk_at "x"
    case t1 => intro r _; exact BindTo.nameNew (by walk_at "x") (by walk_at "x")
    case t2 => intro r p hp; exact List.mem_cons_of_mem _ hp
    case t3 => intro r _; exact .nil
    case t4 =>
      intro r _ _
      rw [show (r.map fun x : It => PyData.str (pieceS (pc x))) = (r.map fun x => pieceS (pc x)).map .str by rw [List.map_map]; rfl]
      walk_at "x"
    case t5 => exact fun _ _ => rfl
    case t6 => intro r _ _ x _; exact BindTo.nameNew (by walk_at "x") (by walk_at "x")
    case t7 => intro r x p hp; exact List.mem_cons_of_mem _ hp
    case t8 => intro r _ _ x _; exact .nil
    case t9 =>
      intro r hr _ x hx _
      obtain ⟨h1, h2⟩ := hpc x (stockX_mem hr hx)
      with_reducible refine' EvTo.tuple (ds := [_, _]) (.cons ?m1 ?m2 (.cons ?m3 (EvTo.cast (EvTo.user Fp ?m4 ?m5 ?m6 ⟨pc x, rfl, h2, rfl⟩) (congrArg PyData.str h1)) .nil)) ?m7
      case m1 | m3 => exact fun _ _ => rfl
      case m2 => walk_at "x"
      case m4 => walk_at "k"
      case m5 => walk_at "l"
      case m6 => walk_at "x"
      case m7 => exact Nat.le_of_ble_eq_true rfl
  have hkn := kinds_is hw fk.w
  walk_at "t"
  case s1 =>
    with_reducible refine' Step.assignDict (ρ' := EB cs h ls fs [("singles", .own (sglD fs pc)), ("doubles", .own (dblD fs pc)), ("stock", .own (stockD ls fs pc)), ("kinds", .own (.dict (dk ((kndL ls).map fun y => (y, PyData.int 0)))))]) (fun x : It => .tuple [.str (pieceS (pc x)), .str (foldI ls fs x)]) (foldI ls fs) (fun _ => .int 0) (xs := stockI fs) ?k1 ?k2 ?k3 ?k4 ?k5 ?k6 ?k7 ?k8
    case k1 => walk_at "k"
    case k2 => walk_at "x"
    case k3 => walk_at "x"
    case k4 => exact fun _ _ => rfl
    case k5 =>
      intro x _
      refine ⟨[("fold", .own (.str (foldI ls fs x))), ("piece", .own (.str (pieceS (pc x))))], BindTo.pairNew (by walk_at "x") (by walk_at "x") (by walk_at "x") (by walk_at "x") (by decide), fun p hp => (by cases hp), ?_, ?_⟩
      · walk_at "x"
      · walk_at "x"
    case k6 => walk_at "l"
    case k7 => walk_at "x"
    case k8 => rw [hkn]; walk_at "x"
  refine' ExTo.perm ?q1 ?q2 next
  case q1 => walk_at "x"
  case q2 => dsimp only [EA, List.map]; decide +kernel
end
noncomputable def rowD (fs : List Nat) (pc : It → List Nat) (r : List It) : PyData := .tuple [.str (pieceS (txtN pc r)), .int ((pairsI fs r : Nat) : Int)]
noncomputable def rowsD (fs : List Nat) (pc : It → List Nat) (p : Nat) : PyData := .list ((rowsAt fs p).map (rowD fs pc))
noncomputable def wordB5 (_ : Nat) (ls : List Nat) : Bool := (List.range (ls.length + 1)).all (fun p => decide ((Txt.slice (wordS ls) (some (p : Int)) none).length ≤ 10) && decide ((Txt.slice (wordS ls) none (some (p : Int))).length ≤ 10)) && (kndL ls).all fun f => decide (f.length ≤ 2)
theorem word_b5 {h : Nat} {ls : List Nat} (w : IsWord h ls) : wordB5 h ls = true := word_all (by decide +kernel) w
structure WordOk (ls : List Nat) : Prop where
  cut : ∀ p, p ≤ ls.length → (Txt.slice (wordS ls) (some (p : Int)) none).length ≤ 10 ∧ (Txt.slice (wordS ls) none (some (p : Int))).length ≤ 10
  knd : ∀ f, f ∈ kndL ls → f.length ≤ 2
  fits : ∀ p, p < ls.length → (kndL ls).filter (fun f => ell (f ++ dots) (Txt.slice (wordS ls) (some (p : Int)) none)) = fitL ls p
  ends : ∀ p, p < ls.length → (kndL ls).filter (fun f => (endL ls (p + 1)).contains f) = (kndL ls).filter (fun f => ell (dots ++ f) (Txt.slice (wordS ls) none (some ((p + 1 : Nat) : Int))))
  one : ∀ p, p < ls.length → ∀ p', p' < ls.length → (fitL ls p).contains (Mine.one (ls.getD p' 0)) = decide (p' = p) ∧ (endL ls (p + 1)).contains (Mine.one (ls.getD p' 0)) = decide (p' + 1 = p + 1)
  two : ∀ p, p < ls.length → ∀ p', p' < ls.length - 1 → (fitL ls p).contains (pairS (ls.getD p' 0) (ls.getD (p' + 1) 0)) = decide (p' = p) ∧ (endL ls (p + 1)).contains (pairS (ls.getD p' 0) (ls.getD (p' + 1) 0)) = decide (p' + 2 = p + 1)
theorem word_ok {h : Nat} {ls : List Nat} (w : IsWord h ls) : WordOk ls := by
  have b2 := word_b2 w
  have b3 := word_b3 w
  have b4 := word_b4 w
  have b5 := word_b5 w
  unfold wordB2 at b2
  unfold wordB3 at b3
  unfold wordB4 at b4
  unfold wordB5 at b5
  simp only [List.all_eq_true, List.mem_range, Bool.and_eq_true, decide_eq_true_eq, beq_iff_eq] at b2 b3 b4 b5
  exact ⟨fun p hp => b5.1 p (by walk_at "l"), b5.2, b2, b3, fun p hp => (b4 p hp).1, fun p hp => (b4 p hp).2⟩
theorem fit_fold {ls fs : List Nat} (W : WordOk ls) (hl : fs.length = ls.length) {p : Nat} (hp : p < ls.length) {x : It} (hx : x ∈ stockI fs) : (fitL ls p).contains (foldI ls fs x) = decide (x.1 = p) := by
  obtain ⟨h1, h2⟩ := mem_stock.mp hx
  unfold foldI
  cases e : isD fs x with
  | false => exact (W.one p hp x.1 (by walk_at "l")).1
  | true =>
    exact (W.two p hp x.1 (Nat.lt_sub_of_add_lt (hl ▸ isD_next hx e))).1
theorem end_fold {ls fs : List Nat} (W : WordOk ls) (hl : fs.length = ls.length) {p : Nat} (hp : p < ls.length) {x : It} (hx : x ∈ stockI fs) : (endL ls (p + 1)).contains (foldI ls fs x) = (x.1 + lenI fs x == p + 1) := by
  obtain ⟨h1, h2⟩ := mem_stock.mp hx
  unfold foldI lenI
  cases e : isD fs x with
  | false =>
    simp only [Bool.false_eq_true, if_false]
    rw [(W.one p hp x.1 (by walk_at "l")).2, Bool.eq_iff_iff, decide_eq_true_iff, beq_iff_eq]
  | true =>
    have := isD_t e
    simp only [if_true]
    rw [(W.two p hp x.1 (Nat.lt_sub_of_add_lt (hl ▸ isD_next hx e))).2, Bool.eq_iff_iff, decide_eq_true_iff, beq_iff_eq]
theorem pairs_cons (fs : List Nat) (x : It) (r : List It) : pairsI fs (x :: r) = pairsI fs r + lenI fs x - 1 := by
  unfold pairsI lenI
  cases e : isD fs x with
  | false => rw [List.filter_cons_of_neg (by rw [e]; decide)]; simp
  | true => rw [List.filter_cons_of_pos e]; simp
theorem rows_step {h : Nat} {fs : List Nat} (fk : FsOk h fs) {p : Nat} (hp : p < fs.length) : (stockI fs).flatMap (fun x => if x.1 = p then (rowsAt fs (p + lenI fs x)).map (fun r => x :: r) else []) = rowsAt fs p := by
  have b := fs_all (P := fun _ fs => numB fs) num_b fk.hh fk.w
  unfold numB at b
  simp only [List.all_eq_true, List.mem_range, decide_eq_true_eq] at b
  exact b p hp
theorem rows_stepL {h : Nat} {ls fs : List Nat} (W : WordOk ls) (hl : fs.length = ls.length) (fk : FsOk h fs) (pc : It → List Nat) {p : Nat} (hp : p < fs.length) :
    (stockI fs).flatMap (two (fun (x : It) (r : List It) => rowD fs pc (x :: r)) (fun x => rowsAt fs (p + lenI fs x)) (fun x => (fitL ls p).contains (foldI ls fs x)) (fun _ _ => true)) = (rowsAt fs p).map (rowD fs pc) := by
  rw [← rows_step fk hp, flatMap_map']
  refine flatMap_congr' fun x hx => ?_
  unfold two
  have hb := fit_fold W hl (show p < ls.length by walk_at "l") hx
  by_cases e : x.1 = p
  · rw [if_pos (hb.trans (decide_eq_true e)), if_pos e, List.filter_eq_self.mpr fun _ _ => rfl, List.map_map]; rfl
  · rw [if_neg fun q => e (of_decide_eq_true (hb.symm.trans q)), if_neg e]; rfl
theorem knd_len {ls : List Nat} (h : ls.length ≤ 4) : (kndL ls).length ≤ 8 := by
  unfold kndL
  rw [List.length_append, List.length_map, List.length_map, List.length_range]
  exact Nat.add_le_add h (Nat.le_trans (Nat.sub_le _ _) h)
theorem rows_small {h : Nat} {fs : List Nat} (fk : FsOk h fs) (p : Nat) {r : List It} (hr : r ∈ rowsAt fs p) : r.length ≤ 4 ∧ ∀ x, x ∈ r → x ∈ stockI fs := by
  rcases Nat.le_total p fs.length with hp | hp
  · have := (fk.rows p hp).2.2 r hr
    exact ⟨this.1, fun x hx => (this.2.2 x hx).1⟩
  · have e : rowsAt fs p = rowsAt fs fs.length := by unfold rowsAt; rw [Nat.sub_self, Nat.sub_eq_zero_of_le hp]
    rw [e] at hr
    have := (fk.rows fs.length (Nat.le_refl _)).2.2 r hr
    exact ⟨this.1, fun x hx => (this.2.2 x hx).1⟩
theorem range_down : ∀ h : Nat, h < 4 → rangeL (h : Int) (-1) (-1) = (List.range (1 + h)).map fun i : Nat => ((h - i : Nat) : Int) := by decide +kernel
theorem small_down : ∀ h : Nat, h < 4 → Builtin.Range.small (h : Int) (-1) (-1) = true := by decide +kernel
section
variable {prog : Program} {w : World} {G : Gl prog w} {k : Nat}
theorem law_b (hG : Glo G) (hk : 27 ≤ k) (Fe : FnOk G "_ellipsis_match" 1 elRel) {cs : List Nat} {h : Nat} {ls fs : List Nat} {pc : It → List Nat} {sg : It → Nat} (hw : IsWord h ls) (lk : LsOk h ls) (fk : FsOk h fs) (pk : PcOk fs pc sg) {P : Out → Prop}
    (next : ExTo G k (fnScope PP iLaw) (EA cs h ls fs pc [("rows", .own (.list ((List.range (fs.length + 1)).map (rowsD fs pc))))]) (lawA.drop 12) P) :
    ExTo G k (fnScope PP iLaw) (EA cs h ls fs pc []) (lawA.drop 10) P := by
  have hlid : lid = 1048576 := rfl
  have W := word_ok hw
  have hlen : fs.length = ls.length := by rw [fk.len, lk.len]
  have hm := fk.len
  have hh4 := fk.hh
  have hsl := stock_len (fs := fs) (by walk_at "l") fun f hf => (fk.two f hf).2
  refine ExTo.body (ss' := [_, _, _, _, _, _, _, _, _, _, _]) rfl ?_
  walk_at "t"
  case s1 =>
    with_reducible refine' Step.assignIt (b := .mu ((List.range 1).map fun j => rowsD fs pc (fs.length + j))) ?k1 ?k2 ?k3 ?k4
    case k2 => walk_at "x"
    case k3 => walk_at "x"
    case k4 => exact fun _ => rfl
    case k1 =>
      have e : (List.range 1).map (fun j => rowsD fs pc (fs.length + j)) = [.list [.tuple [.str "", .int ((0 : Nat) : Int)]]] := by
        simp [rowsD, rowsAt, rowsN, rowD, txtN, pairsI, pieceS]
        rfl
      rw [e]
      with_reducible refine' EvIt.list (.cons ?m1 (EvTo.list (.cons ?m2 (EvTo.tuple (ds := [_, _]) (.cons ?m3 ?m4 (.cons ?m5 ?m6 .nil)) ?m7) .nil) ?m8) .nil) ?m9
      case m1 | m2 | m3 | m5 => exact fun _ _ => rfl
      case m4 => exact EvTo.strC
      case m6 => walk_at "n"
      case m7 | m8 | m9 => exact Nat.le_of_ble_eq_true rfl
  have hrange : (List.range (1 + h)).map (fun i : Nat => PyData.int ((h - i : Nat) : Int)) = (rangeL ((1 + h - 1 : Nat) : Int) (-1) (-1)).map .int := by
    rw [show 1 + h - 1 = h by walk_at "l", range_down h hh4, List.map_map]; rfl
  with_reducible refine' ExTo.for (α := Nat) (f := fun i : Nat => .int ((h - i : Nat) : Int)) (xs := List.range (1 + h)) (Iv := fun _ => True)
                      (R := fun i => EA cs h ls fs pc [("rows", .mu ((List.range (i + 1)).map fun j => rowsD fs pc (fs.length - i + j)))])
                      (ρb := fun i y => EA cs h ls fs pc [("rows", .mu ((List.range (i + 1)).map fun j => rowsD fs pc (fs.length - i + j))), ("place", .own (.int ((h - y : Nat) : Int)))])
                      ?l1 ?l2 ?l3 trivial ?l5 ?l6 ?l7
  case l1 =>
    rw [hrange]
    with_reducible refine' ItTo.range3 ?k1 ?k2 ?k3 (EvTo.subN ?m1 ?m2 ?m3) ?m4 ?m5 ?k4 ?k5 ?k6 ?k7 ?k8 ?k9
    case k1 => walk_at "k"
    case k2 => exact (Glo.range hG).1
    case k3 => exact (Glo.range hG).2
    case m1 | m2 => walk_at "n"
    case m3 => walk_at "l"
    case m4 | m5 => exact EvTo.neg EvTo.intC
    case k4 | k5 | k6 => exact fun _ _ => rfl
    case k7 => decide
    case k8 => decide
    case k9 => rw [show 1 + h - 1 = h by walk_at "l"]; exact small_down h hh4
  case l2 => exact fun _ _ => rfl
  case l3 => exact Wkn.refl _
  case l5 => intro i y hy _; walk_at "x"
  case l7 =>
    intro _
    rw [List.length_range]
    have e : (List.range (1 + h + 1)).map (fun j => rowsD fs pc (fs.length - (1 + h) + j)) = (List.range (fs.length + 1)).map (rowsD fs pc) := by
      rw [hm, Nat.sub_self]; simp
    rw [e]
    with_reducible refine' ExTo.freeze (x := "rows") (ds := (List.range (fs.length + 1)).map (rowsD fs pc)) ?m1 ?m2 next
    case m1 => walk_at "x"
    case m2 => walk_at "x"
  case l6 =>
    intro i y hy _
    have hyi : y = i := by
      have hi : i < 1 + h := by have := (List.getElem?_eq_some_iff.mp hy).1; simpa using this
      rw [List.getElem?_range hi] at hy
      exact (Option.some.inj hy).symm
    have hi : i < 1 + h := by have := (List.getElem?_eq_some_iff.mp hy).1; simpa using this
    subst hyi
    obtain ⟨p, hyp⟩ : ∃ p, h = y + p := Nat.exists_eq_add_of_le (Nat.le_of_lt_succ (by rw [Nat.add_comm] at hi; exact hi))
    have hly : fs.length - y = p + 1 := sub_is (by walk_at "l")
    have hly2 : fs.length - (y + 1) = p := sub_is (by walk_at "l")
    have hpm : p < fs.length := by walk_at "l"
    have hm4 : fs.length ≤ 4 := by walk_at "l"
    have hpl : p < ls.length := hlen ▸ hpm
    rw [sub_is hyp, hly]
    have hfit := W.fits p hpl
    have hcut := (W.cut p (Nat.le_of_lt hpl)).1
    have hwl : (wordS ls).length ≤ 4 := by rw [wordS_len]; walk_at "l"
    have hsz : sizeLine ≥ 1000 := by decide
    have hkl := knd_len (ls := ls) (hlen ▸ hm4)
    walk_at "t"
    case s1 =>
      with_reducible refine' Step.cmpIfN (ρ' := EA cs h ls fs pc [("rows", .mu ((List.range (y + 1)).map fun j => rowsD fs pc (p + 1 + j))), ("place", .own (.int ((p : Nat) : Int))), ("fits", .own (strsL (fitL ls p)))]) (f := PyData.str) (g := PyData.str) (xs := kndL ls) (b := fun f => ell (f ++ dots) (Txt.slice (wordS ls) (some (p : Int)) none)) ?k1 ?k2 ?k3 ?k4 ?k5 ?k6 ?k7 ?k8 ?k9 ?k10 ?k11
      case k1 => walk_at "k"
      case k2 => walk_at "x"
      case k3 =>
        have e : (kndL ls).map PyData.str = (dk ((kndL ls).map fun y => (y, PyData.int 0))).map (·.1) := by
          unfold dk; rw [List.map_map, List.map_map]; rfl
        rw [e]
        walk_at "x"
      case k4 => exact fun _ _ => rfl
      case k5 => walk_at "x"
      case k6 => walk_at "x"
      case k7 =>
        intro f hf
        have hf2 := W.knd f hf
        with_reducible refine' TrTo.cast (TrTo.cmp (EvTo.user Fe ?m1 ?m2 (.cons ?m3 (EvTo.cat ?m4 ?m5 ?m6) (.cons ?m7 (EvTo.sliceX ?m8 (.some ?m9) .none ?n1) .nil)) ⟨_, _, rfl, ?n2, rfl⟩) EvTo.boolC CmpOk.isB ?n3) ?n4
        case m1 => walk_at "k"
        case m2 => walk_at "l"
        case m3 | m7 => exact fun _ _ => rfl
        case m4 => walk_at "x"
        case m5 => walk_at "x"
        case m6 =>
          rw [show ("..." : Str).length = 3 from by decide +kernel]; walk_at "l"
        case m8 => walk_at "x"
        case m9 => walk_at "n"
        case n1 => walk_at "l"
        case n2 =>
          refine ell_ok ?_ (by walk_at "l")
          rw [Str.length_append, show ("..." : Str).length = 3 from by decide +kernel]; walk_at "l"
        case n3 => rfl
        case n4 => exact beq_true _
      case k8 => intro f hf _; walk_at "x"
      case k9 => walk_at "l"
      case k10 => walk_at "x"
      case k11 => rw [hfit]; walk_at "x"
    walk_at "t"
    case s1 =>
      with_reducible refine' Step.insert0 (ρ' := EA cs h ls fs pc [("rows", .mu (rowsD fs pc p :: (List.range (y + 1)).map fun j => rowsD fs pc (p + 1 + j))), ("place", .own (.int ((p : Nat) : Int))), ("fits", .own (strsL (fitL ls p)))]) (d := rowsD fs pc p) ?k1 ?k2 ?k3 ?k4 ?k5 ?k6 ?k7 ?k8
      case k1 => walk_at "x"
      case k2 => exact EvTo.intC
      case k4 => exact fun _ _ => rfl
      case k5 => exact fun _ _ => rfl
      case k6 => rfl
      case k7 => walk_at "x"
      case k8 => rw [List.length_map, List.length_range]; walk_at "l"
      case k3 =>
        show EvTo _ _ _ _ _ (.list ((rowsAt fs p).map (rowD fs pc)))
        rw [← rows_stepL W hlen fk pc hpm]
        with_reducible refine' EvTo.comp2 (f := fun x : It => .tuple [.str (pieceS (pc x)), .str (foldI ls fs x)]) (xs := stockI fs) (ρc := [("rows", .mu ((List.range (y + 1)).map fun j => rowsD fs pc (p + 1 + j))), ("fits", .own (strsL (fitL ls p)))]) ?m1 ?m2 ?m3 ?m4
                              (turn_two (g := rowD fs pc) (ρ1 := fun x => ("fold", .own (.str (foldI ls fs x))) :: ("piece", .own (.str (pieceS (pc x)))) :: [("rows", .mu ((List.range (y + 1)).map fun j => rowsD fs pc (p + 1 + j))), ("fits", .own (strsL (fitL ls p)))])
                                (ρ2 := fun x r => ("pairs", .own (.int ((pairsI fs r : Nat) : Int))) :: ("text", .own (.str (pieceS (txtN pc r)))) :: ("fold", .own (.str (foldI ls fs x))) :: ("piece", .own (.str (pieceS (pc x)))) :: [("rows", .mu ((List.range (y + 1)).map fun j => rowsD fs pc (p + 1 + j))), ("fits", .own (strsL (fitL ls p)))]) ?t1 ?t2 ?t3 ?t4 ?t5 ?t6 ?t7 ?t8 ?t9) ?m5
        case m1 => walk_at "k"
        case m2 => walk_at "x"
        case m3 => walk_at "x"
        case m4 => exact fun _ _ => rfl
        case m5 => rw [rows_stepL W hlen fk pc hpm, List.length_map]; have := (fk.rows p (Nat.le_of_lt hpm)).2.1; walk_at "l"
        case t1 => intro x _; exact BindTo.pairNew (by walk_at "x") (by walk_at "x") (by walk_at "x") (by walk_at "x") (by decide)
        case t2 => intro x p hp; exact List.mem_cons_of_mem _ (List.mem_cons_of_mem _ hp)
        case t3 =>
          intro x hx
          refine .one ?_
          with_reducible refine' TrTo.cmp ?n1 ?n2 CmpOk.inStrs ?n3
          case n1 => walk_at "x"
          case n2 => walk_at "x"
          case n3 => rfl
        case t4 =>
          intro x hx hb
          have hxp : x.1 = p := by
            rw [fit_fold W hlen hpl hx] at hb; exact of_decide_eq_true hb
          have hl2 : lenI fs x = 1 ∨ (lenI fs x = 2 ∧ p + 1 < fs.length) := by
            unfold lenI
            cases e : isD fs x with
            | false => exact .inl rfl
            | true =>
              exact .inr ⟨rfl, hxp ▸ isD_next hx e⟩
          have hget : ((List.range (y + 1)).map fun j => rowsD fs pc (p + 1 + j))[lenI fs x - 1]? = some (rowsD fs pc (p + lenI fs x)) := by
            have e6 : p + 1 + (lenI fs x - 1) = p + lenI fs x := by rcases hl2 with q | ⟨q, _⟩ <;> rw [q]
            rw [List.getElem?_map, List.getElem?_range (by rcases hl2 with q | ⟨q, _⟩ <;> rw [q] <;> walk_at "l"), Option.map_some, e6]
          with_reducible refine' ItTo.list (EvTo.item (n := ((lenI fs x - 1 : Nat) : Int)) ?n1 ?n2 ?n3 ?n4 ?n5)
          case n1 => walk_at "x"
          case n2 =>
            rw [← fold_len (ls := ls) (fs := fs) x]
            with_reducible refine' EvTo.subN (EvTo.lenS ?o1 ?o2 ?o3 ?o4 ?o5 ?o6) ?o7 ?o8
            case o1 => walk_at "k"
            case o2 => exact (Glo.len hG).1
            case o3 => exact (Glo.len hG).2
            case o4 => walk_at "x"
            case o5 => exact fun _ _ => rfl
            case o6 => rw [fold_len]; walk_at "l"
            case o7 => walk_at "n"
            case o8 => rw [fold_len]; walk_at "l"
          case n3 => walk_at "l"
          case n4 => rw [Int.toNat_natCast]; exact hget
          case n5 => exact fun _ _ => rfl
        case t5 => exact fun _ _ => rfl
        case t6 => intro x hx _ r _; exact BindTo.pairNew (by walk_at "x") (by walk_at "x") (by walk_at "x") (by walk_at "x") (by decide)
        case t7 => intro x r p hp; exact List.mem_cons_of_mem _ (List.mem_cons_of_mem _ hp)
        case t8 => intro x _ _ r _; exact .nil
        case t9 =>
          intro x hx hb r hr _
          have hl2 : lenI fs x = 1 ∨ lenI fs x = 2 := by unfold lenI; split <;> simp
          have hr3 := rows_small fk (p + lenI fs x) hr
          have hpl := pc_len pk hx
          have htl := (txt_len pk hr3.2).2
          have hr4 := hr3.1
          have hp2 := hpl.2
          show EvTo _ _ _ _ _ (.tuple [.str (pieceS (pc x ++ txtN pc r)), .int ((pairsI fs (x :: r) : Nat) : Int)])
          rw [pairs_cons, ← pieceS_cat]
          with_reducible refine' EvTo.tuple (ds := [_, _]) (.cons ?n1 (EvTo.cat ?n2 ?n3 ?n4) (.cons ?n5 (EvTo.subN (EvTo.addN ?n6 ?n7) ?n8 ?n9) .nil)) ?o9
          case n1 | n5 => exact fun _ _ => rfl
          case n2 => walk_at "x"
          case n3 => walk_at "x"
          case n4 => rw [pieceS_len, pieceS_len]; exact Nat.le_trans (show _ ≤ 1000 by walk_at "l") hsz
          case n6 => walk_at "n"
          case n7 =>
            rw [← fold_len (ls := ls) (fs := fs) x]
            with_reducible refine' EvTo.lenS ?o1 ?o2 ?o3 ?o4 ?o5 ?o6
            case o1 => walk_at "k"
            case o2 => exact (Glo.len hG).1
            case o3 => exact (Glo.len hG).2
            case o4 => walk_at "x"
            case o5 => exact fun _ _ => rfl
            case o6 => rw [fold_len]; walk_at "l"
          case n8 => walk_at "n"
          case n9 => walk_at "l"
          case o9 => exact Nat.le_of_ble_eq_true rfl
    refine' ExTo.nil ⟨?_, trivial⟩
    have e : (List.range (y + 1 + 1)).map (fun j => rowsD fs pc (fs.length - (y + 1) + j)) = rowsD fs pc p :: (List.range (y + 1)).map fun j => rowsD fs pc (p + 1 + j) := by
      rw [hly2, List.range_succ_eq_map, List.map_cons, List.map_map]
      congr 1
      refine List.map_congr_left fun j _ => ?_
      show rowsD fs pc (p + (j + 1)) = _
      rw [Nat.add_right_comm]; rfl
    rw [e]
    walk_at "x"
end
section
noncomputable def wholeN (n : Nat) (fs : List Nat) (p : Nat) : Nat := undig n (cntL fs p)
noncomputable def sideI (c d : Nat) : Int := ((1 : Nat) : Int) - ((c / d % 2 * 2 : Nat) : Int)
theorem side_or (c d : Nat) : sideI c d = 1 ∨ sideI c d = -1 := by unfold sideI; walk_at "l"
noncomputable abbrev rowsB (fs : List Nat) (pc : It → List Nat) : B := .own (.list ((List.range (fs.length + 1)).map (rowsD fs pc)))
noncomputable abbrev EC (cs : List Nat) (h : Nat) (ls fs : List Nat) (pc : It → List Nat) (n : Nat) (L R : Int) (i : Nat) (more : VEnv) : VEnv :=
  EA cs h ls fs pc (("rows", rowsB fs pc) :: ("width", .own (.int (n : Int))) :: ("base", .own (.int ((2 ^ n : Nat) : Int))) :: ("left", .own (.int L)) :: ("right", .own (.int R)) ::
    ("whole", .mu (natL ((List.range i).map (wholeN n fs)))) :: ("sums", .mu (natL ((List.range i).map (sumN fs)))) :: ("gaps", .mu (natL ((List.range i).map (gapN fs)))) :: more)
noncomputable def ecN : List Str := eaN ++ (["rows", "width", "base", "left", "right", "whole", "sums", "gaps"] : List Str)
theorem EC_mem {cs : List Nat} {h n i : Nat} {ls fs : List Nat} {pc : It → List Nat} {L R : Int} {more : VEnv} {y : Str} {b : B} (hn : ecN.contains y = false) (hp : (y, b) ∈ more) : (y, b) ∈ EC cs h ls fs pc n L R i more := List.mem_append_right (EC cs h ls fs pc n L R i []) hp
theorem EC_upd {cs : List Nat} {h n i : Nat} {ls fs : List Nat} {pc : It → List Nat} {L R : Int} {more more' : VEnv} {y : Str} {b : B} (hn : ecN.contains y = false) (hu : Upd y b more more') : Upd y b (EC cs h ls fs pc n L R i more) (EC cs h ls fs pc n L R i more') := upd_pre (pre := EC cs h ls fs pc n L R i []) hu hn
local macro_rules | `(tactic| walk_at "x") => `(tactic| first
  | ((with_reducible refine EC_mem ?_ ?_); (· kernel_rfl!); (· walk_at "x"))
  | ((with_reducible refine EC_upd ?_ ?_); (· kernel_rfl!); (· walk_at "x")))
theorem mul_ok {a b : Nat} (ha : a < 2 ^ 1000) (hb : b < 2 ^ 1000) : IntMulOk (a : Int) (b : Int) := IntMulOk.of_bits (Nat.le_trans (intBits_le ha) (by decide)) (Nat.le_trans (intBits_le hb) (by decide))
theorem bits_abs {x : Int} {m : Nat} (h : x.natAbs < 2 ^ m) : Builtin.Int.intBits x ≤ m := by
  rcases Int.natAbs_eq x with e | e
  · rw [e]; exact intBits_le h
  · have h1 : Builtin.Int.intBits x = Builtin.Int.intBits ((x.natAbs : Nat) : Int) := by
      unfold Builtin.Int.intBits
      by_cases h0 : x = 0
      · subst h0; rfl
      · have h2 : (x == 0) = false := by simp [h0]
        have h3 : (((x.natAbs : Nat) : Int) == 0) = false := by simp [h0]
        rw [h2, h3, Int.natAbs_natCast]
    rw [h1]; exact intBits_le h
theorem mul_okI {a b : Int} (ha : a.natAbs < 2 ^ 1000) (hb : b.natAbs < 2 ^ 1000) : IntMulOk a b := IntMulOk.of_bits (Nat.le_trans (bits_abs ha) (by decide)) (Nat.le_trans (bits_abs hb) (by decide))
theorem fdiv_abs (a d : Int) : (a.fdiv d).natAbs ≤ a.natAbs + 1 := by
  rw [Int.fdiv_eq_ediv]
  exact Nat.le_trans (Int.natAbs_sub_le _ _) (Nat.add_le_add (Int.natAbs_ediv_le_natAbs a d) (by split <;> decide))
structure CntOk (fs : List Nat) (p : Nat) : Prop where
  sum : (cntL fs p).sum = sumN fs p
  last : (cntL fs p).getLastD 0 ≠ 0
  len : (cntL fs p).length ≤ 3
  lt : ∀ c, c ∈ cntL fs p → c < 100
  gap : (gapN fs p : Int) = ((cntL fs p).getD 0 0 : Int) - ((cntL fs p).getD 1 0 : Int) + ((cntL fs p).getD 2 0 : Int)
  pos : 0 < gapN fs p
theorem cnt_ok {h : Nat} {fs : List Nat} (fk : FsOk h fs) {p : Nat} (hp : p ≤ fs.length) : CntOk fs p := by
  have b := fs_all (P := fun _ fs => numC fs) num_c fk.hh fk.w
  unfold numC at b
  simp only [List.all_eq_true, List.mem_range, decide_eq_true_eq, Bool.and_eq_true] at b
  obtain ⟨⟨h1, h2⟩, h3⟩ := b p (by walk_at "l")
  exact ⟨h1.1, h1.2.1, h1.2.2, h2, h3.1, h3.2⟩
theorem sum_le {h : Nat} {fs : List Nat} (fk : FsOk h fs) {p : Nat} (hp : p ≤ fs.length) : sumN fs p ≤ 100 := by
  unfold sumN; rw [if_pos hp]; exact (fk.rows p hp).2.1
theorem gap_le {h : Nat} {fs : List Nat} (fk : FsOk h fs) {p : Nat} (hp : p ≤ fs.length) : gapN fs p ≤ 100 := by
  unfold gapN; rw [if_pos hp]; exact Nat.le_trans (List.length_filter_le _ _) (fk.rows p hp).2.1
theorem pow_ge {n : Nat} (h : 8 ≤ n) : 256 ≤ 2 ^ n := Nat.le_trans (by decide) (Nat.pow_le_pow_right (show 0 < 2 by decide) h)
theorem pow_lt {n m : Nat} (h : n < m) : 2 ^ n < 2 ^ m := Nat.pow_lt_pow_right (by decide) h
theorem whole_lt {n : Nat} {fs : List Nat} {p : Nat} (ck : CntOk fs p) (hn : 8 ≤ n) (hn2 : n ≤ 67) : wholeN n fs p < 2 ^ 201 := by
  have h1 : pev (2 ^ n) (cntL fs p) < (2 ^ n) ^ (cntL fs p).length := pev_lt _ fun c hc => by have := ck.lt c hc; have := pow_ge hn; walk_at "l"
  unfold wholeN
  rw [pev_undig]
  refine Nat.lt_of_lt_of_le h1 ?_
  rw [← Nat.pow_mul]
  refine Nat.pow_le_pow_right (by decide) ?_
  have := Nat.mul_le_mul hn2 ck.len
  walk_at "l"
theorem big_is {x : Nat} (h : x < 2 ^ 1000) : x < big := Nat.lt_of_lt_of_le h (by unfold big; exact Nat.pow_le_pow_right (by decide) (by decide))
section
variable {prog : Program} {w : World} {G : Gl prog w} {k : Nat}
theorem law_c0 (hG : Glo G) (hk : 27 ≤ k) {cs : List Nat} {h c0 c6 : Nat} {ls fs : List Nat} {pc : It → List Nat} (e0 : cs[0]? = some c0) (e6 : cs[6]? = some c6) (b0 : c0 < 10 ^ 6) {P : Out → Prop}
    (next : ∀ n L R, 8 ≤ n → n ≤ 67 → (L = 1 ∨ L = -1) → (R = 1 ∨ R = -1) → ExTo G k (fnScope PP iLaw) (EC cs h ls fs pc n L R 0 []) (lawA.drop 16) P) :
    ExTo G k (fnScope PP iLaw) (EA cs h ls fs pc [("rows", rowsB fs pc)]) (lawA.drop 12) P := by
  refine ExTo.body (ss' := [_, _, _, _, _, _, _, _, _]) rfl ?_
  obtain ⟨n, hn, hn8, hn67⟩ : ∃ n, 8 + c6 % 60 = n ∧ 8 ≤ n ∧ n ≤ 67 := ⟨_, rfl, by walk_at "l", by have := Nat.mod_lt c6 (show 0 < 60 by decide); walk_at "l"⟩
  walk_at "t"
  case s1 =>
    with_reducible refine' Step.assign (d := .int ((8 + c6 % 60 : Nat) : Int)) (EvTo.addN ?m1 (EvTo.modN (EvTo.itemNat ?m2 ?m3 e6 ?m4) ?m5 ?m6)) ?k2 ?k3 ?k4
    case m1 | m3 | m5 => walk_at "n"
    case m2 => walk_at "x"
    case m4 => exact fun _ _ => rfl
    case m6 => decide
    case k2 => walk_at "x"
    case k3 => walk_at "x"
    case k4 => exact fun _ => rfl
  rw [hn]
  walk_at "t"
  case s1 =>
    with_reducible refine' Step.assign (d := .int ((2 ^ n : Nat) : Int)) (EvTo.powN ?m1 ?m2 ?m3) ?k2 ?k3 ?k4
    case m1 | m2 => walk_at "n"
    case m3 => rw [show Builtin.Int.intBits ((2 : Nat) : Int) = 2 from rfl]; walk_at "l"
    case k2 => walk_at "x"
    case k3 => walk_at "x"
    case k4 => exact fun _ => rfl
  walk_at "t"
  case s1 =>
    with_reducible refine' Step.tupSwN (ρ' := EA cs h ls fs pc [("rows", rowsB fs pc), ("width", .own (.int (n : Int))), ("base", .own (.int ((2 ^ n : Nat) : Int))), ("right", .own (.int (sideI c0 8))), ("left", .own (.int (sideI c0 4)))]) (bs := [.own (.int (sideI c0 4)), .own (.int (sideI c0 8))])
                          (.cons ?k1 (.own (EvTo.sub ?o1 (EvTo.mulN (EvTo.modN (EvTo.divN (EvTo.itemNat ?o2 ?o3 e0 ?o4) ?o5 ?o6 ?o7) ?o8 ?o9) ?p1 ?p2))) (.cons ?k2 (.own (EvTo.sub ?q1 (EvTo.mulN (EvTo.modN (EvTo.divN (EvTo.itemNat ?q2 ?q3 e0 ?q4) ?q5 ?q6 ?q7) ?q8 ?q9) ?r1 ?r2))) .nil)) ?k6 ?k7 ?k8 ?k9 ?k10
    case k1 | k2 => exact fun _ _ => rfl
    case o2 | q2 => walk_at "x"
    case o1 | o3 | o5 | o8 | p1 | q1 | q3 | q5 | q8 | r1 => walk_at "n"
    case o4 | q4 => exact fun _ _ => rfl
    case o6 | o9 | q6 | q9 => decide
    case o7 | q7 => walk_at "k"
    case p2 | r2 => exact small_mul (Nat.lt_of_lt_of_le (Nat.mod_lt _ (by decide)) (by decide)) (by decide)
    case k6 => walk_at "x"
    case k8 => walk_at "k"
    case k9 => rfl
    case k10 => exact Nat.le_of_ble_eq_true rfl
    case k7 =>
      dsimp only [List.reverse, List.reverseAux]
      walk_at "x"
  walk_at "t"
  case s1 =>
    with_reducible refine' Step.tupSwN (ρ' := EA cs h ls fs pc [("rows", rowsB fs pc), ("width", .own (.int (n : Int))), ("base", .own (.int ((2 ^ n : Nat) : Int))), ("right", .own (.int (sideI c0 8))), ("left", .own (.int (sideI c0 4))), ("gaps", .mu (natL ((List.range 0).map (gapN fs)))), ("sums", .mu (natL ((List.range 0).map (sumN fs)))), ("whole", .mu (natL ((List.range 0).map (wholeN n fs))))])
                          (bs := [.mu (natL ((List.range 0).map (wholeN n fs))), .mu (natL ((List.range 0).map (sumN fs))), .mu (natL ((List.range 0).map (gapN fs)))]) (.cons ?k1 ?e1 (.cons ?k2 ?e2 (.cons ?k3 ?e3 .nil))) ?k6 ?k7 ?k8 ?k9 ?k10
    case k1 | k2 | k3 => exact fun _ _ => rfl
    case e1 | e2 | e3 => exact EvIt.list (ds := []) .nil (Nat.zero_le _)
    case k6 => walk_at "x"
    case k8 => walk_at "k"
    case k9 => rfl
    case k10 => exact Nat.le_of_ble_eq_true rfl
    case k7 =>
      dsimp only [List.reverse, List.reverseAux]
      walk_at "x"
  refine' ExTo.perm ?q1 ?q2 (next n (sideI c0 4) (sideI c0 8) hn8 hn67 (side_or _ _) (side_or _ _))
  case q1 => walk_at "x"
  case q2 => dsimp only [EC, EA, List.map]; decide +kernel
end
noncomputable def forB : Option Stmt → List Stmt
  | some (.For _ _ b _ _) => b
  | _ => []
noncomputable abbrev bodyC : List Stmt := forB (fnBody PP iLaw)[16]?
theorem natL_succ (f : Nat → Nat) (i : Nat) : natL ((List.range i).map f) ++ [PyData.int ((f i : Nat) : Int)] = natL ((List.range (i + 1)).map f) := by
  unfold natL; rw [List.range_succ, List.map_append, List.map_append]; rfl
theorem range_get (f : Nat → Nat) {i j : Nat} (h : i < j) : ((List.range j).map f)[i]? = some (f i) := by rw [List.getElem?_map, List.getElem?_range h]; rfl
theorem fmod_abs {a d : Int} (hd : d ≠ 0) : (a.fmod d).natAbs ≤ d.natAbs := by
  rcases Int.lt_or_gt_of_ne hd with h | h
  · have h0 := Int.neg_pos_of_neg h
    rw [← (@fdiv_negs a d).2, Int.natAbs_neg, ← Int.natAbs_neg d]
    exact Nat.le_of_lt (Int.natAbs_lt_natAbs_of_nonneg_of_lt (Int.fmod_nonneg_of_pos (-a) h0) (Int.fmod_lt_of_pos (-a) h0))
  · exact Nat.le_of_lt (Int.natAbs_lt_natAbs_of_nonneg_of_lt (Int.fmod_nonneg_of_pos a h) (Int.fmod_lt_of_pos a h))
section
variable {prog : Program} {w : World} {G : Gl prog w} {k : Nat}
theorem rows_ev {sc : Scope} {ρ : VEnv} {fs : List Nat} {pc : It → List Nat} {p : Nat} {ei : Expr} {pp pos : Pos} (hp : p ≤ fs.length) (hr : (("rows" : Str), rowsB fs pc) ∈ ρ) (hi : EvTo G k sc ρ ei (.int (p : Int))) (hs : ∀ o i', subscripted ei false o i' = operate [o, i'] (getItem o i')) :
    EvTo G k sc ρ (.Subscript (.Name "rows" pp) ei pos) (rowsD fs pc p) := by
  refine EvTo.item (n := (p : Int)) (EvL.of (EvTo.var hr)) hi (Int.natCast_nonneg _) ?_ hs
  rw [Int.toNat_natCast, List.getElem?_map, List.getElem?_range (Nat.lt_succ_of_le hp)]; rfl
theorem law_c1 (hG : Glo G) (hk : 27 ≤ k) (Fi : FnOk G "_int2digits" 23 i2Rel) (Fd : FnOk G "_digits2int" 23 diRel) (Fid : FnOk G "int_divmod" 27 idRel) {cs : List Nat} {h n p : Nat} {L R : Int} {ls fs : List Nat} {pc : It → List Nat} (fk : FsOk h fs) (hn : 8 ≤ n) (hn2 : n ≤ 67) (hL : L = 1 ∨ L = -1) (hR : R = 1 ∨ R = -1) (hp : p ≤ fs.length) {P : Out → Prop}
    (next : ExTo G k (fnScope PP iLaw) (EC cs h ls fs pc n L R (p + 1) [("place", .own (.int (p : Int)))]) (bodyC.drop 9) P) :
    ExTo G k (fnScope PP iLaw) (EC cs h ls fs pc n L R p [("place", .own (.int (p : Int)))]) bodyC P := by
  have hlid : lid = 1048576 := rfl
  have hm := fk.len
  have hh4 := fk.hh
  have ck := cnt_ok fk hp
  have hbase := pow_ge hn
  have hcl : ∀ c, c ∈ cntL fs p → c < 2 ^ n := fun c hc => by have := ck.lt c hc; walk_at "l"
  have hW := whole_lt ck hn hn2
  have hb1000 : (2 : Nat) ^ 201 < 2 ^ 1000 := pow_lt (by decide)
  have hcn : (fs.length - p) / 2 + 1 ≤ 5 := Nat.succ_le_succ (Nat.le_trans (Nat.div_le_self _ _) (Nat.le_trans (Nat.sub_le _ _) (by walk_at "l")))
  have h1000 := hb1000
  have hbn : (2 : Nat) ^ n < 2 ^ 70 := pow_lt (by walk_at "l")
  have hb70 : (2 : Nat) ^ 70 < 2 ^ 999 := pow_lt (by decide)
  have hb999 : (2 : Nat) ^ 999 < 2 ^ 1000 := pow_lt (by decide)
  refine ExTo.body (ss' := [_, _, _, _, _, _, _, _, _, _, _, _]) rfl ?_
  walk_at "t"
  case s1 =>
    with_reducible refine' Step.cmpN (ρ' := EC cs h ls fs pc n L R p [("place", .own (.int (p : Int))), ("count", .own (.list (natL (cntL fs p))))]) (f := fun j : Nat => .int (j : Int)) (g := fun j : Nat => .int ((((rowsAt fs p).filter fun r => pairsI fs r == j).length : Nat) : Int)) (xs := List.range ((fs.length - p) / 2 + 1)) ?k1 ?k2 ?k3 ?k4 ?k5 ?k6 ?k7 ?k8 ?k9 ?k10
    case k1 => walk_at "k"
    case k2 => walk_at "x"
    case k3 =>
      with_reducible refine' ItTo.rangeN ?m1 ?m2 ?m3 (EvTo.addN (EvTo.divN (EvTo.cast (EvTo.subN ?m4 ?m5 ?m6) ?n1) ?m7 ?m8 ?m9) ?n2) ?n3 ?n4
      case m1 => walk_at "k"
      case m2 => exact (Glo.range hG).1
      case m3 => exact (Glo.range hG).2
      case m4 | m5 | m7 | n2 => walk_at "n"
      case m6 => walk_at "l"
      case m8 => decide
      case m9 => walk_at "k"
      case n1 => rw [hm]
      case n3 => exact fun _ _ => rfl
      case n4 => exact Nat.lt_of_le_of_lt hcn (by decide)
    case k4 => exact fun _ _ => rfl
    case k5 => walk_at "x"
    case k6 => walk_at "x"
    case k7 =>
      intro j hj
      rw [show ((rowsAt fs p).filter fun r => pairsI fs r == j).length = (((rowsAt fs p).filter fun r => pairsI fs r == j).map fun _ => PyData.int ((1 : Nat) : Int)).length by rw [List.length_map]]
      with_reducible refine' EvTo.lenL ?m1 ?m2 ?m3 (EvL.of ?m4) ?m5
      case m1 => walk_at "k"
      case m2 => exact (Glo.len hG).1
      case m3 => exact (Glo.len hG).2
      case m5 => exact fun _ _ => rfl
      case m4 =>
        with_reducible refine' EvTo.cmpIfP (f1 := fun r => .str (pieceS (txtN pc r))) (f2 := fun r => .int ((pairsI fs r : Nat) : Int)) (g := fun _ => .int ((1 : Nat) : Int)) (xs := rowsAt fs p) (b := fun r => pairsI fs r == j) ?n1 ?n2 ?n3 ?n4 ?n5 ?n6 ?n7 ?n8 ?n9 ?o1 ?o2 ?o3
        case n1 => walk_at "k"
        case n2 => walk_at "x"
        case n3 =>
          refine ItTo.list ?_
          refine rows_ev hp (by walk_at "x") (by walk_at "n") (fun _ _ => rfl)
        case n4 => exact fun _ _ => rfl
        case n5 | n6 | n7 | n8 => walk_at "x"
        case n9 => decide
        case o1 =>
          intro r _
          with_reducible refine' TrTo.cast (TrTo.eqN ?p1 ?p2 ?p3) ?p4
          case p1 | p2 => walk_at "n"
          case p3 => rfl
          case p4 => rw [Bool.eq_iff_iff, decide_eq_true_iff, beq_iff_eq]
        case o2 => intro r _ _; walk_at "n"
        case o3 => have := (fk.rows p hp).2.1; walk_at "l"
    case k8 => rw [List.length_range]; exact Nat.le_trans hcn (by decide)
    case k9 => walk_at "x"
    case k10 =>
      rw [show ((List.range ((fs.length - p) / 2 + 1)).map fun j : Nat => PyData.int ((((rowsAt fs p).filter fun r => pairsI fs r == j).length : Nat) : Int)) = natL (cntL fs p) by unfold natL cntL; rw [List.map_map]; rfl]
      walk_at "x"
  walk_at "t"
  case s1 =>
    with_reducible refine' Step.append (d := .int ((wholeN n fs p : Nat) : Int)) ?m1 (EvTo.user Fd ?n1 ?n2 (.cons ?n3 ?n6 (.cons ?n7 ?n8 .nil)) ⟨n, cntL fs p, rfl, hcl, ?n4, ?n5, rfl⟩) ?m3 ?m4 ?m5 ?m6
    case m1 => walk_at "x"
    case n1 => walk_at "k"
    case n2 => walk_at "l"
    case n3 | n7 => exact fun _ _ => rfl
    case n6 => show EvTo _ _ _ _ _ (.list (natL (cntL fs p))); walk_at "x"
    case n8 => walk_at "x"
    case n4 => exact Nat.le_trans ck.len (by decide)
    case n5 => have := Nat.mul_le_mul hn2 ck.len; walk_at "l"
    case m3 => exact fun _ _ => rfl
    case m4 => rfl
    case m5 => walk_at "x"
    case m6 => unfold natL; rw [List.length_map, List.length_map, List.length_range]; walk_at "l"
  rw [natL_succ (wholeN n fs)]
  have hWget : ((List.range (p + 1)).map (wholeN n fs))[p]? = some (wholeN n fs p) := range_get _ (Nat.lt_succ_self p)
  generalize hWL : (List.range (p + 1)).map (wholeN n fs) = WL at hWget ⊢
  generalize hWW : wholeN n fs p = W at hWget hW
  have hcnt : undig n (cntL fs p) = W := hWW
  have hWpos : 0 < W := by
    rw [← hcnt, pev_undig]
    exact Nat.lt_of_lt_of_le (Nat.pow_pos (by walk_at "l")) (pev_ge _ ck.last)
  have hbits : Builtin.Int.intBits (W : Int) ≤ 201 := intBits_le hW
  have hwev : ∀ {ρ : VEnv} {pw pi pos : Pos}, (("whole" : Str), B.mu (natL WL)) ∈ ρ → (("place" : Str), B.own (.int (p : Int))) ∈ ρ → EvTo G k (fnScope PP iLaw) ρ (.Subscript (.Name "whole" pw) (.Name "place" pi) pos) (.int (W : Int)) := fun h1 h2 =>
    EvTo.itemNat (EvL.mu h1) (EvTo.var h2) hWget (fun _ _ => rfl)
  with_reducible refine' ExTo.skipIf (TrTo.or_cons (b := false) ?k1 (fun _ => TrTo.or_cons (b := false) ?k2 (fun _ => TrTo.or_nil) ?k3) ?k4) ?k5
  case k3 | k4 => intro h; cases h
  case k1 =>
    with_reducible refine' TrTo.cmp (EvTo.cast (EvTo.user Fi ?n1 ?n2 (.cons ?n3 ?n4 (.cons ?n5 ?n6 .nil)) ⟨W, n, rfl, ?n7, ?n8, rfl⟩) (congrArg PyData.list (hcnt ▸ digs_back (by walk_at "l") hcl ck.last))) ?m2 CmpOk.neNats ?m3
    case n1 => walk_at "k"
    case n2 => walk_at "l"
    case n3 | n5 => exact fun _ _ => rfl
    case n4 => exact hwev (by walk_at "x") (by walk_at "x")
    case n6 => walk_at "x"
    case n7 => walk_at "l"
    case n8 => walk_at "l"
    case m2 => walk_at "x"
    case m3 => rfl
  case k2 =>
    with_reducible refine' TrTo.cmp (EvTo.cast (EvTo.user Fi ?n1 ?n2 (.cons ?n3 ?n4 (.cons ?n5 (EvTo.bitLen ?n6 ?o1 ?o2) .nil)) ⟨W, Builtin.Int.intBits (W : Int), rfl, ?n7, ?n8, rfl⟩) (congrArg PyData.list (digs_self hWpos))) (EvTo.list (ds := natL [W]) (.cons ?m1 ?m2 .nil) ?m4) CmpOk.neNats ?m3
    case n1 => walk_at "k"
    case n2 => walk_at "l"
    case n3 | n5 | m1 => exact fun _ _ => rfl
    case n4 => exact hwev (by walk_at "x") (by walk_at "x")
    case n6 => exact hwev (by walk_at "x") (by walk_at "x")
    case o1 => exact fun _ => rfl
    case o2 => rfl
    case n7 =>
      have := bits_two (x := W) (k := 0) (by rw [Nat.pow_zero]; exact hWpos)
      walk_at "l"
    case n8 => walk_at "l"
    case m2 => exact hwev (by walk_at "x") (by walk_at "x")
    case m3 => rfl
    case m4 => exact Nat.le_of_ble_eq_true rfl
  case k5 =>
  have hS := sum_le fk hp
  have hless : ((W : Nat) : Int).fmod ((2 ^ n - 1 : Nat) : Int) = ((sumN fs p : Nat) : Int) := by
    have := whole_less (b := 2 ^ n) hbase ck.len (by rw [ck.sum]; walk_at "l")
    rw [← pev_undig, hcnt, ck.sum] at this; exact this
  have hmodS : W % (2 ^ n - 1) = sumN fs p := by
    rw [fmodN] at hless; exact_mod_cast hless
  have hq1 : W / (2 ^ n - 1) ≤ W := Nat.div_le_self _ _
  have hdm : W / (2 ^ n - 1) * (2 ^ n - 1) + sumN fs p = W := by rw [← hmodS, Nat.mul_comm]; exact Nat.div_add_mod _ _
  walk_at "t"
  case s1 =>
    with_reducible refine' Step.assignT (EvTo.cast (EvTo.user Fid ?m4 ?m5 (.cons ?n1 ?n2 (.cons ?n3 (EvTo.subN ?n4 ?n5 ?n6) .nil)) ⟨((W : Nat) : Int), ((2 ^ n - 1 : Nat) : Int), rfl, ?n7, ?n8, ?n9, rfl⟩) (show _ = PyData.tuple [.int ((W / (2 ^ n - 1) : Nat) : Int), .int ((sumN fs p : Nat) : Int)] from ?m6)) ?k2 ?k3 ?k4
    case m4 => walk_at "k"
    case m5 => walk_at "l"
    case n1 | n3 => exact fun _ _ => rfl
    case n2 => exact hwev (by walk_at "x") (by walk_at "x")
    case n4 | n5 => walk_at "n"
    case n6 => walk_at "l"
    case n7 => walk_at "l"
    case n8 => rw [Int.natAbs_natCast]; exact big_is (by walk_at "l")
    case n9 => rw [Int.natAbs_natCast]; exact big_is (Nat.lt_of_le_of_lt (Nat.sub_le _ _) (by walk_at "l"))
    case m6 => rw [hless, fdivN]
    case k2 => walk_at "x"
    case k3 => exact fun _ => rfl
    case k4 => exact fun _ => rfl
  with_reducible refine' ExTo.skipIf (TrTo.or_cons (b := false) ?k1 (fun _ => TrTo.or_cons (b := false) ?k2 (fun _ => TrTo.or_nil) ?k3) ?k4) ?k5
  case k3 | k4 => intro h; cases h
  case k1 =>
    have hrl : sumN fs p = ((rowsAt fs p).map (rowD fs pc)).length := by unfold sumN; rw [if_pos hp, List.length_map]
    with_reducible refine' TrTo.cast (TrTo.cmp (a := .int ((sumN fs p : Nat) : Int)) ?m1 (EvTo.lenL ?m2 ?m3 ?m4 (EvL.of (ds := (rowsAt fs p).map (rowD fs pc)) ?m5) ?m6) CmpOk.neI ?m7) ?m8
    case m1 => walk_at "n"
    case m2 => walk_at "k"
    case m3 => exact (Glo.len hG).1
    case m4 => exact (Glo.len hG).2
    case m5 => exact rows_ev hp (by walk_at "x") (by walk_at "n") (fun _ _ => rfl)
    case m6 => exact fun _ _ => rfl
    case m7 => rfl
    case m8 => rw [← hrl]; simp
  case k2 =>
    with_reducible refine' TrTo.cast (TrTo.cmp (a := .int ((W / (2 ^ n - 1) * (2 ^ n - 1) + sumN fs p : Nat) : Int)) (EvTo.addN (EvTo.mulN ?m1 (EvTo.subN ?m2 ?m3 ?m4) ?m5) ?m6) ?m9 CmpOk.neI ?m7) ?m8
    case m1 | m2 | m3 | m6 => walk_at "n"
    case m4 => walk_at "l"
    case m5 => exact mul_ok (Nat.lt_of_le_of_lt hq1 (by walk_at "l")) (Nat.lt_of_le_of_lt (Nat.sub_le _ _) (by walk_at "l"))
    case m9 => exact hwev (by walk_at "x") (by walk_at "x")
    case m7 => rfl
    case m8 => rw [hdm]; simp
  case k5 =>
  walk_at "t"
  case s1 =>
    with_reducible refine' Step.append (d := .int ((sumN fs p : Nat) : Int)) ?m1 ?m2 ?m3 ?m4 ?m5 ?m6
    case m1 => walk_at "x"
    case m2 => walk_at "x"
    case m3 => exact fun _ _ => rfl
    case m4 => rfl
    case m5 => walk_at "x"
    case m6 => unfold natL; rw [List.length_map, List.length_map, List.length_range]; walk_at "l"
  rw [natL_succ (sumN fs)]
  have hL1 : L.natAbs = 1 := by rcases hL with rfl | rfl <;> rfl
  have hR1 : R.natAbs = 1 := by rcases hR with rfl | rfl <;> rfl
  have hLW : (L * (W : Int)).natAbs = W := by rw [Int.natAbs_mul, hL1, Nat.one_mul, Int.natAbs_natCast]
  have hRD : (R * ((2 ^ n + 1 : Nat) : Int)).natAbs = 2 ^ n + 1 := by rw [Int.natAbs_mul, hR1, Nat.one_mul, Int.natAbs_natCast]
  have hD0 : R * ((2 ^ n + 1 : Nat) : Int) ≠ 0 := fun e => by rw [e] at hRD; exact absurd hRD (Nat.succ_ne_zero _).symm
  have hgap := whole_more (b := 2 ^ n) hbase ck.len ck.gap ck.pos (by have := gap_le fk hp; walk_at "l") hL hR
  rw [← pev_undig, hcnt] at hgap
  have hq2 := fdiv_abs (L * (W : Int)) (R * ((2 ^ n + 1 : Nat) : Int))
  have hr2 := fmod_abs (a := L * (W : Int)) hD0
  have hdm2 := Int.mul_fdiv_add_fmod (L * (W : Int)) (R * ((2 ^ n + 1 : Nat) : Int))
  rw [hLW] at hq2
  rw [hRD] at hr2
  walk_at "t"
  case s1 =>
    with_reducible refine' Step.assignT (EvTo.user Fid ?m4 ?m5 (.cons ?n1 (EvTo.mul ?n2 ?o1 ?o2) (.cons ?n3 (EvTo.mul ?o3 (EvTo.addN ?n4 ?n5) ?o4) .nil)) ⟨L * (W : Int), R * ((2 ^ n + 1 : Nat) : Int), rfl, hD0, ?n8, ?n9, rfl⟩) ?k2 ?k3 ?k4
    case m4 => walk_at "k"
    case m5 => walk_at "l"
    case n1 | n3 => exact fun _ _ => rfl
    case n2 => walk_at "x"
    case o1 => exact hwev (by walk_at "x") (by walk_at "x")
    case o2 => exact mul_okI (by walk_at "l") (by rw [Int.natAbs_natCast]; walk_at "l")
    case o3 => walk_at "x"
    case n4 | n5 => walk_at "n"
    case o4 => exact mul_okI (by walk_at "l") (by rw [Int.natAbs_natCast]; walk_at "l")
    case n8 => rw [hLW]; exact big_is (by walk_at "l")
    case n9 => rw [hRD]; exact big_is (by walk_at "l")
    case k2 => walk_at "x"
    case k3 => exact fun _ => rfl
    case k4 => exact fun _ => rfl
  generalize (L * (W : Int)).fdiv (R * ((2 ^ n + 1 : Nat) : Int)) = q2 at *
  generalize (L * (W : Int)).fmod (R * ((2 ^ n + 1 : Nat) : Int)) = r2 at *
  have hb4 : (2 : Nat) ^ n * 2 ^ n < 2 ^ 140 := by rw [← Nat.pow_add]; exact pow_lt (by walk_at "l")
  have hb140 : (2 : Nat) ^ 140 < 2 ^ 999 := pow_lt (by decide)
  have hb201 : (2 : Nat) ^ 201 < 2 ^ 998 := pow_lt (by decide)
  have hb998 : (2 : Nat) ^ 998 < 2 ^ 999 := pow_lt (by decide)
  have hqR : (q2 * R).natAbs = q2.natAbs := by rw [Int.natAbs_mul, hR1, Nat.mul_one]
  with_reducible refine' ExTo.skipIf ?k1 ?k5
  case k1 =>
    with_reducible refine' TrTo.cast (TrTo.cmp (a := .int (q2 * R * ((2 ^ n + 1 : Nat) : Int) + r2)) (b := .int (L * (W : Int))) (EvTo.add (EvTo.mul (EvTo.mul ?m1 ?m2 ?m3) (EvTo.addN ?m4 ?m5) ?m6) ?m9) (EvTo.mul ?n1 ?n2 ?n3) CmpOk.neI ?m7) ?m8
    case m1 | m2 | m9 | n1 => walk_at "x"
    case m3 => exact mul_okI (by walk_at "l") (by walk_at "l")
    case m4 | m5 => walk_at "n"
    case m6 => exact mul_okI (by rw [hqR]; walk_at "l") (by rw [Int.natAbs_natCast]; walk_at "l")
    case n2 => exact hwev (by walk_at "x") (by walk_at "x")
    case n3 => exact mul_okI (by walk_at "l") (by rw [Int.natAbs_natCast]; walk_at "l")
    case m7 => rfl
    case m8 =>
      have : q2 * R * ((2 ^ n + 1 : Nat) : Int) + r2 = L * (W : Int) := by rw [← hdm2, Int.mul_assoc, Int.mul_comm q2]
      rw [this]; simp
  case k5 =>
  walk_at "t"
  case s1 =>
    with_reducible refine' Step.append (d := .int ((gapN fs p : Nat) : Int)) ?m1 (EvTo.cast (EvTo.iteB (t := L = R) ?c1 ?c2 ?c3) ?c4) ?m3 ?m4 ?m5 ?m6
    case m1 => walk_at "x"
    case c1 =>
      with_reducible refine' TrTo.cast (TrTo.cmp ?n1 ?n2 CmpOk.eqI ?n3) ?n4
      case n1 | n2 => walk_at "x"
      case n3 => rfl
      case n4 => rw [Bool.eq_iff_iff, beq_iff_eq, decide_eq_true_iff]
    case c2 =>
      intro _
      with_reducible refine' EvTo.mul ?n1 ?n2 ?n3
      case n1 | n2 => walk_at "x"
      case n3 => exact mul_okI (by walk_at "l") (by walk_at "l")
    case c3 =>
      intro _
      with_reducible refine' EvTo.sub (EvTo.addN ?n1 ?n2) (EvTo.mul ?n3 ?n4 ?n5)
      case n1 | n2 => walk_at "n"
      case n3 | n4 => walk_at "x"
      case n5 => exact mul_okI (by walk_at "l") (by walk_at "l")
    case c4 => rw [← hgap]; split <;> rfl
    case m3 => exact fun _ _ => rfl
    case m4 => rfl
    case m5 => walk_at "x"
    case m6 => unfold natL; rw [List.length_map, List.length_map, List.length_range]; walk_at "l"
  rw [natL_succ (gapN fs)]
  subst hWL
  refine' ExTo.perm ?q1 ?q2 next
  case q1 => walk_at "x"
  case q2 => dsimp only [EC, EA, List.map]; decide +kernel
end
noncomputable def bo (fs : List Nat) (p : Nat) (r : List It) : List Bool := (List.range (fs.length - 1 - p)).map fun i => adj (p + i, fs.getD (p + i) 0 - 1) (p + i + 1, 0) r
noncomputable def zeroRows (fs : List Nat) (p : Nat) : List (List It) := (rowsAt fs p).filter fun r => pairsI fs r == 0
theorem bo_no (fs : List Nat) (p : Nat) (r : List It) : (!(bo fs p r).contains true) = noAdj fs p r := by
  unfold bo noAdj
  rw [Bool.eq_iff_iff, Bool.not_eq_true', ← Bool.not_eq_true, List.contains_iff_mem, List.all_eq_true]
  constructor
  · intro h i hi
    cases e : adj (p + i, fs.getD (p + i) 0 - 1) (p + i + 1, 0) r with
    | false => rfl
    | true => exact absurd (List.mem_map.mpr ⟨i, hi, e⟩) h
  · intro h q
    obtain ⟨i, hi, e⟩ := List.mem_map.mp q
    have := h i hi
    rw [e] at this; cases this
theorem gap_is (fs : List Nat) {p : Nat} (hp : p ≤ fs.length) : ((zeroRows fs p).filter fun r => !(bo fs p r).contains true).length = gapN fs p := by
  unfold gapN zeroRows
  rw [if_pos hp, List.filter_filter]
  congr 2
  funext r
  rw [bo_no, Bool.and_comm]
theorem range_from (a b : Nat) : rangeL (a : Int) (b : Int) 1 = (List.range (b - a)).map fun i : Nat => ((a + i : Nat) : Int) := by
  unfold rangeL Builtin.Range.rangeSize
  simp only [show (1 : Int) > 0 by decide, if_true, Int.mul_one]
  have e : (if (a : Int) < b then ((b : Int) - a - 1) / 1 + 1 else 0).toNat = b - a := by split <;> walk_at "l"
  rw [e]
  refine List.map_congr_left fun i _ => ?_
  walk_at "l"
theorem small_from : ∀ a : Nat, a < 8 → ∀ b : Nat, b < 8 → Builtin.Range.small (a : Int) (b : Int) 1 = true := by decide +kernel
theorem two_none {α β : Type} (v : α → β → PyData) (ys : α → List β) : ∀ xs : List α, xs.flatMap (two v ys (fun _ => true) (fun _ _ => false)) = []
  | [] => rfl
  | x :: xs => by
    rw [List.flatMap_cons, two_none v ys xs]
    unfold two
    rw [if_pos rfl, List.filter_eq_nil_iff.mpr fun _ _ h => (by cases h)]; rfl
section
variable {prog : Program} {w : World} {G : Gl prog w} {k : Nat} {sc csc : Scope} {ρ ρ' ρc : VEnv}
theorem Step.cmpIfP {α : Type} {f1 f2 g : α → PyData} {elt iter c : Expr} {y z u : Str} {p q r tp pos spos : Pos} {cc : Nat} {xs : List α} {b : α → Bool}
    (hc : compOk sc csc = true) (hρ : Filt csc ρ ρc) (hit : ItTo G k sc ρ (.Tuple [.Name y p, .Name z q] cc tp) false iter (xs.map fun x => .tuple [f1 x, f2 x])) (hs : ∀ env x, foldedSetIterable iter env x = pure x)
    (hy : OwnName csc y) (hz : OwnName csc z) (hn : NotIn y ρc) (hm : NotIn z ρc) (hne : y ≠ z) (hp : ∀ x, x ∈ xs → TrTo G k csc ((z, .own (f2 x)) :: (y, .own (f1 x)) :: ρc) c (b x)) (he : ∀ x, x ∈ xs → b x = true → EvTo G k csc ((z, .own (f2 x)) :: (y, .own (f1 x)) :: ρc) elt (g x)) (hl : xs.length ≤ lid)
    (hw : OwnName sc u) (hu : Upd u (.own (.list ((xs.filter b).map g))) ρ ρ') :
    Step G k sc ρ (.Assign [.Name u r] (.ListComp elt [⟨.Tuple [.Name y p, .Name z q] cc tp, iter, [c], 0⟩] csc pos) spos) ρ' :=
  Step.assignComp (f := fun x => .tuple [f1 x, f2 x]) (o := fun x => if b x then [g x] else []) (b := .own (.list ((xs.filter b).map g))) (.inr (by rw [flatMap_if])) hc hρ hit hs
    (fun x hx => .if1 (.pairNew hy hz hn hm hne) (fun q h => List.mem_cons_of_mem _ (List.mem_cons_of_mem _ h)) (hp x hx) (he x hx)) (by rw [flatMap_if, List.length_map]; exact Nat.le_trans (List.length_filter_le _ _) hl) hw hu
end
section
variable {prog : Program} {w : World} {G : Gl prog w} {k : Nat}
theorem sgl_ev {sc : Scope} {ρ : VEnv} {fs : List Nat} {pc : It → List Nat} {p : Nat} {ei : Expr} {pp pos : Pos} (hp : p < fs.length) (hr : (("singles" : Str), B.own (sglD fs pc)) ∈ ρ) (hi : EvTo G k sc ρ ei (.int (p : Int))) (hs : ∀ o i', subscripted ei false o i' = operate [o, i'] (getItem o i')) :
    EvTo G k sc ρ (.Subscript (.Name "singles" pp) ei pos) (.list ((List.range (fs.getD p 0)).map fun q => .str (pieceS (pc (p, q))))) := by
  refine EvTo.item (n := (p : Int)) (EvL.of (EvTo.var hr)) hi (Int.natCast_nonneg _) ?_ hs
  rw [Int.toNat_natCast, List.getElem?_map, List.getElem?_range hp, Option.map_some]
  unfold strsL
  rw [List.map_map]; rfl
theorem first_ev {sc : Scope} {ρ : VEnv} {f : Nat} {g : Nat → Str} {e ei : Expr} {pos : Pos} (h0 : 0 < f) (he : EvTo G k sc ρ e (.list ((List.range f).map fun q => .str (g q)))) (hi : EvTo G k sc ρ ei (.int 0)) (hs : ∀ o i', subscripted ei false o i' = operate [o, i'] (getItem o i')) :
    EvTo G k sc ρ (.Subscript e ei pos) (.str (g 0)) := by
  refine EvTo.item (n := 0) (EvL.of he) hi (Int.le_refl _) ?_ hs
  show ((List.range f).map fun q => PyData.str (g q))[0]? = _
  rw [List.getElem?_map, List.getElem?_range h0]; rfl
theorem last_ev {sc : Scope} {ρ : VEnv} {f : Nat} {g : Nat → Str} {e ei : Expr} {pos : Pos} (h0 : 0 < f) (he : EvTo G k sc ρ e (.list ((List.range f).map fun q => .str (g q)))) (hi : EvTo G k sc ρ ei (.int (-1))) (hs : ∀ o i', subscripted ei false o i' = operate [o, i'] (getItem o i')) :
    EvTo G k sc ρ (.Subscript e ei pos) (.str (g (f - 1))) := by
  refine EvTo.itemN (n := -1) (EvL.of he) hi (by decide) (by simp; walk_at "l") ?_ hs
  rw [List.length_map, List.length_range, last_nat h0, List.getElem?_map, List.getElem?_range (sub1_lt h0)]; rfl
theorem law_c2 (hG : Glo G) (hk : 27 ≤ k) (Fe : FnOk G "_ellipsis_match" 1 elRel) {cs : List Nat} {h n p : Nat} {L R : Int} {ls fs : List Nat} {pc : It → List Nat} {sg : It → Nat} (fk : FsOk h fs) (pk : PcOk fs pc sg) (hp : p ≤ fs.length) :
    ExTo G k (fnScope PP iLaw) (EC cs h ls fs pc n L R (p + 1) [("place", .own (.int (p : Int)))]) (bodyC.drop 9) (fun o => ∃ ρ', o = .next ρ' ∧ Wkn ρ' (EC cs h ls fs pc n L R (p + 1) [])) := by
  have hlid : lid = 1048576 := rfl
  have hm := fk.len
  have hh4 := fk.hh
  have hsz : sizeLine ≥ 1000 := by decide
  have hrl := (fk.rows p hp).2.1
  have hzl : (zeroRows fs p).length ≤ 100 := Nat.le_trans (List.length_filter_le _ _) hrl
  have hm4 : fs.length ≤ 4 := by walk_at "l"
  refine ExTo.body (ss' := [_, _, _]) rfl ?_
  walk_at "t"
  case s1 =>
    with_reducible refine' Step.cmpIfP (ρ' := EC cs h ls fs pc n L R (p + 1) [("place", .own (.int (p : Int))), ("told", .own (.list ((zeroRows fs p).map fun r => .list ((bo fs p r).map .bool))))]) (f1 := fun r => .str (pieceS (txtN pc r))) (f2 := fun r => .int ((pairsI fs r : Nat) : Int)) (g := fun r => .list ((bo fs p r).map .bool)) (xs := rowsAt fs p) (b := fun r => pairsI fs r == 0) ?k1 ?k2 ?k3 ?k4 ?k5 ?k6 ?k7 ?k8 ?k9 ?m1 ?m2 ?m3 ?m4 ?m5
    case k1 => walk_at "k"
    case k2 => walk_at "x"
    case k3 =>
      refine ItTo.list ?_
      refine rows_ev hp (by walk_at "x") (by walk_at "n") (fun _ _ => rfl)
    case k4 => exact fun _ _ => rfl
    case k5 | k6 | k7 | k8 => walk_at "x"
    case k9 => decide
    case m1 =>
      intro r _
      with_reducible refine' TrTo.cast (TrTo.eqN ?p1 ?p2 ?p3) ?p4
      case p1 | p2 => walk_at "n"
      case p3 => rfl
      case p4 => rw [Bool.eq_iff_iff, decide_eq_true_iff, beq_iff_eq]
    case m2 =>
      intro r hr _
      have hr3 := rows_small fk p hr
      have htl := (txt_len pk hr3.2).2
      have hr4 := hr3.1
      unfold bo
      rw [List.map_map]
      with_reducible refine' EvTo.cmpN (f := fun i : Nat => .int ((p + i : Nat) : Int)) (xs := List.range (fs.length - 1 - p)) ?n1 ?n2 ?n3 ?n4 ?n5 ?n6 ?n7 ?n8
      case n1 => walk_at "k"
      case n2 => walk_at "x"
      case n3 =>
        have e : (List.range (fs.length - 1 - p)).map (fun i : Nat => PyData.int ((p + i : Nat) : Int)) = (rangeL ((p : Nat) : Int) ((1 + h - 1 : Nat) : Int) 1).map .int := by
          rw [range_from, List.map_map, hm]; rfl
        rw [e]
        with_reducible refine' ItTo.range2 ?o1 ?o2 ?o3 ?o4 (EvTo.subN ?o5 ?o6 ?o7) ?o8 ?o9 ?p1
        case o1 => walk_at "k"
        case o2 => exact (Glo.range hG).1
        case o3 => exact (Glo.range hG).2
        case o4 | o5 | o6 => walk_at "n"
        case o7 => walk_at "l"
        case o8 | o9 => exact fun _ _ => rfl
        case p1 => exact small_from _ (by walk_at "l") _ (by walk_at "l")
      case n4 => exact fun _ _ => rfl
      case n5 | n6 => walk_at "x"
      case n7 =>
        intro i hi
        have hi := List.mem_range.mp hi
        have hi2 : p + i + 1 < fs.length := by
          rw [Nat.add_comm p i]; exact Nat.add_lt_of_lt_sub (Nat.add_lt_of_lt_sub hi)
        have hi1 := Nat.lt_of_succ_lt hi2
        have hf1 := Nat.lt_of_lt_of_le (by decide : 0 < 2) (fk.f (p := p + i) hi1).1
        have hf2 := Nat.lt_of_lt_of_le (by decide : 0 < 2) (fk.f (p := p + i + 1) hi2).1
        have ha : (p + i, fs.getD (p + i) 0 - 1) ∈ stockI fs := mem_stock.mpr ⟨hi1, .inl (sub1_lt hf1)⟩
        have hb : (p + i + 1, 0) ∈ stockI fs := mem_stock.mpr ⟨hi2, .inl hf2⟩
        have hla := (pc_len pk ha).2
        have hlb := (pc_len pk hb).2
        have hd3 : ("..." : Str).length = 3 := by decide +kernel
        show EvTo _ _ _ _ _ (.bool (adj (p + i, fs.getD (p + i) 0 - 1) (p + i + 1, 0) r))
        rw [← ell_adj pk ha hb hr3.2]
        with_reducible refine' EvTo.user Fe ?o1 ?o2 (.cons ?o3 (EvTo.cat (EvTo.cat (EvTo.cat ?o4 ?o5 ?o6) ?o7 ?o8) ?o9 ?p1) (.cons ?p2 ?p3 .nil)) ⟨_, _, rfl, ?p4, rfl⟩
        case o1 => walk_at "k"
        case o2 => walk_at "l"
        case o3 | p2 => exact fun _ _ => rfl
        case o4 | o9 => exact EvTo.strC
        case o5 =>
          refine last_ev (f := fs.getD (p + i) 0) (g := fun q => pieceS (pc (p + i, q))) hf1 (sgl_ev (p := p + i) (fs := fs) (pc := pc) hi1 (by walk_at "x") (by walk_at "n") (fun _ _ => rfl)) (EvTo.neg EvTo.intC) (fun _ _ => rfl)
        case o7 =>
          refine first_ev (f := fs.getD (p + i + 1) 0) (g := fun q => pieceS (pc (p + i + 1, q))) hf2 (sgl_ev (p := p + i + 1) (fs := fs) (pc := pc) hi2 (by walk_at "x") (by walk_at "n") (fun _ _ => rfl)) EvTo.intC (fun _ _ => rfl)
        case o6 => simp only [Str.length_append, pieceS_len]; exact Nat.le_trans (show _ ≤ 1000 by walk_at "l") hsz
        case o8 => simp only [Str.length_append, pieceS_len]; exact Nat.le_trans (show _ ≤ 1000 by walk_at "l") hsz
        case p1 => simp only [Str.length_append, pieceS_len]; exact Nat.le_trans (show _ ≤ 1000 by walk_at "l") hsz
        case p3 => walk_at "x"
        case p4 =>
          refine ell_ok ?_ (by rw [pieceS_len]; walk_at "l")
          simp only [Str.length_append, pieceS_len]; walk_at "l"
      case n8 => rw [List.length_range]; exact Nat.le_trans (Nat.sub_le _ _) (Nat.le_trans (Nat.sub_le _ _) (Nat.le_trans hm4 (by decide)))
    case m3 => walk_at "l"
    case m4 => walk_at "x"
    case m5 => show Upd _ (.own (.list ((zeroRows fs p).map fun r => .list ((bo fs p r).map .bool)))) _ _; walk_at "x"
  with_reducible refine' ExTo.skipIf ?k1 (ExTo.skipIf ?k2 (ExTo.nil ⟨_, rfl, ?k3⟩))
  case k3 => walk_at "x"
  case k1 =>
    with_reducible refine' TrTo.cast (TrTo.cmp (a := .list []) (b := .list []) ?m1 ?m2 (CmpOk.neD ?m3 ?m4 ?m5) ?m6) ?m7
    case m1 =>
      rw [← two_none (fun (_ : List It) (o : Bool) => PyData.bool o) (bo fs p) (zeroRows fs p)]
      with_reducible refine' EvTo.comp2 (f := fun r => .list ((bo fs p r).map .bool)) (xs := zeroRows fs p) (ρc := []) ?n1 ?n2 ?n3 ?n4
                            (turn_two (g := PyData.bool) (ρ1 := fun r => [("row", .own (.list ((bo fs p r).map .bool)))]) (ρ2 := fun r o => [("one", .own (.bool o)), ("row", .own (.list ((bo fs p r).map .bool)))]) ?t1 ?t2 ?t3 ?t4 ?t5 ?t6 ?t7 ?t8 ?t9) ?n5
      case n1 => walk_at "k"
      case n2 => walk_at "x"
      case n3 => walk_at "x"
      case n4 => exact fun _ _ => rfl
      case n5 => rw [two_none]; exact Nat.zero_le _
      case t1 => intro r _; exact BindTo.nameNew (by walk_at "x") (by walk_at "x")
      case t2 => intro r p hp; cases hp
      case t3 => intro r _; exact .nil
      case t4 => intro r _ _; walk_at "x"
      case t5 => exact fun _ _ => rfl
      case t6 => intro r _ _ o _; exact BindTo.nameNew (by walk_at "x") (by walk_at "x")
      case t7 => intro r o p hp; exact List.mem_cons_of_mem _ hp
      case t8 =>
        intro r _ _ o _
        refine .one ?_
        with_reducible refine' TrTo.and_cons (b := o != true) (TrTo.cmp ?o1 EvTo.boolC CmpOk.isnB ?o2) (fun q => TrTo.and_cons (b := o != false) (TrTo.cmp ?o3 EvTo.boolC CmpOk.isnB ?o4) (fun q2 => ?o5) ?o6) ?o7
        case o1 | o3 => walk_at "x"
        case o2 | o4 => rfl
        case o5 =>
          cases o
          · exact absurd q2 (by decide)
          · exact absurd q (by decide)
        case o6 => exact fun _ => rfl
        case o7 => exact fun _ => rfl
      case t9 => intro r _ _ o _ q; cases q
    case m2 => exact EvTo.list .nil (by decide)
    case m3 => rfl
    case m4 => rfl
    case m5 => decide
    case m6 => rfl
    case m7 => rfl
  case k2 =>
    with_reducible refine' TrTo.cast (TrTo.cmp (b := .int ((gapN fs p : Nat) : Int)) (EvTo.lenL ?m2 ?m3 ?m4 (EvL.of (ds := ((zeroRows fs p).filter fun r => !(bo fs p r).contains true).map fun r => .list ((bo fs p r).map .bool)) ?m5) ?m6) (EvTo.itemNat ?n1 ?n2 (range_get (gapN fs) (show p < p + 1 by walk_at "l")) ?n3) CmpOk.neI ?m7) ?m8
    case m2 => walk_at "k"
    case m3 => exact (Glo.len hG).1
    case m4 => exact (Glo.len hG).2
    case m6 => exact fun _ _ => rfl
    case n1 => walk_at "x"
    case n2 => walk_at "n"
    case n3 => exact fun _ _ => rfl
    case m7 => rfl
    case m8 => rw [List.length_map, gap_is fs hp]; simp
    case m5 =>
      with_reducible refine' EvTo.cmpIfN (f := fun r => .list ((bo fs p r).map .bool)) (g := fun r => .list ((bo fs p r).map .bool)) (xs := zeroRows fs p) (b := fun r => !(bo fs p r).contains true) ?o1 ?o2 ?o3 ?o4 ?o5 ?o6 ?o7 ?o8 ?o9
      case o1 => walk_at "k"
      case o2 => walk_at "x"
      case o3 => walk_at "x"
      case o4 => exact fun _ _ => rfl
      case o5 | o6 => walk_at "x"
      case o7 =>
        intro r _
        with_reducible refine' TrTo.cmp EvTo.boolC ?p2 CmpOk.ninBools ?p3
        case p2 => walk_at "x"
        case p3 => rfl
      case o8 => intro r _ _; walk_at "x"
      case o9 => walk_at "l"
end
noncomputable abbrev ED (cs : List Nat) (h : Nat) (ls fs : List Nat) (pc : It → List Nat) (n : Nat) (more : VEnv) : VEnv :=
  EA cs h ls fs pc (("rows", rowsB fs pc) :: ("base", .own (.int ((2 ^ n : Nat) : Int))) :: ("whole", .own (.list (natL ((List.range (fs.length + 1)).map (wholeN n fs))))) :: ("sums", .own (.list (natL ((List.range (fs.length + 2)).map (sumN fs))))) :: ("gaps", .own (.list (natL ((List.range (fs.length + 2)).map (gapN fs))))) :: more)
structure DivOk (fs : List Nat) (p : Nat) : Prop where
  s1 : sumN fs p = fs.getD p 0 * sumN fs (p + 1) + sumN fs (p + 2)
  s2 : sumN fs (p + 2) < sumN fs (p + 1)
  g1 : gapN fs p + gapN fs (p + 2) = fs.getD p 0 * gapN fs (p + 1)
  g2 : gapN fs (p + 2) < gapN fs (p + 1)
theorem div_ok {h : Nat} {fs : List Nat} (fk : FsOk h fs) {p : Nat} (hp : p < fs.length) : DivOk fs p := by
  have b := fs_all (P := fun _ fs => numD fs) num_d fk.hh fk.w
  unfold numD at b
  simp only [List.all_eq_true, List.mem_range, decide_eq_true_eq] at b
  obtain ⟨h1, h2, h3, h4⟩ := b p hp
  exact ⟨h1, h2, h3, h4⟩
theorem DivOk.sum {fs : List Nat} {p : Nat} (d : DivOk fs p) : ((sumN fs p : Nat) : Int).fdiv ((sumN fs (p + 1) : Nat) : Int) = ((fs.getD p 0 : Nat) : Int) ∧ ((sumN fs p : Nat) : Int).fmod ((sumN fs (p + 1) : Nat) : Int) = ((sumN fs (p + 2) : Nat) : Int) := by
  have h2 := d.s2
  refine fdm ?_ (.inl ⟨by walk_at "l", by walk_at "l"⟩)
  rw [d.s1, Nat.mul_comm]; push_cast; rfl
theorem DivOk.gap {fs : List Nat} {p : Nat} (d : DivOk fs p) : ((gapN fs p : Nat) : Int).fdiv (-((gapN fs (p + 1) : Nat) : Int)) = -((fs.getD p 0 : Nat) : Int) ∧ ((gapN fs p : Nat) : Int).fmod (-((gapN fs (p + 1) : Nat) : Int)) = -((gapN fs (p + 2) : Nat) : Int) := by
  have h2 := d.g2
  have h1 := d.g1
  refine fdm ?_ (.inr ⟨by walk_at "l", by walk_at "l"⟩)
  rw [Int.neg_mul_neg, Int.mul_comm]
  have : ((gapN fs p + gapN fs (p + 2) : Nat) : Int) = ((fs.getD p 0 * gapN fs (p + 1) : Nat) : Int) := by rw [h1]
  push_cast at this
  walk_at "l"
theorem sum_past {fs : List Nat} : sumN fs (fs.length + 1) = 0 := by unfold sumN; rw [if_neg (by walk_at "l")]
theorem gap_past {fs : List Nat} : gapN fs (fs.length + 1) = 0 := by unfold gapN; rw [if_neg (by walk_at "l")]
theorem sum_small {h : Nat} {fs : List Nat} (fk : FsOk h fs) (p : Nat) : sumN fs p ≤ 100 := by
  rcases Nat.le_total p fs.length with hp | hp
  · exact sum_le fk hp
  · unfold sumN
    split
    · exact (fk.rows p ‹_›).2.1
    · walk_at "l"
theorem gap_small {h : Nat} {fs : List Nat} (fk : FsOk h fs) (p : Nat) : gapN fs p ≤ 100 := by
  rcases Nat.le_total p fs.length with hp | hp
  · exact gap_le fk hp
  · unfold gapN
    split
    · exact Nat.le_trans (List.length_filter_le _ _) (fk.rows p ‹_›).2.1
    · walk_at "l"
theorem big100 {x : Nat} (h : x ≤ 100) : x < big := big_is (Nat.lt_of_le_of_lt h (Nat.lt_of_lt_of_le (show 100 < 2 ^ 7 by decide) (Nat.pow_le_pow_right (by decide) (by decide))))
section
variable {prog : Program} {w : World} {G : Gl prog w} {k : Nat}
theorem law_c (hG : Glo G) (hk : 27 ≤ k) (Fe : FnOk G "_ellipsis_match" 1 elRel) (Fi : FnOk G "_int2digits" 23 i2Rel) (Fd : FnOk G "_digits2int" 23 diRel) (Fid : FnOk G "int_divmod" 27 idRel) {cs : List Nat} {h n : Nat} {L R : Int} {ls fs : List Nat} {pc : It → List Nat} {sg : It → Nat} (fk : FsOk h fs) (pk : PcOk fs pc sg) (hn : 8 ≤ n) (hn2 : n ≤ 67) (hL : L = 1 ∨ L = -1) (hR : R = 1 ∨ R = -1) {P : Out → Prop}
    (next : P (.next (ED cs h ls fs pc n [("ended", .own (.bool false))]))) :
    ExTo G k (fnScope PP iLaw) (EC cs h ls fs pc n L R 0 []) (lawA.drop 16) P := by
  have hlid : lid = 1048576 := rfl
  have hm := fk.len
  have hh4 := fk.hh
  refine ExTo.body (ss' := [_, _, _, _, _]) rfl ?_
  with_reducible refine' ExTo.for (α := Nat) (f := fun i : Nat => .int (i : Int)) (xs := List.range (fs.length + 1)) (Iv := fun _ => True)
                      (R := fun i => EC cs h ls fs pc n L R i [])
                      (ρb := fun i y => EC cs h ls fs pc n L R i [("place", .own (.int (y : Int)))])
                      ?l1 ?l2 ?l3 trivial ?l5 ?l6 ?l7
  case l1 =>
    rw [hm]
    with_reducible refine' ItTo.rangeN ?m1 ?m2 ?m3 (EvTo.addN ?m4 ?m5) ?m6 ?m7
    case m1 => walk_at "k"
    case m2 => exact (Glo.range hG).1
    case m3 => exact (Glo.range hG).2
    case m4 | m5 => walk_at "n"
    case m6 => exact fun _ _ => rfl
    case m7 => walk_at "l"
  case l2 => exact fun _ _ => rfl
  case l3 => exact Wkn.refl _
  case l5 => intro i y hy _; walk_at "x"
  case l6 =>
    intro i y hy _
    have hi : i < fs.length + 1 := by have := (List.getElem?_eq_some_iff.mp hy).1; simpa using this
    have hyi : y = i := by
      rw [List.getElem?_range hi] at hy
      exact (Option.some.inj hy).symm
    subst hyi
    refine law_c1 hG hk Fi Fd Fid fk hn hn2 hL hR (by walk_at "l") ((law_c2 hG hk Fe fk pk (by walk_at "l")).mono fun o ho => ?_)
    obtain ⟨ρ', rfl, hw⟩ := ho
    exact ⟨hw, trivial⟩
  case l7 =>
    intro _
    rw [List.length_range]
    walk_at "t"
    case s1 =>
      with_reducible refine' Step.append (d := .int ((sumN fs (fs.length + 1) : Nat) : Int)) ?m1 ?m2 ?m3 ?m4 ?m5 ?m6
      case m1 => walk_at "x"
      case m2 => rw [sum_past]; walk_at "n"
      case m3 => exact fun _ _ => rfl
      case m4 => rfl
      case m5 => walk_at "x"
      case m6 => unfold natL; rw [List.length_map, List.length_map, List.length_range]; walk_at "l"
    rw [natL_succ (sumN fs)]
    walk_at "t"
    case s1 =>
      with_reducible refine' Step.append (d := .int ((gapN fs (fs.length + 1) : Nat) : Int)) ?m1 ?m2 ?m3 ?m4 ?m5 ?m6
      case m1 => walk_at "x"
      case m2 => rw [gap_past]; walk_at "n"
      case m3 => exact fun _ _ => rfl
      case m4 => rfl
      case m5 => walk_at "x"
      case m6 => unfold natL; rw [List.length_map, List.length_map, List.length_range]; walk_at "l"
    rw [natL_succ (gapN fs)]
    with_reducible refine' ExTo.freeze (x := "whole") (ds := natL ((List.range (fs.length + 1)).map (wholeN n fs))) ?m1 ?m2 (ExTo.freeze (x := "sums") (ds := natL ((List.range (fs.length + 1 + 1)).map (sumN fs))) ?m3 ?m4 (ExTo.freeze (x := "gaps") (ds := natL ((List.range (fs.length + 1 + 1)).map (gapN fs))) ?m5 ?m6 ?m7))
    case m1 | m2 | m3 | m4 | m5 | m6 => walk_at "x"
    case m7 =>
    refine' ExTo.perm (ρ' := ED cs h ls fs pc n []) ?q1 ?q2 ?q3
    case q1 => walk_at "x"
    case q2 => dsimp only [ED, EA, List.map]; decide +kernel
    case q3 =>
    with_reducible refine' ExTo.for (α := Nat) (f := fun i : Nat => .int (i : Int)) (xs := List.range fs.length) (Iv := fun _ => True)
                        (R := fun _ => ED cs h ls fs pc n [])
                        (ρb := fun _ y => ED cs h ls fs pc n [("place", .own (.int (y : Int)))])
                        ?l1 ?l2 ?l3 trivial ?l5 ?l6 ?l7
    case l1 =>
      rw [hm]
      with_reducible refine' ItTo.rangeN ?m1 ?m2 ?m3 ?m4 ?m6 ?m7
      case m1 => walk_at "k"
      case m2 => exact (Glo.range hG).1
      case m3 => exact (Glo.range hG).2
      case m4 => walk_at "n"
      case m6 => exact fun _ _ => rfl
      case m7 => walk_at "l"
    case l2 => exact fun _ _ => rfl
    case l3 => exact Wkn.refl _
    case l5 => intro i y hy _; walk_at "x"
    case l7 =>
      intro _
      walk_at "g"
      exact ExTo.nil next
    case l6 =>
      intro i p hy _
      have hp : p < fs.length := List.mem_range.mp (List.mem_of_getElem? hy)
      have dk := div_ok fk hp
      have hs1 := sum_small fk p
      have hs2 := sum_small fk (p + 1)
      have hg1 := gap_small fk p
      have hg2 := gap_small fk (p + 1)
      have hsp := dk.s2
      have hgp := dk.g2
      have gs : ∀ q, q ≤ fs.length + 1 → ((List.range (fs.length + 2)).map (sumN fs))[q]? = some (sumN fs q) := fun q hq => range_get _ (by walk_at "l")
      have gg : ∀ q, q ≤ fs.length + 1 → ((List.range (fs.length + 2)).map (gapN fs))[q]? = some (gapN fs q) := fun q hq => range_get _ (by walk_at "l")
      with_reducible refine' ExTo.skipIf ?k1 (ExTo.skipIf ?k2 (ExTo.nil ⟨?k3, trivial⟩))
      case k3 => walk_at "x"
      case k1 =>
        with_reducible refine' TrTo.cmp (EvTo.cast (EvTo.user Fid ?m1 ?m2 (.cons ?m3 (EvTo.itemNat ?m4 ?m5 (gs p (by walk_at "l")) ?m6) (.cons ?n3 (EvTo.itemNat ?n4 (EvTo.addN ?n5 ?n6) (gs (p + 1) (by walk_at "l")) ?n7) .nil)) ⟨((sumN fs p : Nat) : Int), ((sumN fs (p + 1) : Nat) : Int), rfl, ?o1, ?o2, ?o3, rfl⟩) (show _ = PyData.tuple ([((fs.getD p 0 : Nat) : Int), ((sumN fs (p + 2) : Nat) : Int)].map .int) from ?o4))
                              (EvTo.tuple (.cons ?p1 (EvTo.itemNat ?p2 ?p3 (get_getD 0 hp) ?p4) (.cons ?p5 (EvTo.itemNat ?p6 (EvTo.addN ?p7 ?p8) (gs (p + 2) (by walk_at "l")) ?p9) .nil)) ?q1) CmpOk.nePairs ?q2
        case m1 => walk_at "k"
        case m2 => walk_at "l"
        case m3 | n3 | p1 | p5 => exact fun _ _ => rfl
        case m4 | n4 | p2 | p6 => walk_at "x"
        case m5 | n5 | n6 | p3 | p7 | p8 => walk_at "n"
        case m6 | n7 | p4 | p9 => exact fun _ _ => rfl
        case o1 => walk_at "l"
        case o2 => rw [Int.natAbs_natCast]; exact big100 hs1
        case o3 => rw [Int.natAbs_natCast]; exact big100 hs2
        case o4 => rw [dk.sum.1, dk.sum.2]; rfl
        case q1 => exact Nat.le_of_ble_eq_true rfl
        case q2 => rfl
      case k2 =>
        with_reducible refine' TrTo.cmp (EvTo.cast (EvTo.user Fid ?m1 ?m2 (.cons ?m3 (EvTo.itemNat ?m4 ?m5 (gg p (by walk_at "l")) ?m6) (.cons ?n3 (EvTo.neg (EvTo.itemNat ?n4 (EvTo.addN ?n5 ?n6) (gg (p + 1) (by walk_at "l")) ?n7)) .nil)) ⟨((gapN fs p : Nat) : Int), -((gapN fs (p + 1) : Nat) : Int), rfl, ?o1, ?o2, ?o3, rfl⟩) (show _ = PyData.tuple ([-((fs.getD p 0 : Nat) : Int), -((gapN fs (p + 2) : Nat) : Int)].map .int) from ?o4))
                              (EvTo.tuple (.cons ?p1 (EvTo.neg (EvTo.itemNat ?p2 ?p3 (get_getD 0 hp) ?p4)) (.cons ?p5 (EvTo.neg (EvTo.itemNat ?p6 (EvTo.addN ?p7 ?p8) (gg (p + 2) (by walk_at "l")) ?p9)) .nil)) ?q1) CmpOk.nePairs ?q2
        case m1 => walk_at "k"
        case m2 => walk_at "l"
        case m3 | n3 | p1 | p5 => exact fun _ _ => rfl
        case m4 | n4 | p2 | p6 => walk_at "x"
        case m5 | n5 | n6 | p3 | p7 | p8 => walk_at "n"
        case m6 | n7 | p4 | p9 => exact fun _ _ => rfl
        case o1 => walk_at "l"
        case o2 => rw [Int.natAbs_natCast]; exact big100 hg1
        case o3 => rw [Int.natAbs_neg, Int.natAbs_natCast]; exact big100 hg2
        case o4 => rw [dk.gap.1, dk.gap.2]; rfl
        case q1 => exact Nat.le_of_ble_eq_true rfl
        case q2 => rfl
end
end
noncomputable def ostS (fs : List Nat) (N : Nat) : Nat → Nat × Nat × List It × Nat
  | 0 => (N, 0, [], 0)
  | p + 1 => if p = (ostS fs N p).2.1 then
      ((ostS fs N p).1 % sumN fs (p + 1), p + 1 + (ostS fs N p).1 / sumN fs (p + 1) / fs.getD p 0, (ostS fs N p).2.2.1 ++ [(p, (ostS fs N p).1 / sumN fs (p + 1))], (ostS fs N p).2.2.2 + (ostS fs N p).1 / sumN fs (p + 1) / fs.getD p 0)
    else ostS fs N p
noncomputable def numH1 (fs : List Nat) (N p : Nat) (s : Nat × Nat × List It × Nat) : Bool :=
  decide (s.1 ≤ 100 ∧ s.2.1 ≤ 10 ∧ s.2.2.1.length ≤ p ∧ s.2.2.2 ≤ 10) && (!decide (p < fs.length ∧ p = s.2.1) || decide (s.1 / sumN fs (p + 1) < fs.getD p 0 ∨ (s.1 / sumN fs (p + 1) = fs.getD p 0 ∧ p + 1 < fs.length)))
noncomputable def numH2 (fs : List Nat) (N : Nat) (s : Nat × Nat × List It × Nat) : Bool :=
  decide ((rowsAt fs 0)[N]? = some s.2.2.1 ∧ s.2.2.2 = pairsI fs s.2.2.1) && decide (((rowsAt fs 0).zipIdx.filter (fun y => decide (s.2.2.1 = y.1))).map (·.2) = [N]) && (match s.2.2.1 with | [] => false | x :: r => !(r.contains x))
noncomputable def numH (fs : List Nat) : Bool := (List.range (sumN fs 0)).all fun N => ((List.range (fs.length + 1)).all fun p => numH1 fs N p (ostS fs N p)) && numH2 fs N (ostS fs N fs.length)
set_option maxRecDepth 100000 in
theorem num_h : fsT.all (fun x => numH x.2) = true := by decide +kernel
structure OstOk (fs : List Nat) (N : Nat) (its : List It) (k : Nat) : Prop where
  row : (rowsAt fs 0)[N]? = some its
  pairs : k = pairsI fs its
  same : ((rowsAt fs 0).zipIdx.filter (fun y => decide (its = y.1))).map (·.2) = [N]
  one : ∃ x r, its = x :: r ∧ x ∉ r
theorem ost_ok {h : Nat} {fs : List Nat} (fk : FsOk h fs) {N : Nat} (hN : N < sumN fs 0) :
    (∀ p, p ≤ fs.length → (ostS fs N p).1 ≤ 100 ∧ (ostS fs N p).2.1 ≤ 10 ∧ (ostS fs N p).2.2.1.length ≤ p ∧ (ostS fs N p).2.2.2 ≤ 10 ∧ (p < fs.length → p = (ostS fs N p).2.1 → (p, (ostS fs N p).1 / sumN fs (p + 1)) ∈ stockI fs)) ∧
      OstOk fs N (ostS fs N fs.length).2.2.1 (ostS fs N fs.length).2.2.2 := by
  have b := fs_all (P := fun _ fs => numH fs) num_h fk.hh fk.w
  unfold numH at b
  simp only [List.all_eq_true, List.mem_range, Bool.and_eq_true] at b
  obtain ⟨h1, h2⟩ := b N hN
  constructor
  · intro p hp
    have h3 := h1 p (by walk_at "l")
    unfold numH1 at h3
    simp only [Bool.and_eq_true, decide_eq_true_eq, Bool.or_eq_true, Bool.not_eq_true', decide_eq_false_iff_not] at h3
    exact ⟨h3.1.1, h3.1.2.1, h3.1.2.2.1, h3.1.2.2.2, fun a c => mem_stock.mpr ⟨a, h3.2.resolve_left fun q => q ⟨a, c⟩⟩⟩
  · unfold numH2 at h2
    simp only [Bool.and_eq_true, decide_eq_true_eq] at h2
    refine ⟨h2.1.1.1, h2.1.1.2, h2.1.2, ?_⟩
    have h4 := h2.2
    cases e : (ostS fs N fs.length).2.2.1 with
    | nil => rw [e] at h4; cases h4
    | cons x r =>
      rw [e] at h4
      refine ⟨x, r, rfl, ?_⟩
      simpa using h4
theorem pc_top {h : Nat} {ls : List Nat} (ok : LsOk h ls) {fs : List Nat} (hl : fs.length = ls.length) (c3 c4 c5 : Nat) : ∀ x, x ∈ stockI fs → ∀ c, c ∈ pcI ls fs c3 c4 c5 x → c < 1114112 := by
  intro x hx c hc
  obtain ⟨h1, h2⟩ := mem_stock.mp hx
  unfold pcI at hc
  rcases List.mem_append.mp hc with hc | hc
  · have : ∀ c ∈ unsL, c < 1114112 := by decide +kernel
    split at hc <;> exact this c (pfx_mem hc)
  · rw [List.mem_singleton.mp hc]
    unfold sgI
    cases e : isD fs x with
    | false =>
      simp only [Bool.false_eq_true, if_false]
      have haz := ok.az _ (List.mem_of_getElem? (get_getD 0 (show x.1 < ls.length by walk_at "l")))
      obtain ⟨r, _, h4, h5, _⟩ := rows_lt ((c3 + 5 * x.1 + x.2) % 12) (Nat.mod_lt _ (by decide))
      unfold codeOf
      rw [h4]; exact Nat.lt_of_le_of_lt (Nat.sub_le _ _) (by walk_at "l")
    | true =>
      simp only [if_true]
      have hne := (pair_code ok (p := x.1) (hl ▸ isD_next hx e) 0).1
      have hm := Nat.mod_lt c5 (List.length_pos_iff.mpr hne)
      obtain ⟨_, hcs⟩ := pairs_some hne
      have := hcs _ (getD_mem hm)
      walk_at "l"
theorem txt_ok {fs : List Nat} {pc : It → List Nat} (pt : ∀ x, x ∈ stockI fs → ∀ c, c ∈ pc x → c < 1114112) {r : List It} (h : ∀ x, x ∈ r → x ∈ stockI fs) : PyData.strOk (pieceS (txtN pc r)) = true := by
  unfold PyData.strOk pieceS
  simp only [List.all_toArray, List.all_eq_true, decide_eq_true_eq]
  intro c hc
  obtain ⟨x, hx, hq⟩ := List.mem_flatMap.mp hc
  exact pt x (h x hx) c hq
theorem join_nil : ∀ (ws : List (List Nat)) (acc : List Nat), (ws.map pieceS).foldl (fun acc p => acc ++ ("" : Str).cps ++ p.cps) acc.toArray = (acc ++ ws.flatten).toArray
  | [], acc => by simp
  | w :: ws, acc => by
    rw [List.map_cons, List.foldl_cons]
    have e : acc.toArray ++ ("" : Str).cps ++ (pieceS w).cps = (acc ++ w).toArray := by
      rw [show ("" : Str).cps = #[] from by decide +kernel]
      simp [pieceS]
    rw [e, join_nil ws]
    simp
theorem join_txt (pc : It → List Nat) (r : List It) : Txt.join ("" : Str) (r.map fun x => pieceS (pc x)) = pieceS (txtN pc r) := by
  rw [show (r.map fun x => pieceS (pc x)) = (r.map pc).map pieceS by rw [List.map_map]; rfl]
  show Builtin.Str.glued _ _ = _
  unfold Builtin.Str.glued
  cases r with
  | nil => rfl
  | cons x r =>
    rw [show (((x :: r).map pc).map pieceS).drop 1 = (r.map pc).map pieceS from rfl, show ((((x :: r).map pc).map pieceS).headD Str.empty).cps = (pc x).toArray from rfl, join_nil]
    simp [pieceS, txtN, List.flatMap]
theorem fold_le {f : Str → Nat} : ∀ (ts : List Str) (a c : Nat), (∀ t, t ∈ ts → f t ≤ c) → ts.foldl (fun n t => n + f t) a ≤ a + c * ts.length
  | [], a, c, _ => by simp
  | t :: ts, a, c, h => by
    have h1 := h t List.mem_cons_self
    have h2 := fold_le ts (a + f t) c fun u hu => h u (List.mem_cons_of_mem _ hu)
    simp only [List.foldl_cons, List.length_cons, Nat.mul_add] at h2 ⊢
    walk_at "l"
theorem join_ok {sep : Str} {ts : List Str} {c : Nat} (hs : sep.length ≤ 3) (h : ∀ t, t ∈ ts → t.length ≤ c) (hl : c ≤ 10) (hl2 : ts.length ≤ 10) : JoinOk sep ts = true := by
  unfold JoinOk tooLong
  rw [Bool.not_eq_true', decide_eq_false_iff_not, sizeLine_eq]
  have e : ts.toArray.foldl (fun x1 x2 => x1 + x2.length + sep.length) 0 = ts.foldl (fun n t => n + (t.length + sep.length)) 0 := by
    simp only [List.foldl_toArray, Nat.add_assoc]
  have := fold_le (f := fun t => t.length + sep.length) ts 0 13 fun t ht => by have := h t ht; walk_at "l"
  rw [e]
  walk_at "l"
section
noncomputable abbrev lawB : List Stmt := (fnBody PP iLaw).drop 22
noncomputable abbrev EF (cs : List Nat) (h : Nat) (ls fs : List Nat) (pc : It → List Nat) (n : Nat) (more : VEnv) : VEnv := ED cs h ls fs pc n (("ended", .own (.bool true)) :: more)
noncomputable def efN : List Str := eaN ++ (["rows", "base", "whole", "sums", "gaps", "ended"] : List Str)
theorem EF_mem {cs : List Nat} {h n : Nat} {ls fs : List Nat} {pc : It → List Nat} {more : VEnv} {y : Str} {b : B} (hn : efN.contains y = false) (hp : (y, b) ∈ more) : (y, b) ∈ EF cs h ls fs pc n more := List.mem_append_right (EF cs h ls fs pc n []) hp
theorem EF_upd {cs : List Nat} {h n : Nat} {ls fs : List Nat} {pc : It → List Nat} {more more' : VEnv} {y : Str} {b : B} (hn : efN.contains y = false) (hu : Upd y b more more') : Upd y b (EF cs h ls fs pc n more) (EF cs h ls fs pc n more') := upd_pre (pre := EF cs h ls fs pc n []) hu hn
local macro_rules | `(tactic| walk_at "x") => `(tactic| first
  | ((with_reducible refine EF_mem ?_ ?_); (· kernel_rfl!); (· walk_at "x"))
  | ((with_reducible refine EF_upd ?_ ?_); (· kernel_rfl!); (· walk_at "x")))
noncomputable abbrev piecesD (pc : It → List Nat) (its : List It) : List PyData := (its.map fun x => pieceS (pc x)).map .str
section
variable {prog : Program} {w : World} {G : Gl prog w} {k : Nat}
theorem law_d (hG : Glo G) (hk : 27 ≤ k) (Fe : FnOk G "_ellipsis_match" 1 elRel) (Fid : FnOk G "int_divmod" 27 idRel) {cs : List Nat} {h n c7 : Nat} {ls fs : List Nat} {pc : It → List Nat} {sg : It → Nat} (fk : FsOk h fs) (pk : PcOk fs pc sg) (pt : ∀ x, x ∈ stockI fs → ∀ c, c ∈ pc x → c < 1114112) (e7 : cs[7]? = some c7) {P : Out → Prop}
    (next : ∀ its, its ∈ rowsAt fs 0 → (∃ x r, its = x :: r ∧ x ∉ r) → ExTo G k (fnScope PP iLaw) (EF cs h ls fs pc n [("pieces", .own (.list (piecesD pc its))), ("text", .own (.str (pieceS (txtN pc its))))]) (lawB.drop 6) P) :
    ExTo G k (fnScope PP iLaw) (EF cs h ls fs pc n []) lawB P := by
  have hlid : lid = 1048576 := rfl
  have hm := fk.len
  have hh4 := fk.hh
  have hsz : sizeLine ≥ 1000 := by decide
  have hS0 : 0 < sumN fs 0 := by unfold sumN; rw [if_pos (Nat.zero_le _)]; exact (fk.rows 0 (Nat.zero_le _)).1
  have hS := sum_small fk 0
  have gs : ∀ q, q ≤ fs.length + 1 → ((List.range (fs.length + 2)).map (sumN fs))[q]? = some (sumN fs q) := fun q hq => range_get _ (by walk_at "l")
  obtain ⟨N, hN, hNS⟩ : ∃ N, c7 % sumN fs 0 = N ∧ N < sumN fs 0 := ⟨_, rfl, Nat.mod_lt _ hS0⟩
  obtain ⟨hst, hend⟩ := ost_ok fk hNS
  refine ExTo.body (ss' := [_, _, _, _, _, _, _, _, _, _, _, _, _, _, _, _]) rfl ?_
  walk_at "t"
  case s1 =>
    with_reducible refine' Step.assign (d := .int ((c7 % sumN fs 0 : Nat) : Int)) (EvTo.modN (EvTo.itemNat ?m2 ?m3 e7 ?m4) (EvTo.itemNat ?m5 ?m6 (gs 0 (by walk_at "l")) ?m7) ?m8) ?k2 ?k3 ?k4
    case m2 | m5 => walk_at "x"
    case m3 | m6 => walk_at "n"
    case m4 | m7 => exact fun _ _ => rfl
    case m8 => walk_at "l"
    case k2 => walk_at "x"
    case k3 => walk_at "x"
    case k4 => exact fun _ => rfl
  rw [hN]
  walk_at "t"
  case s1 =>
    with_reducible refine' Step.tup (ρ' := EF cs h ls fs pc n [("number", .own (.int (N : Int))), ("rest", .own (.int (N : Int))), ("behind", .own (.int ((0 : Nat) : Int))), ("pieces", .mu (piecesD pc [])), ("pairs", .own (.int ((0 : Nat) : Int)))]) (bs := [.own (.int (N : Int)), .own (.int ((0 : Nat) : Int)), .mu (piecesD pc []), .own (.int ((0 : Nat) : Int))]) (.cons ?k1 ?e1 (.cons ?k2 ?e2 (.cons ?k3 ?e3 (.cons ?k4 ?e4 .nil)))) ?k6 ?k7 ?k8 ?k9 ?k10
    case k1 | k2 | k3 | k4 => exact fun _ _ => rfl
    case e1 => exact .own (by walk_at "n")
    case e2 => exact .own (by walk_at "n")
    case e3 => exact EvIt.list (ds := []) .nil (Nat.zero_le _)
    case e4 => exact .own (by walk_at "n")
    case k6 => walk_at "x"
    case k8 => walk_at "k"
    case k9 => rfl
    case k10 => exact Nat.le_of_ble_eq_true rfl
    case k7 => walk_at "x"
  with_reducible refine' ExTo.for (α := Nat) (f := fun i : Nat => .int (i : Int)) (xs := List.range fs.length) (Iv := fun _ => True)
                      (R := fun i => EF cs h ls fs pc n [("number", .own (.int (N : Int))), ("rest", .own (.int (((ostS fs N i).1 : Nat) : Int))), ("behind", .own (.int (((ostS fs N i).2.1 : Nat) : Int))), ("pieces", .mu (piecesD pc (ostS fs N i).2.2.1)), ("pairs", .own (.int (((ostS fs N i).2.2.2 : Nat) : Int)))])
                      (ρb := fun i y => EF cs h ls fs pc n [("number", .own (.int (N : Int))), ("rest", .own (.int (((ostS fs N i).1 : Nat) : Int))), ("behind", .own (.int (((ostS fs N i).2.1 : Nat) : Int))), ("pieces", .mu (piecesD pc (ostS fs N i).2.2.1)), ("pairs", .own (.int (((ostS fs N i).2.2.2 : Nat) : Int))), ("place", .own (.int (y : Int)))])
                      ?l1 ?l2 ?l3 trivial ?l5 ?l6 ?l7
  case l1 =>
    rw [hm]
    with_reducible refine' ItTo.rangeN ?m1 ?m2 ?m3 ?m4 ?m6 ?m7
    case m1 => walk_at "k"
    case m2 => exact (Glo.range hG).1
    case m3 => exact (Glo.range hG).2
    case m4 => walk_at "n"
    case m6 => exact fun _ _ => rfl
    case m7 => walk_at "l"
  case l2 => exact fun _ _ => rfl
  case l3 => exact Wkn.refl _
  case l5 => intro i y hy _; walk_at "x"
  case l6 =>
    intro i p hy _
    have hp : p < fs.length := List.mem_range.mp (List.mem_of_getElem? hy)
    have hpi : p = i := by
      have hi : i < fs.length := by have := (List.getElem?_eq_some_iff.mp hy).1; simpa using this
      rw [List.getElem?_range hi] at hy
      exact (Option.some.inj hy).symm
    subst hpi
    obtain ⟨o1, o2, o3, o4, o5⟩ := hst p (by walk_at "l")
    have hstep : ostS fs N (p + 1) = if p = (ostS fs N p).2.1 then
      ((ostS fs N p).1 % sumN fs (p + 1), p + 1 + (ostS fs N p).1 / sumN fs (p + 1) / fs.getD p 0, (ostS fs N p).2.2.1 ++ [(p, (ostS fs N p).1 / sumN fs (p + 1))], (ostS fs N p).2.2.2 + (ostS fs N p).1 / sumN fs (p + 1) / fs.getD p 0)
      else ostS fs N p := rfl
    rw [hstep]
    generalize ostS fs N p = s at *
    obtain ⟨r, b, its, kk⟩ := s
    dsimp only at o1 o2 o3 o4 o5 ⊢
    have dk := div_ok fk hp
    have hsp := dk.s2
    have hs2 := sum_small fk (p + 1)
    have hf := fk.f hp
    with_reducible refine' ExTo.ite (b := decide (p = b)) (P1 := fun o => ∃ ρ', o = .next ρ' ∧ Wkn ρ' (EF cs h ls fs pc n [("number", .own (.int (N : Int))), ("rest", .own (.int (((if p = b then (r % sumN fs (p + 1), p + 1 + r / sumN fs (p + 1) / fs.getD p 0, its ++ [(p, r / sumN fs (p + 1))], kk + r / sumN fs (p + 1) / fs.getD p 0) else (r, b, its, kk)).1 : Nat) : Int))), ("behind", .own (.int (((if p = b then (r % sumN fs (p + 1), p + 1 + r / sumN fs (p + 1) / fs.getD p 0, its ++ [(p, r / sumN fs (p + 1))], kk + r / sumN fs (p + 1) / fs.getD p 0) else (r, b, its, kk)).2.1 : Nat) : Int))), ("pieces", .mu (piecesD pc (if p = b then (r % sumN fs (p + 1), p + 1 + r / sumN fs (p + 1) / fs.getD p 0, its ++ [(p, r / sumN fs (p + 1))], kk + r / sumN fs (p + 1) / fs.getD p 0) else (r, b, its, kk)).2.2.1)), ("pairs", .own (.int (((if p = b then (r % sumN fs (p + 1), p + 1 + r / sumN fs (p + 1) / fs.getD p 0, its ++ [(p, r / sumN fs (p + 1))], kk + r / sumN fs (p + 1) / fs.getD p 0) else (r, b, its, kk)).2.2.2 : Nat) : Int)))])) ?i1 ?i2 ?i3 ?i4 ?i5
    case i1 =>
      with_reducible refine' TrTo.eqN ?m1 ?m2 ?m3
      case m1 | m2 => walk_at "n"
      case m3 => rfl
    case i5 => rintro d ⟨ρ', h, _⟩; cases h
    case i4 =>
      rintro ρ' ⟨ρ2, h, hw⟩
      cases h
      exact ExTo.nil ⟨hw, trivial⟩
    case i3 =>
      intro hb
      refine' ExTo.nil ⟨_, rfl, ?_⟩
      rw [if_neg (of_decide_eq_false hb)]
      walk_at "x"
    case i2 =>
      intro hb
      have hb := of_decide_eq_true hb
      rw [if_pos hb]
      have hv := o5 hp hb
      obtain ⟨q, hq⟩ : ∃ q, r / sumN fs (p + 1) = q := ⟨_, rfl⟩
      have hqr : q ≤ 100 := by rw [← hq]; exact Nat.le_trans (Nat.div_le_self _ _) o1
      rw [hq] at hv ⊢
      dsimp only
      obtain ⟨_, hv2⟩ := mem_stock.mp hv
      dsimp only at hv2
      walk_at "t"
      case s1 =>
        with_reducible refine' Step.assignT (ρ' := EF cs h ls fs pc n [("number", .own (.int (N : Int))), ("rest", .own (.int ((r % sumN fs (p + 1) : Nat) : Int))), ("behind", .own (.int (b : Int))), ("pieces", .mu (piecesD pc its)), ("pairs", .own (.int (kk : Int))), ("place", .own (.int (p : Int))), ("quotient", .own (.int (q : Int)))])
                              (EvTo.cast (EvTo.user Fid ?m1 ?m2 (.cons ?m3 ?m4 (.cons ?n3 (EvTo.itemNat ?n4 (EvTo.addN ?n5 ?n6) (gs (p + 1) (by walk_at "l")) ?n7) .nil)) ⟨(r : Int), ((sumN fs (p + 1) : Nat) : Int), rfl, ?o1, ?o2, ?o3, rfl⟩) (show _ = PyData.tuple [.int (q : Int), .int ((r % sumN fs (p + 1) : Nat) : Int)] from ?o4)) ?k2 ?k3 ?k4
        case m1 => walk_at "k"
        case m2 => walk_at "l"
        case m3 | n3 => exact fun _ _ => rfl
        case m4 | n4 => walk_at "x"
        case n5 | n6 => walk_at "n"
        case n7 => exact fun _ _ => rfl
        case o1 => walk_at "l"
        case o2 => rw [Int.natAbs_natCast]; exact big100 o1
        case o3 => rw [Int.natAbs_natCast]; exact big100 hs2
        case o4 => rw [fdivN, fmodN, hq]
        case k2 => walk_at "x"
        case k3 => exact fun _ => rfl
        case k4 => exact fun _ => rfl
      walk_at "t"
      case s1 =>
        with_reducible refine' Step.append (d := .str (pieceS (pc (p, q)))) ?m1 (EvTo.item (n := (q : Int)) (EvL.of (EvTo.catL (EvL.of ?n1) (EvL.of (EvTo.cutL (EvL.of ?n2) ?n3 (EvTo.addN ?n4 ?n5))) ?n6)) ?n7 ?n8 ?n9 ?o1) ?m3 ?m4 ?m5 ?m6
        case m1 => walk_at "x"
        case n1 => exact sgl_ev hp (by walk_at "x") (by walk_at "n") (fun _ _ => rfl)
        case n2 => walk_at "x"
        case n3 | n4 | n5 => walk_at "n"
        case n6 => rw [List.length_append, List.length_map, List.length_range]; exact Nat.le_trans (Nat.add_le_add hf.2 (Nat.le_trans (List.length_take_le _ _) (Nat.le_of_eq (Nat.add_sub_cancel_left p 1)))) (show 4 + 1 ≤ lid from Nat.le_of_ble_eq_true rfl)
        case n7 => walk_at "x"
        case n8 => walk_at "l"
        case n9 =>
          rw [Int.toNat_natCast]
          rcases hv2 with h1 | ⟨h1, h2⟩
          · rw [List.getElem?_append_left (by rw [List.length_map, List.length_range]; exact h1), List.getElem?_map, List.getElem?_range h1]; rfl
          · rw [List.getElem?_append_right (by rw [List.length_map, List.length_range]; walk_at "l"), List.length_map, List.length_range, h1, Nat.sub_self, List.getElem?_take, if_pos (by walk_at "l"), List.getElem?_drop, List.map_map, List.getElem?_map, List.getElem?_range (Nat.lt_sub_of_add_lt (show p + 0 + 1 < _ from h2))]
            simp
        case o1 => exact fun _ _ => rfl
        case m3 => exact fun _ _ => rfl
        case m4 => rfl
        case m5 => walk_at "x"
        case m6 => simp [piecesD]; walk_at "l"
      rw [show piecesD pc its ++ [PyData.str (pieceS (pc (p, q)))] = piecesD pc (its ++ [(p, q)]) by simp [piecesD]]
      walk_at "t"
      case s1 =>
        with_reducible refine' Step.assign (d := .int ((p + 1 + q / fs.getD p 0 : Nat) : Int)) (EvTo.addN (EvTo.addN ?m1 ?m2) (EvTo.divN ?m3 (EvTo.itemNat ?m4 ?m5 (get_getD 0 hp) ?m6) ?m7 ?m8)) ?k2 ?k3 ?k4
        case m1 | m2 | m3 | m5 => walk_at "n"
        case m4 => walk_at "x"
        case m6 => exact fun _ _ => rfl
        case m7 => walk_at "l"
        case m8 => exact log2_lt_bits (k := 9000) (Nat.le_trans (intBits_le (m := 3) (by walk_at "l")) (by decide)) (by walk_at "l")
        case k2 => walk_at "x"
        case k3 => walk_at "x"
        case k4 => exact fun _ => rfl
      walk_at "t"
      case s1 =>
        with_reducible refine' Step.assign (d := .int ((kk + q / fs.getD p 0 : Nat) : Int)) (EvTo.addN ?m1 (EvTo.divN ?m3 (EvTo.itemNat ?m4 ?m5 (get_getD 0 hp) ?m6) ?m7 ?m8)) ?k2 ?k3 ?k4
        case m1 | m3 | m5 => walk_at "n"
        case m4 => walk_at "x"
        case m6 => exact fun _ _ => rfl
        case m7 => walk_at "l"
        case m8 => exact log2_lt_bits (k := 9000) (Nat.le_trans (intBits_le (m := 3) (by walk_at "l")) (by decide)) (by walk_at "l")
        case k2 => walk_at "x"
        case k3 => walk_at "x"
        case k4 => exact fun _ => rfl
      exact ExTo.nil ⟨_, rfl, by walk_at "x"⟩
  case l7 =>
    intro _
    rw [List.length_range]
    generalize ostS fs N fs.length = s at *
    obtain ⟨r, b, its, kk⟩ := s
    dsimp only at hend ⊢
    obtain ⟨hrow, hkk, hsame, hone⟩ := hend
    have hmem : its ∈ rowsAt fs 0 := List.mem_of_getElem? hrow
    have hr3 := rows_small fk 0 hmem
    have hr4 := hr3.1
    have htl := (txt_len pk hr3.2).2
    have hrl := (fk.rows 0 (Nat.zero_le _)).2.1
    subst hkk
    with_reducible refine' ExTo.freeze (x := "pieces") (ds := piecesD pc its) (ρ' := EF cs h ls fs pc n [("number", .own (.int (N : Int))), ("rest", .own (.int (r : Int))), ("behind", .own (.int (b : Int))), ("pieces", .own (.list (piecesD pc its))), ("pairs", .own (.int ((pairsI fs its : Nat) : Int)))]) ?m1 ?m2 ?m3
    case m1 | m2 => walk_at "x"
    case m3 =>
    walk_at "t"
    case s1 =>
      with_reducible refine' Step.assign (d := .str (pieceS (txtN pc its))) ?k1 ?k2 ?k3 ?k4
      case k2 => walk_at "x"
      case k3 => walk_at "x"
      case k4 => exact fun _ => rfl
      case k1 =>
        rw [← join_txt]
        with_reducible refine' EvTo.join (ts := its.map fun x => pieceS (pc x)) ?n1 ?n2 ?n3 ?n4 ?n5 ?n6
        case n1 => exact EvTo.strC
        case n2 => exact fun _ => rfl
        case n3 => walk_at "x"
        case n4 => exact fun _ _ => rfl
        case n5 => rfl
        case n6 =>
          refine join_ok (c := 2) (by decide +kernel) (fun t ht => ?_) (by decide) (by rw [List.length_map]; walk_at "l")
          obtain ⟨x, hx, rfl⟩ := List.mem_map.mp ht
          rw [pieceS_len]; exact (pc_len pk (hr3.2 x hx)).2
    have hz : ∀ y, y ∈ (rowsAt fs 0).zipIdx → y.1 ∈ rowsAt fs 0 := fun y hy => by
      obtain ⟨i, hi⟩ := List.getElem?_of_mem hy
      rw [List.getElem?_zipIdx] at hi
      cases e : (rowsAt fs 0)[i]? with
      | none => rw [e] at hi; cases hi
      | some z => rw [e] at hi; simp at hi; rw [← hi]; exact List.mem_of_getElem? e
    have hsame2 : ((rowsAt fs 0).zipIdx.filter fun y => decide (its = y.1)).map (fun y => PyData.int ((y.2 : Nat) : Int)) = natL [N] := by
      rw [← hsame]; unfold natL; rw [List.map_map]; rfl
    walk_at "t"
    case s1 =>
      with_reducible refine' Step.cmpIfP (ρ' := EF cs h ls fs pc n [("number", .own (.int (N : Int))), ("rest", .own (.int (r : Int))), ("behind", .own (.int (b : Int))), ("pieces", .own (.list (piecesD pc its))), ("pairs", .own (.int ((pairsI fs its : Nat) : Int))), ("text", .own (.str (pieceS (txtN pc its)))), ("same", .own (.list (natL [N])))])
                            (f1 := fun y => .int ((y.2 : Nat) : Int)) (f2 := fun y => rowD fs pc y.1) (g := fun y => .int ((y.2 : Nat) : Int)) (xs := (rowsAt fs 0).zipIdx) (b := fun y => decide (its = y.1)) ?k1 ?k2 ?k3 ?k4 ?k5 ?k6 ?k7 ?k8 ?k9 ?m1 ?m2 ?m3 ?m4 ?m5
      case k1 => walk_at "k"
      case k2 => walk_at "x"
      case k3 =>
        rw [show ((rowsAt fs 0).zipIdx.map fun y => PyData.tuple [.int ((y.2 : Nat) : Int), rowD fs pc y.1]) = enumD 0 ((rowsAt fs 0).map (rowD fs pc)) by rw [enumD_map]]
        with_reducible refine' ItTo.enumL ?n1 ?n2 ?n3 ?n4 ?n5
        case n1 => walk_at "k"
        case n2 => exact (Glo.enumerate hG).1
        case n3 => exact (Glo.enumerate hG).2
        case n4 => exact rows_ev (Nat.zero_le _) (by walk_at "x") (by walk_at "n") (fun _ _ => rfl)
        case n5 => exact fun _ _ => rfl
      case k4 => exact fun _ _ => rfl
      case k5 | k6 | k7 | k8 => walk_at "x"
      case k9 => decide
      case m1 =>
        intro y hy
        have hy3 := rows_small fk 0 (hz y hy)
        have hyl := (txt_len pk hy3.2).2
        have hy4 := hy3.1
        with_reducible refine' TrTo.cast (TrTo.cmp (EvTo.user Fe ?n1 ?n2 (.cons ?n3 ?n4 (.cons ?n5 (EvTo.itemT (ds := [.str (pieceS (txtN pc y.1)), .int ((pairsI fs y.1 : Nat) : Int)]) (n := 0) (j := 0) ?n6 ?n7 ?n8 ?n9 ?o1 ?o2 ?o3) .nil)) ⟨_, _, rfl, ?o4, rfl⟩) EvTo.boolC CmpOk.isB ?o5) ?o6
        case n1 => walk_at "k"
        case n2 => walk_at "l"
        case n3 | n5 => exact fun _ _ => rfl
        case n4 => walk_at "x"
        case n6 => show EvTo _ _ _ _ _ (rowD fs pc y.1); walk_at "x"
        case n7 => exact EvTo.intC
        case n8 => decide
        case n9 => decide
        case o1 => rfl
        case o2 => rfl
        case o3 => exact fun _ _ => rfl
        case o4 => exact ell_ok (by rw [pieceS_len]; walk_at "l") (by rw [pieceS_len]; walk_at "l")
        case o5 => rfl
        case o6 => rw [ell_same pk hr3.2 hy3.2]; exact beq_true _
      case m2 => intro y _ _; walk_at "x"
      case m3 => simp; walk_at "l"
      case m4 => walk_at "x"
      case m5 => rw [hsame2]; walk_at "x"
    with_reducible refine' ExTo.skipIf (TrTo.or_cons (b := false) ?k1 (fun _ => TrTo.or_cons (b := false) ?k2 (fun _ => TrTo.or_cons (b := false) ?k3 (fun _ => TrTo.or_nil) ?k4) ?k5) ?k6) ?k7
    case k4 | k5 | k6 => intro h; cases h
    case k1 =>
      with_reducible refine' TrTo.cast (TrTo.not (TrTo.of (d := .bool true) ?m1 ?m4 ?m2)) ?m3
      case m4 => trivial
      case m1 => walk_at "x"
      case m2 => exact fun _ _ => rfl
      case m3 => rfl
    case k2 =>
      with_reducible refine' TrTo.cmp (EvTo.tuple (ds := [.str (pieceS (txtN pc its)), .int ((pairsI fs its : Nat) : Int)]) (.cons ?m1 ?m2 (.cons ?m3 ?m4 .nil)) ?m5) (EvTo.item (n := (N : Int)) (EvL.of (rows_ev (pc := pc) (Nat.zero_le _) ?m6 ?m7 ?m8)) ?m9 ?n1 ?n2 ?n3) (CmpOk.neSelf ?n4 ?n5) ?n6
      case m1 | m3 => exact fun _ _ => rfl
      case m2 | m4 | m6 | m9 => walk_at "x"
      case m5 => exact Nat.le_of_ble_eq_true rfl
      case m7 => walk_at "n"
      case m8 | n3 => exact fun _ _ => rfl
      case n1 => walk_at "l"
      case n2 => rw [Int.toNat_natCast, List.getElem?_map, hrow]; rfl
      case n4 => simp [PyData.canLay0, PyData.canLayAll0, txt_ok pt hr3.2]
      case n5 => simp [PyData.depth, PyData.depthAll]
      case n6 => rfl
    case k3 =>
      with_reducible refine' TrTo.cmp ?m1 (EvTo.list (ds := natL [N]) (.cons ?m2 ?m3 .nil) ?m4) CmpOk.neNats ?m5
      case m1 => walk_at "x"
      case m2 => exact fun _ _ => rfl
      case m3 => walk_at "x"
      case m4 => exact Nat.le_of_ble_eq_true rfl
      case m5 => rfl
    case k7 =>
    refine' ExTo.perm ?q1 ?q2 (next its hmem hone)
    case q1 => walk_at "x"
    case q2 => dsimp only [EF, ED, EA, List.map]; decide +kernel
end
theorem pick_last (ds : List PyData) (h : ds ≠ []) : pickL ds (some (-1)) none none = ds.drop (ds.length - 1) := by
  have hl : 0 < ds.length := List.length_pos_iff.mpr h
  unfold pickL sliceBounds
  simp only [Option.getD_none, show (1 : Int) > 0 by decide, if_true, show ((-1 : Int) < 0) by decide]
  have e : max (0 : Int) (min (-1 + (ds.length : Int)) (ds.length : Int)) = ((ds.length - 1 : Nat) : Int) := last_max hl
  rw [e, pick_one (Nat.le_refl _), List.take_of_length_le (by simp)]
noncomputable def tryI (its : List It) : List (List It) := [its, its.take 1 ++ its, its ++ its.drop (its.length - 1)]
noncomputable def joinS (pc : It → List Nat) (r : List It) : Str := Txt.join dots (r.map fun x => pieceS (pc x))
noncomputable def moreS (pc : It → List Nat) (sg : It → Nat) (x : It) (t : List Nat) : List Str := [dots ++ pieceS (pc x) ++ dots ++ one (sg x) ++ dots, Txt.slice (pieceS t) (some 1) none, Txt.slice (pieceS t) none (some (-1)), pieceS t ++ pieceS t]
noncomputable def ansL : List Bool := [true, false, false, false, false, false, false]
theorem tries_told {fs : List Nat} {pc : It → List Nat} {sg : It → Nat} (pk : PcOk fs pc sg) {x : It} {r : List It} (h : ∀ y, y ∈ x :: r → y ∈ stockI fs) (hx : x ∉ r) :
    ((tryI (x :: r)).map (joinS pc) ++ moreS pc sg x (txtN pc (x :: r))).map (fun w => ell w (pieceS (txtN pc (x :: r)))) = ansL := by
  have hlen := txt_len pk h
  have hne : txtN pc (x :: r) ≠ [] := by
    intro q; rw [q] at hlen; simp at hlen
  have hd := txt_nodot pk h
  have hlp : 0 < (txtN pc (x :: r)).length := List.length_pos_iff.mpr hne
  have e1 := ell_join pk (List.cons_ne_nil x r) h
  have h2 : ∀ y, y ∈ (x :: r).take 1 ++ (x :: r) → y ∈ stockI fs := fun y hy => by
    rcases List.mem_append.mp hy with q | q
    · exact h y (List.mem_of_mem_take q)
    · exact h y q
  have h3 : ∀ y, y ∈ (x :: r) ++ (x :: r).drop ((x :: r).length - 1) → y ∈ stockI fs := fun y hy => by
    rcases List.mem_append.mp hy with q | q
    · exact h y q
    · exact h y (List.mem_of_mem_drop q)
  have e2 : ell (joinS pc ((x :: r).take 1 ++ (x :: r))) (pieceS (txtN pc (x :: r))) = false := by
    refine ell_long pk (by simp) h2 ?_
    have := (pc_len pk (h x List.mem_cons_self)).1
    simp [txtN]; walk_at "l"
  have hdl : ((x :: r).drop ((x :: r).length - 1)).length = 1 := by simp
  have e3 : ell (joinS pc ((x :: r) ++ (x :: r).drop ((x :: r).length - 1))) (pieceS (txtN pc (x :: r))) = false := by
    have h4 : ∀ y, y ∈ (x :: r).drop ((x :: r).length - 1) → y ∈ stockI fs := fun y hy => h y (List.mem_of_mem_drop hy)
    have h5 := (txt_len pk h4).1
    refine ell_long pk (by rw [List.length_append, hdl]; simp) h3 ?_
    have e : txtN pc ((x :: r) ++ (x :: r).drop ((x :: r).length - 1)) = txtN pc (x :: r) ++ txtN pc ((x :: r).drop ((x :: r).length - 1)) := by simp [txtN]
    rw [e, List.length_append]
    walk_at "l"
  have e4 := ell_twice pk h hx
  have e5 : ell (Txt.slice (pieceS (txtN pc (x :: r))) (some 1) none) (pieceS (txtN pc (x :: r))) = false := by
    rw [slice_one hne, ell_plain _ _ fun q => hd (List.mem_of_mem_drop q), decide_eq_false_iff_not]
    intro q
    have := congrArg List.length q
    rw [List.length_drop] at this; walk_at "l"
  have e6 : ell (Txt.slice (pieceS (txtN pc (x :: r))) none (some (-1))) (pieceS (txtN pc (x :: r))) = false := by
    rw [slice_but hne, ell_plain _ _ fun q => hd (List.dropLast_subset _ q), decide_eq_false_iff_not]
    intro q
    have := congrArg List.length q
    rw [List.length_dropLast] at this; walk_at "l"
  have e7 : ell (pieceS (txtN pc (x :: r)) ++ pieceS (txtN pc (x :: r))) (pieceS (txtN pc (x :: r))) = false := by
    rw [pieceS_cat, ell_plain _ _ (by rw [List.mem_append]; exact fun q => q.elim hd hd), decide_eq_false_iff_not]
    intro q
    have := congrArg List.length q
    rw [List.length_append] at this; walk_at "l"
  simp only [tryI, moreS, List.map_cons, List.map_nil, List.cons_append, List.nil_append]
  rw [show ell (joinS pc (x :: r)) (pieceS (txtN pc (x :: r))) = true from e1]
  simp only [List.cons_append] at e2 e3
  simp only [List.cons_append] at *
  rw [e4, e5, e6, e7]
  simp only [ansL, List.cons.injEq, true_and, and_true]
  exact ⟨e2, e3⟩
theorem join_len {fs : List Nat} {pc : It → List Nat} {sg : It → Nat} (pk : PcOk fs pc sg) : ∀ {r : List It}, (∀ y, y ∈ r → y ∈ stockI fs) → (joinS pc r).length ≤ 5 * r.length
  | [], _ => by show (Txt.join dots []).length ≤ _; decide +kernel
  | x :: r, h => by
    unfold joinS
    rw [show ((x :: r).map fun x => pieceS (pc x)) = (pc x :: r.map pc).map pieceS by rw [List.map_cons, List.map_cons, List.map_map]; rfl, join_words, pieceS_len]
    have : ∀ (r : List It) (x : It), (∀ y, y ∈ x :: r → y ∈ stockI fs) → (wantN (pc x :: r.map pc)).length ≤ 5 * (x :: r).length := by
      intro r
      induction r with
      | nil => intro x h; have := (pc_len pk (h x List.mem_cons_self)).2; simp [wantN]; walk_at "l"
      | cons y r ih =>
        intro x h
        have h1 := (pc_len pk (h x List.mem_cons_self)).2
        have h2 := ih y fun z hz => h z (List.mem_cons_of_mem _ hz)
        simp only [List.map_cons, wantN, List.length_append, dotsN, List.length_cons, List.length_nil] at h2 ⊢
        walk_at "l"
    exact this r x h
section
variable {prog : Program} {w : World} {G : Gl prog w} {k : Nat}
theorem law_e (hG : Glo G) (hk : 27 ≤ k) (Fe : FnOk G "_ellipsis_match" 1 elRel) {cs : List Nat} {h n : Nat} {ls fs : List Nat} {pc : It → List Nat} {sg : It → Nat} (fk : FsOk h fs) (pk : PcOk fs pc sg) {its : List It} (hmem : its ∈ rowsAt fs 0) (hone : ∃ x r, its = x :: r ∧ x ∉ r) {P : Out → Prop}
    (next : ExTo G k (fnScope PP iLaw) (EF cs h ls fs pc n []) (lawB.drop 10) P) :
    ExTo G k (fnScope PP iLaw) (EF cs h ls fs pc n [("pieces", .own (.list (piecesD pc its))), ("text", .own (.str (pieceS (txtN pc its))))]) (lawB.drop 6) P := by
  have hlid : lid = 1048576 := rfl
  have hsz : sizeLine ≥ 1000 := by decide
  have hr3 := rows_small fk 0 hmem
  obtain ⟨x, r, rfl, hx⟩ := hone
  have hr4 := hr3.1
  have htl := (txt_len pk hr3.2).2
  have hxl := pc_len pk (hr3.2 x List.mem_cons_self)
  have hpl : (piecesD pc (x :: r)).length = (x :: r).length := by simp [piecesD]
  have htold := tries_told pk hr3.2 hx
  generalize ht : txtN pc (x :: r) = t at *
  have hdl3 : ("..." : Str).length = 3 := by decide +kernel
  have hsl : ∀ {lo hi : Option Int}, (Txt.slice (pieceS t) lo hi) = (Txt.slice (pieceS t) lo hi) := rfl
  have hne : t ≠ [] := by
    intro q
    have := (txt_len pk hr3.2).1
    rw [ht, q] at this; simp at this
  have hs1 : (Txt.slice (pieceS t) (some 1) none).length ≤ t.length := by rw [slice_one hne, pieceS_len, List.length_drop]; exact Nat.sub_le _ _
  have hs2 : (Txt.slice (pieceS t) none (some (-1))).length ≤ t.length := by rw [slice_but hne, pieceS_len, List.length_dropLast]; walk_at "l"
  refine ExTo.body (ss' := [_, _, _, _, _, _, _, _, _, _]) rfl ?_
  walk_at "t"
  case s1 =>
    with_reducible refine' Step.cmpN (ρ' := EF cs h ls fs pc n [("pieces", .own (.list (piecesD pc (x :: r)))), ("text", .own (.str (pieceS t))), ("tries", .own (strsL ((tryI (x :: r)).map (joinS pc))))]) (f := fun s : List It => .list (piecesD pc s)) (g := fun s : List It => .str (joinS pc s)) (xs := tryI (x :: r)) ?k1 ?k2 ?k3 ?k4 ?k5 ?k6 ?k7 ?k8 ?k9 ?k10
    case k1 => walk_at "k"
    case k2 => walk_at "x"
    case k3 =>
      have e : (tryI (x :: r)).map (fun s : List It => PyData.list (piecesD pc s)) = [.list (piecesD pc (x :: r)), .list ((piecesD pc (x :: r)).take 1 ++ piecesD pc (x :: r)), .list (piecesD pc (x :: r) ++ pickL (piecesD pc (x :: r)) (some (-1)) none none)] := by
        rw [pick_last _ (by simp [piecesD])]
        simp [tryI, piecesD, List.map_drop]
      rw [e]
      with_reducible refine' ItTo.tuple (EvTo.tuple (.cons ?n1 ?n2 (.cons ?n3 (EvTo.catL (EvL.of (EvTo.takeL (EvL.of ?n4) ?n5)) (EvL.of ?n6) ?n7) (.cons ?n8 (EvTo.catL (EvL.of ?n9) (EvL.of (EvTo.sliceL (EvL.of ?o1) (.some ?o2) .none .none ?o3)) ?o4) .nil))) ?o5)
      case n1 | n3 | n8 => exact fun _ _ => rfl
      case n2 | n4 | n6 | n9 | o1 => walk_at "x"
      case n5 => walk_at "n"
      case n7 => rw [List.length_append, hpl]; exact Nat.le_trans (Nat.add_le_add (List.length_take_le _ _) hr4) (show 1 + 4 ≤ lid from Nat.le_of_ble_eq_true rfl)
      case o2 => exact EvTo.neg EvTo.intC
      case o3 => decide
      case o4 =>
        have := pickL_length_le (piecesD pc (x :: r)) (some (-1)) none none
        rw [List.length_append, hpl]; walk_at "l"
      case o5 => exact Nat.le_of_ble_eq_true rfl
    case k4 => exact fun _ _ => rfl
    case k5 | k6 => walk_at "x"
    case k7 =>
      intro s hs
      have hsv : (∀ y, y ∈ s → y ∈ stockI fs) ∧ s.length ≤ 8 := by
        simp only [tryI, List.mem_cons, List.not_mem_nil, or_false] at hs
        rcases hs with rfl | rfl | rfl
        · exact ⟨hr3.2, by walk_at "l"⟩
        · refine ⟨fun y hy => ?_, by rw [List.length_append]; exact Nat.le_trans (Nat.add_le_add (List.length_take_le _ _) hr4) (by decide)⟩
          rcases List.mem_append.mp hy with q | q
          · exact hr3.2 y (List.mem_of_mem_take q)
          · exact hr3.2 y q
        · refine ⟨fun y hy => ?_, by rw [List.length_append]; exact Nat.le_trans (Nat.add_le_add hr4 (Nat.le_trans (by rw [List.length_drop]; exact Nat.sub_le _ _) hr4)) (by decide)⟩
          rcases List.mem_append.mp hy with q | q
          · exact hr3.2 y q
          · exact hr3.2 y (List.mem_of_mem_drop q)
      unfold joinS
      with_reducible refine' EvTo.join (ts := s.map fun x => pieceS (pc x)) ?n1 ?n2 ?n3 ?n4 ?n5 ?n6
      case n1 => exact EvTo.strC
      case n2 => exact fun _ => rfl
      case n3 => walk_at "x"
      case n4 => exact fun _ _ => rfl
      case n5 => rfl
      case n6 =>
        refine join_ok (c := 2) (by decide +kernel) (fun t ht => ?_) (by decide) (by rw [List.length_map]; exact Nat.le_trans hsv.2 (by decide))
        obtain ⟨y, hy, rfl⟩ := List.mem_map.mp ht
        rw [pieceS_len]; exact (pc_len pk (hsv.1 y hy)).2
    case k8 => exact Nat.le_of_ble_eq_true rfl
    case k9 => walk_at "x"
    case k10 =>
      rw [show (tryI (x :: r)).map (fun s : List It => PyData.str (joinS pc s)) = ((tryI (x :: r)).map (joinS pc)).map .str by rw [List.map_map]; rfl]
      walk_at "x"
  walk_at "t"
  case s1 =>
    with_reducible refine' Step.assign (ρ' := EF cs h ls fs pc n [("pieces", .own (.list (piecesD pc (x :: r)))), ("text", .own (.str (pieceS t))), ("tries", .own (strsL ((tryI (x :: r)).map (joinS pc) ++ moreS pc sg x t)))]) (d := strsL ((tryI (x :: r)).map (joinS pc) ++ moreS pc sg x t)) ?k1 ?k2 ?k3 ?k4
    case k2 => walk_at "x"
    case k3 => walk_at "x"
    case k4 => exact fun _ => rfl
    case k1 =>
      rw [show strsL ((tryI (x :: r)).map (joinS pc) ++ moreS pc sg x t) = .list (((tryI (x :: r)).map (joinS pc)).map .str ++ (moreS pc sg x t).map .str) by unfold strsL; rw [List.map_append]]
      have hp0 : (piecesD pc (x :: r))[(0 : Int).toNat]? = some (.str (pieceS (pc x))) := rfl
      have hlast := pc_last pk (hr3.2 x List.mem_cons_self)
      with_reducible refine' EvTo.catL (EvL.of ?m1) (EvL.of (EvTo.list (.cons ?m2 (EvTo.cat (EvTo.cat (EvTo.cat (EvTo.cat ?m3 (EvTo.item ?m4 ?m5 ?m6 hp0 ?m7) ?m8) ?m9 ?n1) (EvTo.cast (EvTo.itemS (EvTo.item ?n2 ?n3 ?n4 hp0 ?n5) ?n6 ?n7 hlast.2 ?n8) (congrArg PyData.str hlast.1)) ?n9) ?o1 ?o2) (.cons ?o3 (EvTo.sliceX ?o4 (.some ?o5) .none ?o6) (.cons ?o7 (EvTo.sliceX ?o8 .none (.some ?o9) ?p1) (.cons ?p2 (EvTo.cat ?p3 ?p4 ?p5) .nil)))) ?p6)) ?p7
      case m1 | m4 | n2 | o4 | o8 | p3 | p4 => walk_at "x"
      case m2 | o3 | o7 | p2 => exact fun _ _ => rfl
      case m3 | m9 | o1 => exact EvTo.strC
      case m5 | n3 => exact EvTo.intC
      case m6 | n4 => decide
      case m7 | n5 | n8 => exact fun _ _ => rfl
      case n6 => exact EvTo.neg EvTo.intC
      case n7 => decide
      case o5 => exact EvTo.intC
      case o9 => exact EvTo.neg EvTo.intC
      case m8 => rw [pieceS_len]; exact Nat.le_trans (show _ ≤ 1000 by walk_at "l") hsz
      case n1 => simp only [Str.length_append, pieceS_len]; exact Nat.le_trans (show _ ≤ 1000 by walk_at "l") hsz
      case n9 => simp only [Str.length_append, pieceS_len, one_len]; exact Nat.le_trans (show _ ≤ 1000 by walk_at "l") hsz
      case o2 => simp only [Str.length_append, pieceS_len, one_len]; exact Nat.le_trans (show _ ≤ 1000 by walk_at "l") hsz
      case o6 | p1 => rw [pieceS_len]; exact Nat.le_trans (show _ ≤ 1000 by walk_at "l") hsz
      case p5 => rw [pieceS_len]; exact Nat.le_trans (show _ ≤ 1000 by walk_at "l") hsz
      case p6 => exact Nat.le_of_ble_eq_true rfl
      case p7 => simp [tryI, moreS]; walk_at "l"
  have hwl : ∀ z, z ∈ (tryI (x :: r)).map (joinS pc) ++ moreS pc sg x t → z.length ≤ 100 := by
    intro z hz
    rcases List.mem_append.mp hz with q | q
    · obtain ⟨s, hs, rfl⟩ := List.mem_map.mp q
      simp only [tryI, List.mem_cons, List.not_mem_nil, or_false] at hs
      have hj : ∀ {s : List It}, (∀ y, y ∈ s → y ∈ stockI fs) → s.length ≤ 8 → (joinS pc s).length ≤ 100 := fun {s} h1 h2 => by have := join_len pk h1; walk_at "l"
      rcases hs with rfl | rfl | rfl
      · exact hj hr3.2 (by walk_at "l")
      · refine hj (fun y hy => ?_) (by rw [List.length_append]; exact Nat.le_trans (Nat.add_le_add (List.length_take_le _ _) hr4) (by decide))
        rcases List.mem_append.mp hy with q | q
        · exact hr3.2 y (List.mem_of_mem_take q)
        · exact hr3.2 y q
      · refine hj (fun y hy => ?_) (by rw [List.length_append]; exact Nat.le_trans (Nat.add_le_add hr4 (Nat.le_trans (by rw [List.length_drop]; exact Nat.sub_le _ _) hr4)) (by decide))
        rcases List.mem_append.mp hy with q | q
        · exact hr3.2 y q
        · exact hr3.2 y (List.mem_of_mem_drop q)
    · simp only [moreS, List.mem_cons, List.not_mem_nil, or_false] at q
      have hdd : dots.length = 3 := by decide +kernel
      rcases q with rfl | rfl | rfl | rfl
      · simp only [Str.length_append, pieceS_len, one_len]; walk_at "l"
      · walk_at "l"
      · walk_at "l"
      · rw [Str.length_append, pieceS_len]; walk_at "l"
  walk_at "t"
  case s1 =>
    with_reducible refine' Step.cmpN (ρ' := EF cs h ls fs pc n [("pieces", .own (.list (piecesD pc (x :: r)))), ("text", .own (.str (pieceS t))), ("tries", .own (strsL ((tryI (x :: r)).map (joinS pc) ++ moreS pc sg x t))), ("answers", .own (.list (ansL.map .bool)))]) (f := PyData.str) (g := fun z : Str => .bool (ell z (pieceS t))) (xs := (tryI (x :: r)).map (joinS pc) ++ moreS pc sg x t) ?k1 ?k2 ?k3 ?k4 ?k5 ?k6 ?k7 ?k8 ?k9 ?k10
    case k1 => walk_at "k"
    case k2 => walk_at "x"
    case k3 => walk_at "x"
    case k4 => exact fun _ _ => rfl
    case k5 | k6 => walk_at "x"
    case k7 =>
      intro z hz
      have := hwl z hz
      with_reducible refine' EvTo.user Fe ?n1 ?n2 (.cons ?n3 ?n4 (.cons ?n5 ?n6 .nil)) ⟨_, _, rfl, ?n7, rfl⟩
      case n1 => walk_at "k"
      case n2 => walk_at "l"
      case n3 | n5 => exact fun _ _ => rfl
      case n4 | n6 => walk_at "x"
      case n7 => exact ell_ok (by walk_at "l") (by rw [pieceS_len]; walk_at "l")
    case k8 => exact Nat.le_of_ble_eq_true rfl
    case k9 => walk_at "x"
    case k10 =>
      rw [show ((tryI (x :: r)).map (joinS pc) ++ moreS pc sg x t).map (fun z : Str => PyData.bool (ell z (pieceS t))) = ansL.map .bool by rw [← htold, List.map_map]; rfl]
      walk_at "x"
  with_reducible refine' ExTo.skipIf ?k1 ?k2
  case k1 =>
    with_reducible refine' TrTo.cast (TrTo.cmp (a := .list ((ansL.zipIdx.filter fun _ => false).map fun y => .int ((y.2 : Nat) : Int))) (b := .list []) ?m1 ?m2 (CmpOk.neD ?m3 ?m4 ?m5) ?m6) ?m7
    case m1 =>
      with_reducible refine' EvTo.cmpIfP (f1 := fun y => .int ((y.2 : Nat) : Int)) (f2 := fun y => .bool y.1) (g := fun y => .int ((y.2 : Nat) : Int)) (xs := ansL.zipIdx) (b := fun _ => false) ?n1 ?n2 ?n3 ?n4 ?n5 ?n6 ?n7 ?n8 ?n9 ?o1 ?o2 ?o3
      case n1 => walk_at "k"
      case n2 => walk_at "x"
      case n3 =>
        rw [show (ansL.zipIdx.map fun y => PyData.tuple [.int ((y.2 : Nat) : Int), .bool y.1]) = enumD 0 (ansL.map .bool) by rw [enumD_map]]
        with_reducible refine' ItTo.enumL ?p1 ?p2 ?p3 ?p4 ?p5
        case p1 => walk_at "k"
        case p2 => exact (Glo.enumerate hG).1
        case p3 => exact (Glo.enumerate hG).2
        case p4 => walk_at "x"
        case p5 => exact fun _ _ => rfl
      case n4 => exact fun _ _ => rfl
      case n5 | n6 | n7 | n8 => walk_at "x"
      case n9 => decide
      case o1 =>
        intro y hy
        with_reducible refine' TrTo.cast (TrTo.cmp ?p1 (EvTo.cmp (a := .int ((y.2 : Nat) : Int)) (b := .int ((0 : Nat) : Int)) ?p2 ?p3 CmpOk.eqI ?p4) CmpOk.isnB ?p5) ?p6
        case p1 => walk_at "x"
        case p2 | p3 => walk_at "n"
        case p4 => rfl
        case p5 => rfl
        case p6 =>
          have : ∀ y ∈ ansL.zipIdx, (y.1 != (((y.2 : Nat) : Int) == ((0 : Nat) : Int))) = false := by decide +kernel
          exact this y hy
      case o2 => intro y _ q; cases q
      case o3 => exact Nat.le_of_ble_eq_true rfl
    case m2 => exact EvTo.list .nil (by decide)
    case m3 => rfl
    case m4 => rfl
    case m5 => decide
    case m6 => rfl
    case m7 => rfl
  case k2 =>
  refine' ExTo.perm ?q1 ?q2 next
  case q1 => walk_at "x"
  case q2 => dsimp only [EF, ED, EA, List.map]; decide +kernel
end
noncomputable def frV (n : Nat) (fs : List Nat) (p : Nat) : Nat := pev (2 ^ n) (frP fs p)
theorem fr_step (n : Nat) (fs : List Nat) : ∀ p : Nat, frV n fs (p + 1) = fs.getD p 0 * frV n fs p + (if 1 ≤ p then frV n fs (p - 1) * 2 ^ n else 0)
  | 0 => by simp [frV, frP, pev]
  | p + 1 => by
    unfold frV
    rw [show frP fs (p + 1 + 1) = padd ((frP fs (p + 1)).map (fs.getD (p + 1) 0 * ·)) (0 :: frP fs p) from rfl, pev_add, pev_scale, if_pos (by walk_at "l"), Nat.add_sub_cancel, pev, Nat.zero_add, Nat.mul_comm (2 ^ n)]
structure FrOk (n : Nat) (fs : List Nat) (p : Nat) : Prop where
  id : frV n fs (p + 1) * wholeN n fs (p + 1) + (if p + 1 < fs.length then frV n fs p * wholeN n fs (p + 2) * 2 ^ n else 0) = wholeN n fs 0
  flt : (stockI fs).filter (fun x => x.1 + lenI fs x == p + 1) = (List.range (fs.getD p 0)).map (fun q => (p, q)) ++ (if 1 ≤ p then [(p - 1, fs.getD (p - 1) 0)] else [])
theorem fr_ok {h : Nat} {fs : List Nat} (fk : FsOk h fs) (n : Nat) {p : Nat} (hp : p < fs.length) : FrOk n fs p := by
  have b := fs_all (P := fun _ fs => numF fs) num_f fk.hh fk.w
  unfold numF at b
  simp only [List.all_eq_true, List.mem_range, Bool.and_eq_true, decide_eq_true_eq] at b
  obtain ⟨h1, h2⟩ := b p hp
  refine ⟨?_, h2⟩
  have h3 := pev_eq (2 ^ n) h1
  rw [pev_add, pev_mul] at h3
  unfold frV wholeN
  rw [pev_undig, pev_undig, pev_undig, ← h3]
  congr 1
  split
  · rw [pev, pev_mul, Nat.zero_add, Nat.mul_comm (2 ^ n)]
  · rfl
theorem sum_pows (x : Nat) (fs : List Nat) : ∀ rs : List (List It), (∀ r, r ∈ rs → pairsI fs r < 3) → (rs.map fun r => x ^ pairsI fs r).sum = pev x ((List.range 3).map fun j => (rs.filter fun r => pairsI fs r == j).length)
  | [], _ => by simp [List.range_succ, pev]
  | r :: rs, h => by
    have ih := sum_pows x fs rs fun s hs => h s (List.mem_cons_of_mem _ hs)
    have h0 := h r List.mem_cons_self
    rw [List.map_cons, List.sum_cons, ih]
    simp only [List.range_succ_eq_map, List.range_zero, List.map_cons, List.map_nil, pev, Nat.mul_zero, Nat.add_zero]
    have hc : pairsI fs r = 0 ∨ pairsI fs r = 1 ∨ pairsI fs r = 2 := by walk_at "l"
    rcases hc with e | e | e <;> simp [List.filter_cons, e] <;> grind
theorem pairs3 {h : Nat} {fs : List Nat} (fk : FsOk h fs) {r : List It} (hr : r ∈ rowsAt fs 0) : pairsI fs r < 3 := by
  have h1 := ((fk.rows 0 (Nat.zero_le _)).2.2 r hr).2.1
  rw [Nat.sub_zero] at h1
  have h2 := fk.len
  have h3 := fk.hh
  walk_at "l"
theorem both_sum (n : Nat) {h : Nat} {fs : List Nat} (fk : FsOk h fs) : (((rowsAt fs 0).filter (bothB fs)).map fun r => (2 ^ n) ^ pairsI fs r).sum = pev (2 ^ n) (bothP fs) := by
  exact sum_pows (2 ^ n) fs _ fun r hr => pairs3 fk (List.mem_filter.mp hr).1
theorem pev_shift (x : Nat) : ∀ k : Nat, pev x (List.replicate k 0 ++ [1]) = x ^ k
  | 0 => by simp [pev]
  | k + 1 => by rw [List.replicate_succ, List.cons_append, pev, pev_shift x k, Nat.pow_succ, Nat.zero_add, Nat.mul_comm]
theorem last_num {h : Nat} {fs : List Nat} (fk : FsOk h fs) (n : Nat) :
    ((wholeN n fs 0 * pev (2 ^ n) (bothP fs) : Nat) : Int) - ((wholeN n fs 1 * frV n fs (fs.length - 1) : Nat) : Int) = (((2 ^ n) ^ (fs.length - 1) : Nat) : Int) * (((1 : Nat) : Int) - ((fs.length % 2 * 2 : Nat) : Int)) := by
  have b := fs_all (P := fun _ fs => numG fs) num_g fk.hh fk.w
  unfold numG at b
  unfold wholeN frV
  rw [pev_undig, pev_undig]
  split at b
  · rename_i e
    have h3 := pev_eq (2 ^ n) b
    rw [pev_add, pev_mul, pev_mul, pev_shift] at h3
    rw [e, h3]
    push_cast
    grind
  · rename_i e
    have e1 : fs.length % 2 = 1 := by walk_at "l"
    have h3 := pev_eq (2 ^ n) b
    rw [pev_add, pev_mul, pev_mul, pev_shift] at h3
    rw [e1, ← h3]
    push_cast
    grind
theorem fold_knd {h : Nat} {ls : List Nat} (ok : LsOk h ls) {fs : List Nat} (hl : fs.length = ls.length) {x : It} (hx : x ∈ stockI fs) : foldI ls fs x ∈ kndL ls := List.mem_of_getElem? (knd_at ok hl hx)
noncomputable def endF (ls : List Nat) (p : Nat) : List Str := (kndL ls).filter fun f => (endL ls (p + 1)).contains f
theorem endF_fold {h : Nat} {ls : List Nat} (ok : LsOk h ls) (W : WordOk ls) {fs : List Nat} (hl : fs.length = ls.length) {p : Nat} (hp : p < ls.length) {x : It} (hx : x ∈ stockI fs) : (endF ls p).contains (foldI ls fs x) = (x.1 + lenI fs x == p + 1) := by
  rw [← end_fold W hl hp hx, Bool.eq_iff_iff, List.contains_iff_mem]
  unfold endF
  rw [List.mem_filter]
  exact ⟨fun q => q.2, fun q => ⟨fold_knd ok hl hx, q⟩⟩
theorem sum_const (c : Nat) : ∀ n : Nat, ((List.range n).map fun _ => c).sum = n * c
  | 0 => by simp
  | n + 1 => by rw [List.range_succ, List.map_append, List.sum_append, sum_const c n]; simp [Nat.succ_mul]
theorem front_sum {h : Nat} {ls : List Nat} (ok : LsOk h ls) (W : WordOk ls) {fs : List Nat} (hl : fs.length = ls.length) {n p : Nat} (hp : p < fs.length) (F : FrOk n fs p) :
    (((stockI fs).filter fun x => (endF ls p).contains (foldI ls fs x)).map fun x => frV n fs (p + 1 - lenI fs x) * (2 ^ n) ^ (lenI fs x - 1)).sum = frV n fs (p + 1) := by
  have e : ((stockI fs).filter fun x => (endF ls p).contains (foldI ls fs x)) = (stockI fs).filter fun x => x.1 + lenI fs x == p + 1 := List.filter_congr fun x hx => endF_fold ok W hl (by walk_at "l") hx
  rw [e, F.flt, List.map_append, List.sum_append, List.map_map, fr_step]
  congr 1
  · rw [← sum_const]
    congr 1
    refine List.map_congr_left fun q hq => ?_
    have hd : lenI fs (p, q) = 1 := by unfold lenI; rw [isD_lt (List.mem_range.mp hq), if_neg (by decide)]
    simp only [Function.comp, hd]
    simp
  · split
    · have hd : lenI fs (p - 1, fs.getD (p - 1) 0) = 2 := by unfold lenI; rw [isD_at, if_pos rfl]
      simp only [List.map_cons, List.map_nil, List.sum_cons, List.sum_nil, hd, Nat.add_zero]
      rw [show p + 1 - 2 = p - 1 by walk_at "l", Nat.pow_one]
    · rfl
section
variable {prog : Program} {w : World} {G : Gl prog w} {k : Nat}
theorem CmpOk.eqPairs {ts : List Int} : CmpOk G k .Eq (.tuple (ts.map .int)) (.tuple (ts.map .int)) true := by
  have h : (PyData.tuple (ts.map .int)).canLay0 = true := by simp only [PyData.canLay0]; exact (lay_ints ts).1
  have := CmpOk.eqD (G := G) (k := k) h h (by simp only [PyData.depth, (lay_ints ts).2]; decide)
  rw [PySem.SeqAt.eqv_refl _ h] at this
  exact this
theorem sgl_last {sc : Scope} {ρ : VEnv} {fs : List Nat} {pc : It → List Nat} {ei : Expr} {pp pos : Pos} (hp : 0 < fs.length) (hr : (("singles" : Str), B.own (sglD fs pc)) ∈ ρ) (hi : EvTo G k sc ρ ei (.int (-1))) (hs : ∀ o i', subscripted ei false o i' = operate [o, i'] (getItem o i')) :
    EvTo G k sc ρ (.Subscript (.Name "singles" pp) ei pos) (.list ((List.range (fs.getD (fs.length - 1) 0)).map fun q => .str (pieceS (pc (fs.length - 1, q))))) := by
  refine EvTo.itemN (n := -1) (EvL.of (EvTo.var hr)) hi (by decide) (by simp; walk_at "l") ?_ hs
  rw [List.length_map, List.length_range, last_nat hp, List.getElem?_map, List.getElem?_range (sub1_lt hp), Option.map_some]
  unfold strsL
  rw [List.map_map]; rfl
theorem natL_map {α : Type} (f : α → Nat) (xs : List α) : (xs.map fun x => PyData.int ((f x : Nat) : Int)) = natL (xs.map f) := by unfold natL; rw [List.map_map]; rfl
theorem law_f (hG : Glo G) (hk : 27 ≤ k) (Fe : FnOk G "_ellipsis_match" 1 elRel) (Fid : FnOk G "int_divmod" 27 idRel) {cs : List Nat} {h n : Nat} {ls fs : List Nat} {pc : It → List Nat} {sg : It → Nat} (hw : IsWord h ls) (lk : LsOk h ls) (fk : FsOk h fs) (pk : PcOk fs pc sg) (hn : 8 ≤ n) (hn2 : n ≤ 67) :
    ExTo G k (fnScope PP iLaw) (EF cs h ls fs pc n []) (lawB.drop 10) (fun o => o = .ret (.bool true)) := by
  have hlid : lid = 1048576 := rfl
  have hm := fk.len
  have hh4 := fk.hh
  have hsz : sizeLine ≥ 1000 := by decide
  have W := word_ok hw
  have hlen : fs.length = ls.length := by rw [fk.len, lk.len]
  have hm4 : fs.length ≤ 4 := by walk_at "l"
  have hm0 : 0 < fs.length := by walk_at "l"
  have hsl := stock_len (fs := fs) hm4 fun f hf => (fk.two f hf).2
  have hwl : (wordS ls).length ≤ 4 := by rw [wordS_len]; walk_at "l"
  have hkl := knd_len (ls := ls) (hlen ▸ hm4)
  have hdl3 : ("..." : Str).length = 3 := by decide +kernel
  have hb201 : (2 : Nat) ^ 201 < 2 ^ 250 := pow_lt (by decide)
  have hb250 : (2 : Nat) ^ 250 < 2 ^ 1000 := pow_lt (by decide)
  have hbn : (2 : Nat) ^ n < 2 ^ 70 := pow_lt (by walk_at "l")
  have hb70 : (2 : Nat) ^ 70 < 2 ^ 201 := pow_lt (by decide)
  have hbits : Builtin.Int.intBits ((2 ^ n : Nat) : Int) ≤ 70 := intBits_le hbn
  have hbase := pow_ge hn
  have h1000 := Nat.lt_trans hb201 hb250
  have hn1000 := Nat.lt_trans hbn (Nat.lt_trans hb70 h1000)
  have hWl : ∀ q, q ≤ fs.length → wholeN n fs q < 2 ^ 201 := fun q hq => whole_lt (cnt_ok fk hq) hn hn2
  have hWpos : ∀ q, q ≤ fs.length → 0 < wholeN n fs q := fun q hq => by
    unfold wholeN
    rw [pev_undig]
    exact Nat.lt_of_lt_of_le (Nat.pow_pos (by walk_at "l")) (pev_ge _ (cnt_ok fk hq).last)
  have hF : ∀ q, q ≤ fs.length → frV n fs q < 2 ^ 201 := fun q hq => by
    cases q with
    | zero => show pev (2 ^ n) [1] < _; simp only [pev, Nat.mul_zero, Nat.add_zero]; walk_at "l"
    | succ q =>
      have h1 := (fr_ok fk n hq).id
      have h2 := Nat.le_mul_of_pos_right (frV n fs (q + 1)) (hWpos (q + 1) hq)
      exact Nat.lt_of_le_of_lt (Nat.le_trans h2 (Nat.le_trans (Nat.le_add_right _ _) (Nat.le_of_eq h1))) (hWl 0 (Nat.zero_le _))
  have hpw : ∀ j, j ≤ 3 → (2 ^ n) ^ j < 2 ^ 250 := fun j hj => by
    rw [← Nat.pow_mul]
    refine pow_lt ?_
    have := Nat.mul_le_mul hn2 hj
    walk_at "l"
  have hboth : pev (2 ^ n) (bothP fs) < 2 ^ 250 := by
    refine Nat.lt_trans (pev_lt (2 ^ n) fun c hc => ?_) (hpw 3 (Nat.le_refl _))
    unfold bothP at hc
    obtain ⟨j, _, rfl⟩ := List.mem_map.mp hc
    have h1 := Nat.le_trans (List.length_filter_le (fun r => pairsI fs r == j) ((rowsAt fs 0).filter (bothB fs))) (List.length_filter_le (bothB fs) (rowsAt fs 0))
    exact Nat.lt_of_le_of_lt (Nat.le_trans h1 (fk.rows 0 (Nat.zero_le _)).2.1) (Nat.lt_of_lt_of_le (by decide : 100 < 256) hbase)
  refine ExTo.body (ss' := [_, _, _, _, _, _]) rfl ?_
  walk_at "t"
  case s1 =>
    with_reducible refine' Step.assignIt (b := .mu (natL ((List.range 1).map (frV n fs)))) ?k1 ?k2 ?k3 ?k4
    case k2 => walk_at "x"
    case k3 => walk_at "x"
    case k4 => exact fun _ => rfl
    case k1 =>
      have e : natL ((List.range 1).map (frV n fs)) = [.int ((1 : Nat) : Int)] := by simp [natL, frV, frP, pev, List.range_succ]
      rw [e]
      with_reducible refine' EvIt.list (.cons ?m1 ?m2 .nil) ?m9
      case m1 => exact fun _ _ => rfl
      case m2 => walk_at "n"
      case m9 => exact Nat.le_of_ble_eq_true rfl
  with_reducible refine' ExTo.for (α := Nat) (f := fun i : Nat => .int ((i + 1 : Nat) : Int)) (xs := List.range fs.length) (Iv := fun _ => True)
                      (R := fun i => EF cs h ls fs pc n [("fronts", .mu (natL ((List.range (i + 1)).map (frV n fs))))])
                      (ρb := fun i y => EF cs h ls fs pc n [("fronts", .mu (natL ((List.range (i + 1)).map (frV n fs)))), ("place", .own (.int ((y + 1 : Nat) : Int)))])
                      ?l1 ?l2 ?l3 trivial ?l5 ?l6 ?l7
  case l1 =>
    have e : (List.range fs.length).map (fun i : Nat => PyData.int ((i + 1 : Nat) : Int)) = (rangeL ((1 : Nat) : Int) ((1 + h + 1 : Nat) : Int) 1).map .int := by
      rw [range_from, List.map_map, hm, show 1 + h + 1 - 1 = 1 + h by walk_at "l"]
      refine List.map_congr_left fun i _ => ?_
      show PyData.int ((i + 1 : Nat) : Int) = .int ((1 + i : Nat) : Int)
      rw [Nat.add_comm]
    rw [e]
    with_reducible refine' ItTo.range2 ?o1 ?o2 ?o3 ?o4 (EvTo.addN ?o5 ?o6) ?o8 ?o9 ?p1
    case o1 => walk_at "k"
    case o2 => exact (Glo.range hG).1
    case o3 => exact (Glo.range hG).2
    case o4 | o5 | o6 => walk_at "n"
    case o8 | o9 => exact fun _ _ => rfl
    case p1 => exact small_from _ (by decide) _ (by walk_at "l")
  case l2 => exact fun _ _ => rfl
  case l3 => exact Wkn.refl _
  case l5 => intro i y hy _; walk_at "x"
  case l6 =>
    intro i p hy _
    have hp : p < fs.length := List.mem_range.mp (List.mem_of_getElem? hy)
    have hpi : p = i := by
      have hi : i < fs.length := by have := (List.getElem?_eq_some_iff.mp hy).1; simpa using this
      rw [List.getElem?_range hi] at hy
      exact (Option.some.inj hy).symm
    subst hpi
    have F := fr_ok fk n hp
    have hpl : p < ls.length := hlen ▸ hp
    have hcut := (W.cut (p + 1) hpl).2
    walk_at "t"
    case s1 =>
      with_reducible refine' Step.cmpIfN (ρ' := EF cs h ls fs pc n [("fronts", .mu (natL ((List.range (p + 1)).map (frV n fs)))), ("place", .own (.int ((p + 1 : Nat) : Int))), ("ends", .own (strsL (endF ls p)))]) (f := PyData.str) (g := PyData.str) (xs := kndL ls) (b := fun f => ell (dots ++ f) (Txt.slice (wordS ls) none (some ((p + 1 : Nat) : Int)))) ?k1 ?k2 ?k3 ?k4 ?k5 ?k6 ?k7 ?k8 ?k9 ?k10 ?k11
      case k1 => walk_at "k"
      case k2 => walk_at "x"
      case k3 =>
        have e : (kndL ls).map PyData.str = (dk ((kndL ls).map fun y => (y, PyData.int 0))).map (·.1) := by
          unfold dk; rw [List.map_map, List.map_map]; rfl
        rw [e]
        walk_at "x"
      case k4 => exact fun _ _ => rfl
      case k5 => walk_at "x"
      case k6 => walk_at "x"
      case k7 =>
        intro f hf
        have hf2 := W.knd f hf
        with_reducible refine' TrTo.cast (TrTo.cmp (EvTo.user Fe ?m1 ?m2 (.cons ?m3 (EvTo.cat ?m4 ?m5 ?m6) (.cons ?m7 (EvTo.sliceX ?m8 .none (.some ?m9) ?n1) .nil)) ⟨_, _, rfl, ?n2, rfl⟩) EvTo.boolC CmpOk.isB ?n3) ?n4
        case m1 => walk_at "k"
        case m2 => walk_at "l"
        case m3 | m7 => exact fun _ _ => rfl
        case m4 => walk_at "x"
        case m5 => walk_at "x"
        case m6 => rw [hdl3]; exact Nat.le_trans (show _ ≤ 1000 by walk_at "l") hsz
        case m8 => walk_at "x"
        case m9 => walk_at "n"
        case n1 => exact Nat.le_trans (show _ ≤ 1000 by walk_at "l") hsz
        case n2 =>
          refine ell_ok ?_ (by walk_at "l")
          rw [Str.length_append, hdl3]; walk_at "l"
        case n3 => rfl
        case n4 => exact beq_true _
      case k8 => intro f hf _; walk_at "x"
      case k9 => walk_at "l"
      case k10 => walk_at "x"
      case k11 =>
        rw [← W.ends p hpl]
        show Upd _ (.own (strsL (endF ls p))) _ _
        walk_at "x"
    have hget : ((List.range (p + 1)).map (frV n fs)).length = p + 1 := by simp
    walk_at "t"
    case s1 =>
      with_reducible refine' Step.append (d := .int ((frV n fs (p + 1) : Nat) : Int)) ?m1 (EvTo.cast (EvTo.sumN ?n1 ?n2 ?n3 (EvTo.cast (EvTo.cmpIfP (f1 := fun x => .str (pieceS (pc x))) (f2 := fun x => .str (foldI ls fs x)) (g := fun x => .int ((frV n fs (p + 1 - lenI fs x) * (2 ^ n) ^ (lenI fs x - 1) : Nat) : Int)) (xs := stockI fs) (b := fun x => (endF ls p).contains (foldI ls fs x)) ?k1 ?k2 ?k3 ?k4 ?k5 ?k6 ?k7 ?k8 ?k9 ?o1 ?o2 ?o3) ?n4) ?n5) ?n6) ?m3 ?m4 ?m5 ?m6
      case m1 => walk_at "x"
      case n1 => walk_at "k"
      case n2 => exact (Glo.sum hG).1
      case n3 => exact (Glo.sum hG).2
      case k1 => walk_at "k"
      case k2 => walk_at "x"
      case k3 => walk_at "x"
      case k4 => exact fun _ _ => rfl
      case k5 | k6 | k7 | k8 => walk_at "x"
      case k9 => decide
      case o1 =>
        intro x _
        with_reducible refine' TrTo.cmp ?n1 ?n2 CmpOk.inStrs ?n3
        case n1 => walk_at "x"
        case n2 => walk_at "x"
        case n3 => rfl
      case o2 =>
        intro x hx hb
        rw [endF_fold lk W hlen hpl hx, beq_iff_eq] at hb
        have hl2 : lenI fs x = 1 ∨ lenI fs x = 2 := by unfold lenI; split <;> simp
        have hle : lenI fs x ≤ p + 1 := Nat.le_trans (Nat.le_add_left _ _) (Nat.le_of_eq hb)
        have hq : p + 1 - lenI fs x < p + 1 := Nat.sub_lt (Nat.succ_pos p) (by rcases hl2 with q | q <;> rw [q] <;> decide)
        have hq2 : lenI fs x - 1 ≤ 1 := by rcases hl2 with q | q <;> rw [q] <;> decide
        generalize hX : foldI ls fs x = X
        have hXl : X.length = lenI fs x := by rw [← hX, fold_len]
        rw [← hXl] at hle hq hq2 ⊢
        have h1 : 1 ≤ X.length := by rw [hXl]; rcases hl2 with q | q <;> rw [q] <;> decide
        have hX2 : X.length ≤ 2 := by rw [hXl]; rcases hl2 with q | q <;> rw [q] <;> decide
        with_reducible refine' EvTo.mulN (EvTo.itemNat ?p1 (EvTo.subN ?p2 (EvTo.lenS ?q1 ?q2 ?q3 ?q4 ?q5 ?q6) hle) (range_get (frV n fs) hq) ?p3) (EvTo.powN ?p4 (EvTo.subN (EvTo.lenS ?r1 ?r2 ?r3 ?r4 ?r5 ?r6) ?p5 h1) ?p6) ?p7
        case q1 | r1 => walk_at "k"
        case q2 | r2 => exact (Glo.len hG).1
        case q3 | r3 => exact (Glo.len hG).2
        case q4 | r4 => walk_at "x"
        case q5 | r5 => exact fun _ _ => rfl
        case q6 | r6 => exact Nat.lt_of_le_of_lt hX2 (by decide)
        case p1 => walk_at "x"
        case p2 | p4 | p5 => walk_at "n"
        case p3 => exact fun _ _ => rfl
        case p6 =>
          have := Nat.mul_le_mul hbits hq2
          exact_mod_cast Nat.le_trans this (by decide)
        case p7 =>
          refine mul_ok ?_ ?_
          · exact Nat.lt_trans (hF (p + 1 - X.length) (Nat.le_trans (Nat.sub_le _ _) hp)) h1000
          · exact Nat.lt_trans (hpw (X.length - 1) (Nat.le_trans hq2 (by decide))) hb250
      case o3 => walk_at "l"
      case n4 => exact congrArg PyData.list (natL_map _ _)
      case n6 => rw [front_sum lk W hlen hp F]
      case n5 => exact fun _ _ => rfl
      case m3 => exact fun _ _ => rfl
      case m4 => rfl
      case m5 => walk_at "x"
      case m6 => unfold natL; rw [List.length_map, hget]; walk_at "l"
    rw [natL_succ (frV n fs)]
    have f0 := Nat.lt_trans (hF p (Nat.le_of_lt hp)) h1000
    have f1 := Nat.lt_trans (hF (p + 1) hp) h1000
    have w1 := Nat.lt_trans (hWl (p + 1) hp) h1000
    have hmul : ∀ {a b : Nat}, a < 2 ^ 201 → b < 2 ^ 201 → a * b < 2 ^ 1000 := fun {a b} ha hb => by
      refine Nat.lt_trans (m := 2 ^ (201 + 201)) ?_ (pow_lt (by decide))
      rw [Nat.pow_add]; exact Nat.mul_lt_mul'' ha hb
    walk_at "t"
    case s1 =>
      with_reducible refine' Step.assign (d := .int ((if p + 1 < fs.length then frV n fs p * wholeN n fs (p + 2) * 2 ^ n else 0 : Nat) : Int)) (EvTo.cast (EvTo.iteB (t := p + 1 < fs.length) (x := .int ((frV n fs p * wholeN n fs (p + 2) * 2 ^ n : Nat) : Int)) (y := .int ((0 : Nat) : Int)) ?c1 ?c2 ?c3) ?c4) ?k2 ?k3 ?k4
      case k2 => walk_at "x"
      case k3 => walk_at "x"
      case k4 => exact fun _ => rfl
      case c1 =>
        with_reducible refine' TrTo.cast (TrTo.cmp (a := .int ((p + 1 : Nat) : Int)) (b := .int ((1 + h : Nat) : Int)) ?n1 ?n2 CmpOk.ltI ?n3) ?n4
        case n1 | n2 => walk_at "x"
        case n3 => rfl
        case n4 => rw [Bool.eq_iff_iff, decide_eq_true_iff, decide_eq_true_iff, hm]; exact Int.ofNat_lt
      case c2 =>
        intro hlt
        have w2 := hWl (p + 2) hlt
        with_reducible refine' EvTo.mulN (EvTo.mulN (EvTo.itemNat ?n1 (EvTo.subN ?n2 ?n3 ?n4) ?n5 ?n6) (EvTo.itemNat ?n7 (EvTo.addN ?n8 ?n9) ?o1 ?o2) ?o3) ?o4 ?o5
        case n1 | n7 => walk_at "x"
        case n2 | n3 | n8 | n9 | o4 => walk_at "n"
        case n4 => exact Nat.succ_pos p
        case n5 => exact range_get (frV n fs) (Nat.lt_succ_of_lt (Nat.lt_succ_self p))
        case n6 | o2 => exact fun _ _ => rfl
        case o1 => exact range_get (wholeN n fs) (Nat.succ_lt_succ hlt)
        case o3 => exact mul_ok f0 (Nat.lt_trans w2 h1000)
        case o5 => exact mul_ok (hmul (hF p (Nat.le_of_lt hp)) w2) hn1000
      case c3 => intro _; walk_at "n"
      case c4 => split <;> rfl
    with_reducible refine' ExTo.skipIf ?k1 (ExTo.nil ⟨?k3, trivial⟩)
    case k3 => walk_at "x"
    case k1 =>
      with_reducible refine' TrTo.cast (TrTo.cmp (a := .int ((frV n fs (p + 1) * wholeN n fs (p + 1) + (if p + 1 < fs.length then frV n fs p * wholeN n fs (p + 2) * 2 ^ n else 0) : Nat) : Int)) (b := .int ((wholeN n fs 0 : Nat) : Int)) (EvTo.addN (EvTo.mulN (EvTo.itemNat ?n1 ?n2 ?n3 ?n4) (EvTo.itemNat ?n5 ?n6 ?n7 ?n8) ?n9) ?o1) (EvTo.itemNat ?o2 ?o3 ?o4 ?o5) CmpOk.neI ?m7) ?m8
      case n1 | n5 | o2 => walk_at "x"
      case n2 | n6 | o1 | o3 => walk_at "n"
      case n3 => exact range_get (frV n fs) (Nat.lt_succ_self _)
      case n7 => exact range_get (wholeN n fs) (Nat.succ_lt_succ hp)
      case o4 => exact range_get (wholeN n fs) (Nat.succ_pos _)
      case n4 | n8 | o5 => exact fun _ _ => rfl
      case n9 => exact mul_ok f1 w1
      case m7 => rfl
      case m8 => rw [F.id]; simp
  case l7 =>
    intro _
    rw [List.length_range]
    have hl1 := sub1_lt hm0
    have hf0 := Nat.lt_of_lt_of_le (by decide : 0 < 2) (fk.f (p := 0) hm0).1
    have hfl := Nat.lt_of_lt_of_le (by decide : 0 < 2) (fk.f (p := fs.length - 1) hl1).1
    have ha : (0, fs.getD 0 0 - 1) ∈ stockI fs := mem_stock.mpr ⟨hm0, .inl (sub1_lt hf0)⟩
    have hb : (fs.length - 1, fs.getD (fs.length - 1) 0 - 1) ∈ stockI fs := mem_stock.mpr ⟨hl1, .inl (sub1_lt hfl)⟩
    have hla := (pc_len pk ha).2
    have hlb := (pc_len pk hb).2
    have hpat : ∀ r, r ∈ rowsAt fs 0 → ell (pieceS (pc (0, fs.getD 0 0 - 1)) ++ dots ++ pieceS (pc (fs.length - 1, fs.getD (fs.length - 1) 0 - 1))) (pieceS (txtN pc r)) = bothB fs r := fun r hr => ell_pat pk ha hb (rows_small fk 0 hr).2
    walk_at "t"
    case s1 =>
      with_reducible refine' Step.assign (d := .str (pieceS (pc (0, fs.getD 0 0 - 1)) ++ dots ++ pieceS (pc (fs.length - 1, fs.getD (fs.length - 1) 0 - 1)))) (EvTo.cat (EvTo.cat ?n1 ?n2 ?n3) ?n4 ?n5) ?k2 ?k3 ?k4
      case k2 => walk_at "x"
      case k3 => walk_at "x"
      case k4 => exact fun _ => rfl
      case n1 => exact last_ev (f := fs.getD 0 0) (g := fun q => pieceS (pc (0, q))) hf0 (sgl_ev (p := 0) (fs := fs) (pc := pc) hm0 (by walk_at "x") (by walk_at "n") (fun _ _ => rfl)) (EvTo.neg EvTo.intC) (fun _ _ => rfl)
      case n2 => exact EvTo.strC
      case n3 => rw [pieceS_len, show dots.length = 3 from hdl3]; exact Nat.le_trans (show _ ≤ 1000 by walk_at "l") hsz
      case n4 => exact last_ev (f := fs.getD (fs.length - 1) 0) (g := fun q => pieceS (pc (fs.length - 1, q))) hfl (sgl_last (fs := fs) (pc := pc) hm0 (by walk_at "x") (EvTo.neg EvTo.intC) (fun _ _ => rfl)) (EvTo.neg EvTo.intC) (fun _ _ => rfl)
      case n5 => simp only [Str.length_append, pieceS_len, hdl3]; exact Nat.le_trans (show _ ≤ 1000 by walk_at "l") hsz
    have hpl : (pieceS (pc (0, fs.getD 0 0 - 1)) ++ dots ++ pieceS (pc (fs.length - 1, fs.getD (fs.length - 1) 0 - 1))).length ≤ 10 := by
      simp only [Str.length_append, pieceS_len, hdl3]; walk_at "l"
    generalize (pieceS (pc (0, fs.getD 0 0 - 1)) ++ dots ++ pieceS (pc (fs.length - 1, fs.getD (fs.length - 1) 0 - 1))) = pat at *
    have hrl := (fk.rows 0 (Nat.zero_le _)).2.1
    walk_at "t"
    case s1 =>
      with_reducible refine' Step.assign (d := .int ((pev (2 ^ n) (bothP fs) : Nat) : Int)) (EvTo.cast (EvTo.sumN ?n1 ?n2 ?n3 (EvTo.cast (EvTo.cmpIfP (f1 := fun r => .str (pieceS (txtN pc r))) (f2 := fun r => .int ((pairsI fs r : Nat) : Int)) (g := fun r => .int (((2 ^ n) ^ pairsI fs r : Nat) : Int)) (xs := rowsAt fs 0) (b := bothB fs) ?k1 ?k5 ?k6 ?k7 ?k8 ?k9 ?l1 ?l2 ?l3 ?o1 ?o2 ?o3) ?n4) ?n6) ?n5) ?k2 ?k3 ?k4
      case k2 => walk_at "x"
      case k3 => walk_at "x"
      case k4 => exact fun _ => rfl
      case n1 => walk_at "k"
      case n2 => exact (Glo.sum hG).1
      case n3 => exact (Glo.sum hG).2
      case k1 => walk_at "k"
      case k5 => walk_at "x"
      case k6 =>
        refine ItTo.list ?_
        exact rows_ev (Nat.zero_le _) (by walk_at "x") (by walk_at "n") (fun _ _ => rfl)
      case k7 => exact fun _ _ => rfl
      case k8 | k9 | l1 | l2 => walk_at "x"
      case l3 => decide
      case o1 =>
        intro r hr
        have hr3 := rows_small fk 0 hr
        have htl := (txt_len pk hr3.2).2
        have hr4 := hr3.1
        with_reducible refine' TrTo.cast (TrTo.cmp (EvTo.user Fe ?p1 ?p2 (.cons ?p3 ?p4 (.cons ?p5 ?p6 .nil)) ⟨_, _, rfl, ?p7, rfl⟩) EvTo.boolC CmpOk.isnB ?p8) ?p9
        case p1 => walk_at "k"
        case p2 => walk_at "l"
        case p3 | p5 => exact fun _ _ => rfl
        case p4 | p6 => walk_at "x"
        case p7 => exact ell_ok (Nat.le_trans hpl (by decide)) (by rw [pieceS_len]; walk_at "l")
        case p8 => rfl
        case p9 => rw [hpat r hr]; exact Bool.bne_false _
      case o2 =>
        intro r hr _
        have hpr := pairs3 fk hr
        with_reducible refine' EvTo.powN ?p1 ?p2 ?p3
        case p1 | p2 => walk_at "n"
        case p3 =>
          have := Nat.mul_le_mul hbits (Nat.le_of_lt hpr)
          exact_mod_cast Nat.le_trans this (by decide)
      case o3 => walk_at "l"
      case n4 => exact congrArg PyData.list (natL_map _ _)
      case n5 => rw [both_sum n fk]
      case n6 => exact fun _ _ => rfl
    have g0 : ((List.range (fs.length + 1)).map (wholeN n fs))[0]? = some (wholeN n fs 0) := range_get _ (Nat.succ_pos _)
    have g1 : ((List.range (fs.length + 1)).map (wholeN n fs))[1]? = some (wholeN n fs 1) := range_get _ (Nat.succ_lt_succ hm0)
    have gf : ((List.range (fs.length + 1)).map (frV n fs))[1 + h - 1]? = some (frV n fs (fs.length - 1)) := by rw [hm]; exact range_get _ (by walk_at "l")
    have w0 := Nat.lt_trans (hWl 0 (Nat.zero_le _)) h1000
    have w1 := Nat.lt_trans (hWl 1 hm0) h1000
    have f1 := Nat.lt_trans (hF (fs.length - 1) (Nat.sub_le _ _)) h1000
    have hlast := last_num fk n
    generalize hS : (((1 : Nat) : Int) - ((fs.length % 2 * 2 : Nat) : Int)) = S at hlast
    have hSa : S.natAbs = 1 := by rw [← hS]; rcases Nat.mod_two_eq_zero_or_one fs.length with e | e <;> rw [e] <;> rfl
    obtain ⟨D, hD⟩ : ∃ D, (2 ^ n) ^ (fs.length - 1) = D := ⟨_, rfl⟩
    have hDl : D < 2 ^ 250 := by rw [← hD]; exact hpw _ (Nat.sub_le_sub_right hm4 1)
    have hDpos : 0 < D := by rw [← hD]; exact Nat.pow_pos (by walk_at "l")
    rw [hD] at hlast
    walk_at "t"
    case s1 =>
      with_reducible refine' Step.assign (d := .int ((D : Int) * S)) (EvTo.cast (EvTo.sub (EvTo.mulN (EvTo.itemNat ?m1 ?m2 g0 ?m3) ?m4 ?m5) (EvTo.mulN (EvTo.itemNat ?m6 ?m7 g1 ?m8) (EvTo.itemNat ?m9 (EvTo.subN ?n1 ?n2 ?n3) gf ?n4) ?n5)) (congrArg PyData.int hlast)) ?k2 ?k3 ?k4
      case k2 => walk_at "x"
      case k3 => walk_at "x"
      case k4 => exact fun _ => rfl
      case m1 | m6 | m9 => walk_at "x"
      case m2 | m4 | m7 | n1 | n2 => walk_at "n"
      case n3 => walk_at "l"
      case m3 | m8 | n4 => exact fun _ _ => rfl
      case m5 => exact mul_ok w0 (Nat.lt_trans hboth hb250)
      case n5 => exact mul_ok w1 f1
    have hdm : ((D : Int) * S).fdiv (D : Int) = S ∧ ((D : Int) * S).fmod (D : Int) = 0 := fdm (by rw [Int.add_zero]) (.inl ⟨by decide, by walk_at "l"⟩)
    have hDa : ((D : Int) * S).natAbs = D := by rw [Int.natAbs_mul, hSa, Int.natAbs_natCast, Nat.mul_one]
    have hret : ∀ {pos : Pos}, (fun o : Out => o = .ret (.bool true)) (.ret (.bool true)) := fun {_} => rfl
    with_reducible refine' ExTo.ret (EvTo.cmp (EvTo.cast (EvTo.user Fid ?m1 ?m2 (.cons ?m3 ?m4 (.cons ?n3 (EvTo.cast (EvTo.powN ?n4 (EvTo.subN ?n5 ?n6 ?n7) ?n8) ?n9) .nil)) ⟨(D : Int) * S, (D : Int), rfl, ?o1, ?o2, ?o3, rfl⟩) (show _ = PyData.tuple ([S, 0].map .int) from ?o4)) (EvTo.cast (EvTo.tuple (ds := [.int (((1 : Nat) : Int) - (((1 + h) % 2 * 2 : Nat) : Int)), .int 0]) (.cons ?p1 (EvTo.sub ?p2 (EvTo.mulN (EvTo.modN ?p3 ?p4 ?p5) ?p6 ?p7)) (.cons ?p8 EvTo.intC .nil)) ?p9) ?q1) CmpOk.eqPairs ?q2) ?q3
    case m1 => walk_at "k"
    case m2 => walk_at "l"
    case m3 | n3 | p1 | p8 => exact fun _ _ => rfl
    case m4 => walk_at "x"
    case n4 | n5 | n6 | p2 | p3 | p4 | p6 => walk_at "n"
    case n7 => walk_at "l"
    case n8 =>
      have := Nat.mul_le_mul hbits (show 1 + h - 1 ≤ 3 by rw [← hm]; exact Nat.sub_le_sub_right hm4 1)
      exact_mod_cast Nat.le_trans this (by decide)
    case n9 => rw [← hm, hD]
    case o1 => walk_at "l"
    case o2 => rw [hDa]; exact big_is (Nat.lt_trans hDl hb250)
    case o3 => rw [Int.natAbs_natCast]; exact big_is (Nat.lt_trans hDl hb250)
    case o4 => rw [hdm.1, hdm.2]; rfl
    case p5 => decide
    case p7 => exact small_mul (Nat.lt_of_lt_of_le (Nat.mod_lt _ (by decide)) (by decide)) (by decide)
    case p9 => exact Nat.le_of_ble_eq_true rfl
    case q1 => rw [← hm, hS]; rfl
    case q2 => with_unfolding_all rfl
    case q3 => rfl
end
section
variable {prog : Program} {w : World} {G : Gl prog w}
structure Fns (G : Gl prog w) : Prop where
  un : FnOk G "_law_unseen" 1 (fun ds d => ds = [] ∧ d = .str unsS)
  st : FnOk G "_law_stock" 1 stRel
  pr : FnOk G "_law_prepared" 2 (prRel b1S b3T)
  el : FnOk G "_ellipsis_match" 1 elRel
  i2 : FnOk G "_int2digits" 23 i2Rel
  di : FnOk G "_digits2int" 23 diRel
  idm : FnOk G "int_divmod" 27 idRel
structure PreOk (cs : List Nat) (h n c7 : Nat) (ls fs : List Nat) (pc : It → List Nat) (sg : It → Nat) : Prop where
  w : IsWord h ls
  lk : LsOk h ls
  fk : FsOk h fs
  pk : PcOk fs pc sg
  pt : ∀ x, x ∈ stockI fs → ∀ c, c ∈ pc x → c < 1114112
  e7 : cs[7]? = some c7
  n8 : 8 ≤ n
  n67 : n ≤ 67
theorem law_pre (hG : Glo G) (F : Fns G) (sc : List Int) (hsc : sc.length ≤ 63) :
    ExTo G 27 (fnScope PP iLaw) [("script", .own (.list (sc.map .int)))] lawA (fun o => ∃ cs h n c7 ls fs pc sg, o = .next (ED cs h ls fs pc n [("ended", .own (.bool false))]) ∧ PreOk cs h n c7 ls fs pc sg) := by
  refine law_a0 hG (Nat.le_refl _) F.un sc hsc fun h ls fs hw lk fk => ?_
  have hc : ∀ j, j < 8 → (cellsL sc)[j]? = some (cellN sc j) := fun j hj => by unfold cellsL; rw [List.getElem?_map, List.getElem?_range hj]; rfl
  have hl : fs.length = ls.length := by rw [fk.len, lk.len]
  have pk := pc_ok lk hl (fun f hf => (fk.two f hf).2) (cellN sc 3) (cellN sc 4) (cellN sc 5)
  refine law_a1 hG (Nat.le_refl _) F.st F.pr hw lk fk (hc 3 (by decide)) (hc 4 (by decide)) (hc 5 (by decide)) (cell_cast sc 3).2 (cell_cast sc 4).2 (cell_cast sc 5).2 ?_
  refine law_b hG (Nat.le_refl _) F.el hw lk fk pk ?_
  refine law_c0 hG (Nat.le_refl _) (hc 0 (by decide)) (hc 6 (by decide)) (cell_cast sc 0).2 fun n L R h8 h67 hL hR => ?_
  refine law_c hG (Nat.le_refl _) F.el F.i2 F.di F.idm fk pk h8 h67 hL hR ?_
  exact ⟨cellsL sc, h, n, _, ls, fs, _, _, rfl, hw, lk, fk, pk, pc_top lk hl _ _ _, hc 7 (by decide), h8, h67⟩
theorem law_post (hG : Glo G) (F : Fns G) {cs : List Nat} {h n c7 : Nat} {ls fs : List Nat} {pc : It → List Nat} {sg : It → Nat} (k : PreOk cs h n c7 ls fs pc sg) :
    ExTo G 27 (fnScope PP iLaw) (EF cs h ls fs pc n []) lawB (fun o => o = .ret (.bool true)) :=
  law_d hG (Nat.le_refl _) F.el F.idm k.fk k.pk k.pt k.e7 fun its hm ho => law_e hG (Nat.le_refl _) F.el k.fk k.pk hm ho (law_f hG (Nat.le_refl _) F.el F.idm k.w k.lk k.fk k.pk k.n8 k.n67)
theorem law_call (hG : Glo G) (F : Fns G) (hZ : Bl G "ZeroDivisionError" (.type "ZeroDivisionError")) (hDi : DefAt G "int_divmod" (fnPars PP iIdm) (fnBody PP iIdm) (fnScope PP iIdm)) (hD : DefAt G "law" (fnPars PP iLaw) (fnBody PP iLaw) (fnScope PP iLaw)) :
    ∃ a, G.mg "law" = some (.ref a) ∧ (∃ o fd, G.hB.get? a = some o ∧ o.data = .func fd) ∧
      ∀ (A : Around) (M : Addr → Prop) (s : Shared) (v : Value) (sc : List Int) (Q : Value → Shared → Prop) (E : Value → Shared → Prop), Ok 28 A → A.frames = some [] →
        (∀ b o, G.hB.get? b = some o → Gr G.T s.heap b o) → (∀ a, M a → ∃ o, s.heap.get? a = some o) → Rp prog w s.heap M (.list (sc.map .int)) v → sc.length ≤ 63 →
        (∀ s', Kp G.T s s' → Q (.bool true) s') → wpAny (model prog w) A (call (.ref a) [v]) Q E s := by
  obtain ⟨hZ1, hZ2⟩ := hZ
  obtain ⟨a, hm, hfd, hcall⟩ := call_body (k := 27) (ps := ["script"]) hD (by decide +kernel) (fun pm c doc vs hl => by obtain ⟨a, rfl⟩ := one_vs hl; rfl)
  refine ⟨a, hm, hfd, fun A M s v sc Q E ho hfr0 hbase hdom hr hsc hQ => ?_⟩
  refine hcall A M s [v] [.list (sc.map .int)] Q E ho hbase hdom (RpL.cons hr RpL.nil) rfl fun cenv s1 c' Wc Q' E' _ _ _ hfr hcs hvc hok hnew kp wn st hq he => ?_
  have hfr1 : (A.deeper cenv).frames = some [cenv] := Around.frames_deeper hfr0
  rw [show fnBody PP iLaw = lawA ++ (fnBody PP iLaw).drop 21 from (List.take_append_drop 21 _).symm]
  refine wpAny_execs_append (law_pre hG F sc hsc (A.deeper cenv) cenv M (fun _ => False) Wc (fun _ => False) s s1 _ _ hok hvc st (fun ρ1 Z1 s2 hp t2 _ => ?_) fun d v s2 hp _ _ => ?_)
  · obtain ⟨cs, h, n, c7, ls, fs, pc, sg, hρ, pre⟩ := hp
    cases hρ
    refine wpAny_execs_cons ?_
    have hri := raise_call (k := 26) (ps := ["a", "b"]) hDi (by decide +kernel) (fun pm c doc vs hl => by obtain ⟨a, b, rfl⟩ := two_vs hl; rfl) (hb := rfl) (x := "ZeroDivisionError") (by decide +kernel) hZ1 hZ2 excClass_ZeroDivisionError
    have hlen := pre.fk.len
    have g0 : ((List.range (fs.length + 2)).map (sumN fs))[1 + h]? = some (sumN fs (1 + h)) := range_get _ (by walk_at "l")
    have g1 : ((List.range (fs.length + 2)).map (sumN fs))[1 + h + 1]? = some 0 := by
      rw [← sum_past (fs := fs), hlen]
      exact range_get _ (by walk_at "l")
    with_reducible refine' Try_call (X := "ZeroDivisionError") (fn := "int_divmod") (x := "ZeroDivisionError") (y := "ended") (ρ' := EF cs h ls fs pc n []) (ds := [.int ((sumN fs (1 + h) : Nat) : Int), .int ((0 : Nat) : Int)]) hok hvc t2 hfr1 hfr ?k1 ?k2 ?k3 ?k4 ?k5 hZ1 hZ2 excClass_ZeroDivisionError ?k6 ?k7 ?k8 ?k9 ?k10
    case k1 =>
      obtain ⟨a2, hm2, hfd2, hc2⟩ := hri
      refine ⟨a2, hm2, hfd2, fun A M s vs Q E env ho hbase hdom hr hfr hkm hfe hdict hE => hc2 A M s vs _ Q E env ho hbase hdom hr rfl ?_ hfr hkm hfe hdict hE⟩
      walk_at "a"
      with_reducible refine' TrTo.cast (TrTo.cmp ?m1 ?m2 CmpOk.eqI ?m3) ?m4
      case m1 => walk_at "x"
      case m2 => walk_at "n"
      case m3 => rfl
      case m4 => simp
    case k2 => walk_at "k"
    case k3 =>
      with_reducible refine' .cons ?m1 (EvTo.itemNat ?m2 ?m3 g0 ?m5) (.cons ?n1 (EvTo.itemNat ?n2 (EvTo.addN ?n3 ?n4) g1 ?n5) .nil)
      case m1 | n1 => exact fun _ _ => rfl
      case m2 | n2 => walk_at "x"
      case m3 | n3 | n4 => walk_at "n"
      case m5 | n5 => exact fun _ _ => rfl
    case k4 => exact fun _ => rfl
    case k5 => walk_at "k"
    case k6 => kernel_rfl
    case k7 => walk_at "x"
    case k8 => walk_at "x"
    case k9 => exact fun _ => rfl
    case k10 =>
      intro s3 t3
      refine law_post hG F pre (A.deeper cenv) cenv M (fun _ => False) Wc _ s s3 _ _ hok hvc t3 (fun ρ2 Z2 s4 hp2 _ _ => by cases hp2) fun d v s4 hp2 hk4 hr4 => ?_
      cases hp2
      simp only [Rp] at hr4
      subst hr4
      exact hq _ _ (hQ s4 hk4)
  · obtain ⟨cs, h, n, c7, ls, fs, pc, sg, hρ, _⟩ := hp
    cases hρ
end
end
end
section
open PySem.W
variable {prog : Program} {w : World}
noncomputable def SetV (N : Nat) (h : Heap) (v : Value) : Prop := ∃ a n, v = .ref a ∧ N ≤ a ∧ ∀ (prog : Program) (w : World), h.SetOf (intKind prog w) a b1S n
theorem SetV.stab {N : Nat} : Stab N (SetV N) := by
  intro h h' v hk ⟨a, n, h1, h2, h3⟩
  refine ⟨a, n, h1, h2, fun prog w => ?_⟩
  obtain ⟨o, es, ep, t, ho, r⟩ := h3 prog w
  exact ⟨o, es, ep, t, hk _ _ h2 ho, r⟩
noncomputable def TabV (N : Nat) (h : Heap) (v : Value) : Prop := ∃ a kvs, v = .ref a ∧ N ≤ a ∧ RelT kvs b3T ∧ ∀ (prog : Program) (w : World), h.DictOf (intKind prog w) a kvs
theorem TabV.stab {N : Nat} : Stab N (TabV N) := by
  intro h h' v hk ⟨a, kvs, h1, h2, h3, h4⟩
  refine ⟨a, kvs, h1, h2, h3, fun prog w => ?_⟩
  obtain ⟨o, es, ep, ho, r⟩ := h4 prog w
  exact ⟨o, es, ep, hk _ _ h2 ho, r⟩
noncomputable def setE : Expr := ((asAsg PP.main.body[12]?).map (·.2.1)).getD (.Constant .none 0 default)
noncomputable def scF : Scope := { kind := .function, names := [("set", .globalImplicit), ("list", .globalImplicit), ("range", .globalImplicit)], isGenerator := false, isCoroutine := false, more := [] }
noncomputable def fakeEnv (c F : Addr) : Env := { mainEnv PP c F with scope := scF }
theorem set_env (c F : Addr) : eval setE (mainEnv PP c F) = eval setE (fakeEnv c F) := by kernel_rfl
noncomputable def setL : List Int := [173, 847, 6150, 6155, 6156, 6157, 8203, 8204, 8205, 8288, 65279]
theorem scF_kind {x : Str} {k : NameKind} (h : scF.names.lookup x = some k) : k = .globalImplicit := by
  have := mem_of_lookup h
  simp only [scF, List.mem_cons, Prod.mk.injEq, List.not_mem_nil, or_false] at this
  rcases this with ⟨_, h⟩ | ⟨_, h⟩ | ⟨_, h⟩ <;> exact h
theorem fake_ok (c F : Addr) : EnvOk scF (fakeEnv c F) where
  kind := rfl
  glob := rfl
  blt := rfl
  kindG := fun x hx => hx
  kindC := fun x hx => hx
  kindN := fun x => rfl
  noDbg := (by decide +kernel : scF.names.lookup ("__debug__" : Str) = none)
  cells := fun x hx => by rcases hx with hx | hx <;> cases scF_kind hx
  noCd := (by decide +kernel : scF.names.lookup ("__classdict__" : Str) = none)
theorem set_eval {A : Around} {s : Shared} {c F : Addr} {mg mb : Str → Option Value} {N : Nat} {Q : Value → Shared → Prop} {E : Value → Shared → Prop} (ho : Ok 0 A) (hg : s.heap.Ns mainGlobals mg) (hb : s.heap.Ns builtinsNs mb) (hl : s.heap.NoLimit)
    (hm : mg "set" = none ∧ mg "list" = none ∧ mg "range" = none) (hmb : mb "set" = some (.type "set") ∧ mb "list" = some (.type "list") ∧ mb "range" = some (.type "range")) (hN : ∀ h' : Heap, (∀ b o, s.heap.get? b = some o → h'.get? b = some o) → N ≤ h'.objs.size)
    (hQ : ∀ v h₁ tk, (∀ b o, s.heap.get? b = some o → h₁.get? b = some o) → SetV N h₁ v → Q v { s with heap := h₁, toks := tk }) :
    wpAny (model PP w) A (eval setE (mainEnv PP c F)) Q E s := by
  rw [set_env]
  let G : Gl PP w := ⟨s.heap, mg, mb, hg, hb, hl, fun _ _ _ _ => False⟩
  have vr : VR G (fakeEnv c F) (fun _ => False) [] s := ⟨fun b o e => .inl e, fun a ha => ha.elim, (fun x b hx => by cases hx), (fun x c hx => by cases hx), List.nodup_nil⟩
  show wpAny (model PP w) A (eval (.Call _ [.BinOp _ _ _ _] [] _) (fakeEnv c F)) Q E s
  refine call_type (G := G) (k := 0) (sc := scF) (ρ := []) (M := fun _ => False) ho (fake_ok c F) vr (by decide +kernel) hm.1 hmb.1 (ds := [.list ((setL ++ rangeL 65024 65040 1).map .int)]) (.cons (fun _ _ => rfl) ?_ .nil) fun vs s1 k1 r1 => ?_
  · rw [List.map_append]
    with_reducible refine' EvTo.catL (EvL.of (EvTo.list ?a1 ?a2)) (EvL.of (EvTo.listRange ?b1 ?b2 ?b3 ?b4 ?b5 ?b6 ?b7 ?b8 ?b9 ?b10 ?b11 ?b12)) ?a3
    case b1 | b4 => decide +kernel
    case b2 => exact hm.2.1
    case b3 => exact hmb.2.1
    case b5 => exact hm.2.2
    case b6 => exact hmb.2.2
    case b7 | b8 => exact EvTo.intC
    case b9 | b10 => exact fun _ _ => rfl
    case b11 => decide +kernel
    case a2 | a3 | b12 => exact Nat.le_of_ble_eq_true rfl
    case a1 =>
      unfold setL
      simp only [List.map_cons, List.map_nil]
      walk_at "x"
  · obtain ⟨v, rfl, r⟩ := r1.one
    simp only [Rp] at r
    obtain ⟨l, items, rfl, _, hpl, rr, _⟩ := r
    have h2 : ((setL ++ rangeL 65024 65040 1).map PyData.int).length = 27 := by decide +kernel
    have hsz : items.size = 27 := by
      have h1 := rr.length
      rw [h2] at h1; simpa using h1
    obtain ⟨n0, e0⟩ := hpl
    have hk1 : ∀ b o, s.heap.get? b = some o → s1.heap.get? b = some o := fun b o e => by
      rcases k1.tk b o e with q | ⟨_, _, _, _, q, _⟩
      · exact q
      · exact q.elim
    obtain ⟨hh, tt, hs1⟩ := k1.same
    refine PySem.call_set_list (ns := setL ++ rangeL 65024 65040 1) ho.hh ⟨_, e0, rfl, n0, rfl⟩ (ints_are rr) (by rw [hsz]; decide) fun h' tk hS hk2 => ?_
    rw [show ({ s1 with heap := h', toks := tk } : Shared) = { s with heap := h', toks := tk } by rw [hs1]]
    refine hQ _ h' tk (fun b o e => hk2 b o (Heap.lt_size (hk1 b o e)) (hk1 b o e)) ⟨_, (firstMet (fun i => (setL ++ rangeL 65024 65040 1).getD i 0) items.size).length, rfl, hN _ hk1, fun prog' w' => ?_⟩
    obtain ⟨o, es, ep, t, q1, q2, q3, q4, q5, q6, q7, q8⟩ := hS
    refine ⟨o, es, ep, t, q1, q2, q3, elemsOf_transport q4 rfl rfl, fun k => ?_, q6, q7, q8⟩
    rw [← show (firstMet (fun i => (setL ++ rangeL 65024 65040 1).getD i 0) items.size).any (· == k) = b1S k from ?_]
    · exact q5 k
    · rw [firstMet_any, hsz, show (List.range 27).map (fun i => (setL ++ rangeL 65024 65040 1).getD i 0) = unsL.map fun n : Nat => (n : Int) by decide +kernel, List.any_map]
      rfl
end
section
open PySem.W
variable {w : World}
noncomputable def tabE : Expr := ((asAsg PP.main.body[14]?).map (·.2.1)).getD (.Constant .none 0 default)
noncomputable def tabK : List (Option Expr) := ((asDict tabE).map (·.1)).getD []
noncomputable def tabVs : List Expr := ((asDict tabE).map (·.2.1)).getD []
noncomputable def tabPos : Pos := ((asDict tabE).map (·.2.2)).getD default
theorem tab_is : tabE = .Dict tabK tabVs tabPos := by kernel_rfl
theorem tab_lit : litT tabK tabVs = some b3T := by kernel_rfl
theorem tab_up : upB b3T = true := by kernel_rfl
theorem tab_len : (b3T.length ≤ 100000) ∧ b3T ≠ [] := ⟨by decide +kernel, by decide +kernel⟩
theorem pairs_transport {prog prog' : Program} {w w' : World} {es : List DictEntry} {kvs : List (Int × Value)} (h : Pairs (intKind prog w) es kvs) : Pairs (intKind prog' w') es kvs := by
  induction h with
  | nil => exact .nil
  | cons h1 h2 _ ih => exact .cons h1 h2 ih
theorem dict_transport {prog prog' : Program} {w w' : World} {h : Heap} {a : Addr} {kvs : List (Int × Value)} (hd : h.DictOf (intKind prog w) a kvs) : h.DictOf (intKind prog' w') a kvs := by
  obtain ⟨o, es, ep, q1, q2, q3, q4, q5, q6⟩ := hd
  exact ⟨o, es, ep, q1, q2, q3, q4, pairs_transport q5, q6⟩
theorem tab_eval {A : Around} {s : Shared} {c F : Addr} {N : Nat} {Q : Value → Shared → Prop} {E : Value → Shared → Prop} (hN : N ≤ s.heap.objs.size) (hS : sysModules < s.heap.objs.size)
    (hQ : ∀ v h₁ tk, (∀ b o, s.heap.get? b = some o → h₁.get? b = some o) → TabV N h₁ v → Q v { s with heap := h₁, toks := tk }) :
    wpAny (model PP w) A (eval tabE (mainEnv PP c F)) Q E s := by
  have key := tab_lit
  have k2 := tab_up
  have k3 := tab_len
  unfold TabV at hQ
  rw [tab_is]
  generalize b3T = T at *
  generalize tabK = K at *
  generalize tabVs = V at *
  generalize tabPos = p at *
  generalize mainEnv PP c F = env at *
  generalize PP = prog at *
  exact Dict_int key k2 k3.1 k3.2 hS fun a h' tk kvs hr ha hd hk => hQ _ h' tk hk ⟨a, kvs, rfl, Nat.le_trans hN ha, hr, fun prog' w' => dict_transport hd⟩
end
section
open PySem.W
noncomputable def topSt (i : Nat) : Stmt := (PP.main.body[i]?).getD (.Pass default)
noncomputable def posOf (i : Nat) : Pos := ((asDef PP.main.body[i]?).map (·.2.2.2)).getD default
noncomputable def topBody : List Stmt := PP.main.body
theorem top_body : topBody = [topSt 0, topSt 1, topSt 2, topSt 3, topSt 4, topSt 5, topSt 6, topSt 7, topSt 8, topSt 9, topSt 10, topSt 11, topSt 12, topSt 13, topSt 14, topSt 15, topSt 16, topSt 17, topSt 18, topSt 19, topSt 20] := by kernel_rfl
noncomputable def nmPos (i : Nat) : Pos := (((asAsg PP.main.body[i]?).bind (·.1.head?)).map Expr.pos).getD default
noncomputable def asPos (i : Nat) : Pos := ((asAsg PP.main.body[i]?).map (·.2.2)).getD default
theorem st12 : topSt 12 = .Assign [.Name "b1_set" (nmPos 12)] setE (asPos 12) := by kernel_rfl
theorem st14 : topSt 14 = .Assign [.Name "b3_exceptions" (nmPos 14)] tabE (asPos 14) := by kernel_rfl
theorem sw14 (c F : Addr) : swapsWith tabE (some (.Name "b3_exceptions" (nmPos 14))) (asPos 14).line (mainEnv PP c F) = pure false := by kernel_rfl
noncomputable def topNames : List Str := ["law", "_law_prepared", "_law_stock", "_law_unseen", "map_table_b3", "b3_exceptions", "in_table_b1", "b1_set", "_ellipsis_match", "ELLIPSIS_MARKER", "int_divmod", "_divmod_pos", "_digits2int", "_int2digits", "_div3n2n", "_div2n1n", "_DIV_LIMIT"]
noncomputable def topDefs : List (Nat × Str) := [(2, "_div2n1n"), (3, "_div3n2n"), (4, "_int2digits"), (5, "_digits2int"), (6, "_divmod_pos"), (7, "int_divmod"), (10, "_ellipsis_match"), (13, "in_table_b1"), (15, "map_table_b3"), (17, "_law_unseen"), (18, "_law_stock"), (19, "_law_prepared"), (20, "law")]
structure TopF (h₀ : Heap) (mg₀ : Str → Option Value) (Pl : Addr) (h : Heap) (mg : Str → Option Value) : Prop where
  g : h.Ns mainGlobals mg
  bmod : h.BuiltinsAt mg Pl
  low : mainGlobals < Pl
  keep : ∀ b o, b ≠ Pl → b ≠ mainGlobals → h₀.get? b = some o → h.get? b = some o
  others : ∀ x, x ∉ topNames → x ≠ "__name__" → mg x = mg₀ x
  defs : ∀ d, d ∈ topDefs → ∃ v lo hi, mg d.2 = some v ∧ DefV (Pl + 1) lo hi d.2 (fnPars PP d.1) (fnBody PP d.1) (fnScope PP d.1) h v
  apart : ∃ z lo hi u v, mg "_int2digits" = some u ∧ mg "_digits2int" = some v ∧ DefV (Pl + 1) lo z "_int2digits" (fnPars PP iI2d) (fnBody PP iI2d) (fnScope PP iI2d) h u ∧ DefV (Pl + 1) z hi "_digits2int" (fnPars PP iD2i) (fnBody PP iD2i) (fnScope PP iD2i) h v
  marker : ∃ t, mg "ELLIPSIS_MARKER" = some (.str "..." t)
  limit : ∃ t, mg "_DIV_LIMIT" = some (.int 4000 t)
  set : ∃ v, mg "b1_set" = some v ∧ SetV (Pl + 1) h v
  tab : ∃ v, mg "b3_exceptions" = some v ∧ TabV (Pl + 1) h v
noncomputable def DV (Pl : Addr) (lo hi : Heap) (i : Nat) (nm : Str) : Str × (Heap → Value → Prop) := (nm, DefV (Pl + 1) lo.objs.size hi.objs.size nm (fnPars PP i) (fnBody PP i) (fnScope PP i))
theorem TopI.defP {M : Model} {A : Around} {E : Value → Shared → Prop} {s : Shared} {c Pl F : Addr} {h₀ : Heap} {mg₀ mg : Str → Option Value} {ps : Array Value} {vals : List (Str × (Heap → Value → Prop))} {names : List Str} {Q : Flow → Shared → Prop} {i : Nat} {nm : Str}
    (X : TopI h₀ mg₀ c Pl s.heap mg ps vals names) (hst : topSt i = .FunctionDef nm (fnPars PP i) (fnBody PP i) [] none [] (fnScope PP i) none nm (posOf i)) (hx : PlainDefTree nm (fnPars PP i) (fnBody PP i) (fnScope PP i) (posOf i))
    (hfree : ∀ x ∈ (fnScope PP i).names, x.2 ≠ .free) (hdoc : docOf (fnBody PP i) = none) (hloc : PP.main.scope.names.lookup nm = some .local)
    (hq : qualnameIn { scope := PP.main.scope, locals := mainGlobals, globals := mainGlobals, cells := [] } nm nm = nm) (hnew : nm ∉ names) (hnb : nm ≠ "__builtins__") (hnf : codeAmong (posOf i) ps.toList = none)
    (k : ∀ h' mg' c' tk, TopI h₀ mg₀ c Pl h' mg' (ps ++ #[rawInt (posOf i).line, rawInt (posOf i).col, .ref c']) (DV Pl s.heap h' i nm :: vals) (nm :: names) → Q .next { s with heap := h', toks := tk }) :
    wpAny M A (exec (topSt i) (mainEnv PP c F)) Q E s := by
  rw [hst]
  exact TopI.def X hx hfree hdoc hloc hq hnew hnb rfl hnf k
variable {w : World}
theorem step14 {A : Around} {s : Shared} {c Pl F : Addr} {h₀ : Heap} {mg₀ mg : Str → Option Value} {ps : Array Value} {vals : List (Str × (Heap → Value → Prop))} {names : List Str} {Q : Flow → Shared → Prop} {E : Value → Shared → Prop}
    (X : TopI h₀ mg₀ c Pl s.heap mg ps vals names) (hnew : ("b3_exceptions" : Str) ∉ names) (hS : sysModules < s.heap.objs.size)
    (k : ∀ h' mg' tk, TopI h₀ mg₀ c Pl h' mg' ps (("b3_exceptions", TabV (Pl + 1)) :: vals) ("b3_exceptions" :: names) → Q .next { s with heap := h', toks := tk }) :
    wpAny (model PP w) A (exec (topSt 14) (mainEnv PP c F)) Q E s := by
  rw [st14]
  have hsw := sw14 c F
  have ev : ∀ Q' : Value → Shared → Prop, (∀ v h₁ tk, (∀ b o, s.heap.get? b = some o → h₁.get? b = some o) → TabV (Pl + 1) h₁ v → Q' v { s with heap := h₁, toks := tk }) → wpAny (model PP w) A (eval tabE (mainEnv PP c F)) Q' E s := by
    intro Q' hQ'
    have hN : Pl + 1 ≤ s.heap.objs.size := X.main.code.lt.2
    have key := @tab_eval w A s c F (Pl + 1) Q' E hN hS
    with_reducible exact key hQ'
  have hl : PP.main.scope.names.lookup ("b3_exceptions" : Str) = some .local := by decide +kernel
  have hk : PP.main.scope.kind = .module := rfl
  have hst : Stab (Pl + 1) (TabV (Pl + 1)) := TabV.stab
  generalize tabE = e at *
  generalize TabV (Pl + 1) = P at *
  generalize PP = prog at *
  exact TopI.assign X hl (by decide) hk hsw hnew hst ev k
theorem top_execs {A : Around} {s : Shared} {c Pl F : Addr} {mg mb : Str → Option Value} {Q : Flow → Shared → Prop} {E : Value → Shared → Prop} (ho : Ok 0 A) (hm : s.heap.Main mg c Pl #[]) (hb : s.heap.Ns builtinsNs mb) (hst : s.heap.Ns cStatics (fun _ => none)) (hsys : ∃ o, s.heap.get? sysModules = some o)
    (hmn : mg "set" = none ∧ mg "list" = none ∧ mg "range" = none) (hmb : mb "set" = some (.type "set") ∧ mb "list" = some (.type "list") ∧ mb "range" = some (.type "range"))
    (k : ∀ h' mg' tk, TopF s.heap mg Pl h' mg' → Q .next { s with heap := h', toks := tk }) : wpAny (model PP w) A (execs topBody (mainEnv PP c F)) Q E s := by
  have hP : mainGlobals < Pl := hm.low.2
  have p0 : builtinsNs ≠ Pl := Nat.ne_of_lt (Nat.lt_trans (by decide) hP)
  have p1 : sysModules ≠ Pl := Nat.ne_of_lt (Nat.lt_trans (by decide) hP)
  have p2 : cStatics ≠ Pl := Nat.ne_of_lt (Nat.lt_trans (by decide) hP)
  rw [top_body]
  have X := TopI.start hm
  refine wpAny_execs_cons ?_
  refine TopI.setName X ?_ rfl (by kernel_rfl) (by decide +kernel) ?_
  · decide +kernel
  clear X
  intro h0 mg0 tk0 X
  refine wpAny_execs_cons ?_
  refine TopI.assignInt (x := 4000) X (by decide +kernel) (by decide) rfl (by kernel_rfl) (by decide +kernel) ?_
  clear X
  intro h1 mg1 tk1 X
  refine wpAny_execs_cons ?_
  refine TopI.defP (i := 2) (nm := "_div2n1n") X (by kernel_rfl) (fun _ => rfl) (by decide +kernel) (by kernel_rfl) (by decide +kernel) (by kernel_rfl) (by decide +kernel) (by decide) (by kernel_rfl) ?_
  clear X
  intro h2 mg2 c2 tk2 X
  refine wpAny_execs_cons ?_
  refine TopI.defP (i := 3) (nm := "_div3n2n") X (by kernel_rfl) (fun _ => rfl) (by decide +kernel) (by kernel_rfl) (by decide +kernel) (by kernel_rfl) (by decide +kernel) (by decide) (by kernel_rfl) ?_
  clear X
  intro h3 mg3 c3 tk3 X
  refine wpAny_execs_cons ?_
  refine TopI.defP (i := 4) (nm := "_int2digits") X (by kernel_rfl) (fun _ => rfl) (by decide +kernel) (by kernel_rfl) (by decide +kernel) (by kernel_rfl) (by decide +kernel) (by decide) (by kernel_rfl) ?_
  clear X
  intro h4 mg4 c4 tk4 X
  refine wpAny_execs_cons ?_
  refine TopI.defP (i := 5) (nm := "_digits2int") X (by kernel_rfl) (fun _ => rfl) (by decide +kernel) (by kernel_rfl) (by decide +kernel) (by kernel_rfl) (by decide +kernel) (by decide) (by kernel_rfl) ?_
  clear X
  intro h5 mg5 c5 tk5 X
  refine wpAny_execs_cons ?_
  refine TopI.defP (i := 6) (nm := "_divmod_pos") X (by kernel_rfl) (fun _ => rfl) (by decide +kernel) (by kernel_rfl) (by decide +kernel) (by kernel_rfl) (by decide +kernel) (by decide) (by kernel_rfl) ?_
  clear X
  intro h6 mg6 c6 tk6 X
  refine wpAny_execs_cons ?_
  refine TopI.defP (i := 7) (nm := "int_divmod") X (by kernel_rfl) (fun _ => rfl) (by decide +kernel) (by kernel_rfl) (by decide +kernel) (by kernel_rfl) (by decide +kernel) (by decide) (by kernel_rfl) ?_
  clear X
  intro h7 mg7 c7 tk7 X
  refine wpAny_execs_cons ?_
  refine TopI.setName X ?_ rfl (by kernel_rfl) (by decide +kernel) ?_
  · decide +kernel
  clear X
  intro h8 mg8 tk8 X
  refine wpAny_execs_cons ?_
  refine TopI.assignStr (x := "...") X (by decide +kernel) (by decide) rfl (by kernel_rfl) (by decide +kernel) ?_
  clear X
  intro h9 mg9 tk9 X
  refine wpAny_execs_cons ?_
  refine TopI.defP (i := 10) (nm := "_ellipsis_match") X (by kernel_rfl) (fun _ => rfl) (by decide +kernel) (by kernel_rfl) (by decide +kernel) (by kernel_rfl) (by decide +kernel) (by decide) (by kernel_rfl) ?_
  clear X
  intro h10 mg10 c10 tk10 X
  refine wpAny_execs_cons ?_
  refine TopI.setName X ?_ rfl (by kernel_rfl) (by decide +kernel) ?_
  · decide +kernel
  clear X
  intro h11 mg11 tk11 X
  refine wpAny_execs_cons ?_
  rw [st12]
  refine TopI.assign (x := "b1_set") (value := setE) (P := SetV (Pl + 1)) X (by decide +kernel) (by decide) rfl (by kernel_rfl) (by decide +kernel) SetV.stab (fun Q' hQ' => ?_) ?_
  · refine set_eval ho X.main.g (hb.at fun o => X.keep _ o p0 (by decide)) (Heap.NoLimit.at ⟨_, hst, rfl⟩ fun o => X.keep _ o p2 (by decide)) ⟨(X.others _ (by decide +kernel) (by decide)).trans hmn.1, (X.others _ (by decide +kernel) (by decide)).trans hmn.2.1, (X.others _ (by decide +kernel) (by decide)).trans hmn.2.2⟩ hmb (fun h' hk => (X.main.code.keeps hk).lt.2) hQ'
  clear X
  intro h12 mg12 tk12 X
  refine wpAny_execs_cons ?_
  refine TopI.defP (i := 13) (nm := "in_table_b1") X (by kernel_rfl) (fun _ => rfl) (by decide +kernel) (by kernel_rfl) (by decide +kernel) (by kernel_rfl) (by decide +kernel) (by decide) (by kernel_rfl) ?_
  clear X
  intro h13 mg13 c13 tk13 X
  refine wpAny_execs_cons ?_
  obtain ⟨os, hos⟩ := hsys
  have hsysl := Heap.lt_size (X.keep _ _ p1 (by decide) hos)
  with_reducible refine' step14 X ?q1 hsysl ?q2
  case q1 => decide +kernel
  case q2 =>
    clear X
    intro h14 mg14 tk14 X
    refine wpAny_execs_cons ?_
    refine TopI.defP (i := 15) (nm := "map_table_b3") X (by kernel_rfl) (fun _ => rfl) (by decide +kernel) (by kernel_rfl) (by decide +kernel) (by kernel_rfl) (by decide +kernel) (by decide) (by kernel_rfl) ?_
    clear X
    intro h15 mg15 c15 tk15 X
    refine wpAny_execs_cons ?_
    refine TopI.setName X ?_ rfl (by kernel_rfl) (by decide +kernel) ?_
    · decide +kernel
    clear X
    intro h16 mg16 tk16 X
    refine wpAny_execs_cons ?_
    refine TopI.defP (i := 17) (nm := "_law_unseen") X (by kernel_rfl) (fun _ => rfl) (by decide +kernel) (by kernel_rfl) (by decide +kernel) (by kernel_rfl) (by decide +kernel) (by decide) (by kernel_rfl) ?_
    clear X
    intro h17 mg17 c17 tk17 X
    refine wpAny_execs_cons ?_
    refine TopI.defP (i := 18) (nm := "_law_stock") X (by kernel_rfl) (fun _ => rfl) (by decide +kernel) (by kernel_rfl) (by decide +kernel) (by kernel_rfl) (by decide +kernel) (by decide) (by kernel_rfl) ?_
    clear X
    intro h18 mg18 c18 tk18 X
    refine wpAny_execs_cons ?_
    refine TopI.defP (i := 19) (nm := "_law_prepared") X (by kernel_rfl) (fun _ => rfl) (by decide +kernel) (by kernel_rfl) (by decide +kernel) (by kernel_rfl) (by decide +kernel) (by decide) (by kernel_rfl) ?_
    clear X
    intro h19 mg19 c19 tk19 X
    refine wpAny_execs_cons ?_
    refine TopI.defP (i := 20) (nm := "law") X (by kernel_rfl) (fun _ => rfl) (by decide +kernel) (by kernel_rfl) (by decide +kernel) (by kernel_rfl) (by decide +kernel) (by decide) (by kernel_rfl) ?_
    clear X
    intro h20 mg20 c20 tk20 X
    refine wpAny_execs_nil (k h20 mg20 tk20 ⟨X.main.g, X.main.bmod, hP, X.keep, X.others, ?_, ?_, ?_, ?_, ?_, ?_⟩)
    · intro d hd
      simp only [topDefs, List.mem_cons, List.not_mem_nil, or_false] at hd
      have wrap : ∀ {nm : Str} {i : Nat} {lo hi : Heap}, (∃ v, mg20 (DV Pl lo hi i nm).1 = some v ∧ (DV Pl lo hi i nm).2 h20 v) → ∃ v lo hi, mg20 nm = some v ∧ DefV (Pl + 1) lo hi nm (fnPars PP i) (fnBody PP i) (fnScope PP i) h20 v := fun h => let ⟨v, h1, h2⟩ := h; ⟨v, _, _, h1, h2⟩
      rcases hd with rfl | rfl | rfl | rfl | rfl | rfl | rfl | rfl | rfl | rfl | rfl | rfl | rfl
      · exact wrap (X.got (DV Pl h1 h2 2 "_div2n1n") (by walk_at "x"))
      · exact wrap (X.got (DV Pl h2 h3 3 "_div3n2n") (by walk_at "x"))
      · exact wrap (X.got (DV Pl h3 h4 4 "_int2digits") (by walk_at "x"))
      · exact wrap (X.got (DV Pl h4 h5 5 "_digits2int") (by walk_at "x"))
      · exact wrap (X.got (DV Pl h5 h6 6 "_divmod_pos") (by walk_at "x"))
      · exact wrap (X.got (DV Pl h6 h7 7 "int_divmod") (by walk_at "x"))
      · exact wrap (X.got (DV Pl h9 h10 10 "_ellipsis_match") (by walk_at "x"))
      · exact wrap (X.got (DV Pl h12 h13 13 "in_table_b1") (by walk_at "x"))
      · exact wrap (X.got (DV Pl h14 h15 15 "map_table_b3") (by walk_at "x"))
      · exact wrap (X.got (DV Pl h16 h17 17 "_law_unseen") (by walk_at "x"))
      · exact wrap (X.got (DV Pl h17 h18 18 "_law_stock") (by walk_at "x"))
      · exact wrap (X.got (DV Pl h18 h19 19 "_law_prepared") (by walk_at "x"))
      · exact wrap (X.got (DV Pl h19 h20 20 "law") (by walk_at "x"))
    · obtain ⟨u, u1, u2⟩ := X.got (DV Pl h3 h4 4 "_int2digits") (by walk_at "x")
      obtain ⟨v, v1, v2⟩ := X.got (DV Pl h4 h5 5 "_digits2int") (by walk_at "x")
      exact ⟨h4.objs.size, _, _, u, v, u1, v1, u2, v2⟩
    · obtain ⟨v, h1, t, h2⟩ := X.got ("ELLIPSIS_MARKER", StrV "...") (by walk_at "x")
      exact ⟨t, by rw [← h2]; exact h1⟩
    · obtain ⟨v, h1, t, h2⟩ := X.got ("_DIV_LIMIT", IntV 4000) (by walk_at "x")
      exact ⟨t, by rw [← h2]; exact h1⟩
    · exact X.got ("b1_set", SetV (Pl + 1)) (by walk_at "x")
    · exact X.got ("b3_exceptions", TabV (Pl + 1)) (by walk_at "x")
end
section
open PySem.W
theorem open_is : opening PP = plainProg PP.main.scope.names := by kernel_rfl
theorem behind_is : behindTheImports PP = topBody := by kernel_rfl
theorem fence_is (s : Shared) : fenceModules? PP s = some s := by kernel_rfl
end
section
open PySem.W
theorem top_left (w : World) {s : Shared} (e : s.heap = boot_heap w.params) (hg : s.gens = #[]) (hz : s.asleep) :
    ∃ s₁ mg Pl, TopRan PP w s s₁ ∧ (∃ h tk, s₁ = { s with heap := h, toks := tk }) ∧ TopF (boot_heap w.params) ((boot_heap w.params).nsMap mainGlobals) Pl s₁.heap mg ∧ Tope topNames w.params s₁.heap mg := by
  have hb : s.heap.Ns builtinsNs ((boot_heap w.params).nsMap builtinsNs) := e ▸ boot_b _
  have hst : s.heap.Ns cStatics (fun _ => none) := e ▸ boot_s _
  have hsys : ∃ o, s.heap.get? sysModules = some o := e ▸ boot_sys _
  obtain ⟨n, t', s', h1, h2, h3, h', mg', tk, Pl, rfl, X, Y⟩ := top_ends (prog := PP) (w := w) (R := fun s' => ∃ h' mg' tk Pl, s' = { s with heap := h', toks := tk } ∧ TopF (boot_heap w.params) ((boot_heap w.params).nsMap mainGlobals) Pl h' mg' ∧ Tope topNames w.params h' mg') hz
    (top_stub (prog := PP) (w := w) (Q := fun fin s' => ∃ f, fin = .done f ∧ (∃ h' mg' tk Pl, s' = { s with heap := h', toks := tk } ∧ TopF (boot_heap w.params) ((boot_heap w.params).nsMap mainGlobals) Pl h' mg' ∧ Tope topNames w.params h' mg') ∧ s'.gens = #[]) e (by decide +kernel) (by decide +kernel) fun c Pl F h₁ tk hk hPl hm => by
      rw [behind_is]
      have key := @top_execs w (callerA.deeper (mainEnv PP c F)) { s with heap := h₁, toks := tk } c Pl F (s.heap.nsMap mainGlobals) ((boot_heap w.params).nsMap builtinsNs) (fun _ s' => ∃ f, Fin.done (.ret .none) = .done f ∧ (∃ h' mg' tk Pl, s' = { s with heap := h', toks := tk } ∧ TopF (boot_heap w.params) ((boot_heap w.params).nsMap mainGlobals) Pl h' mg' ∧ Tope topNames w.params h' mg') ∧ s'.gens = #[]) (fun _ _ => False)
        ⟨rfl, (by decide : callerA.depth + 1 + 0 < 900), (by decide : callerA.units + 3 + 4 * 0 < 9000)⟩ hm (hb.keeps hk) (hst.keeps hk) (hsys.imp fun o q => hk _ o q)
        (by rw [e]; exact ⟨boot_others _ (by decide), boot_others _ (by decide), boot_others _ (by decide)⟩)
        (by exact ⟨boot_bmap _ _ (by decide), boot_bmap _ _ (by decide), boot_bmap _ _ (by decide)⟩)
      with_reducible refine' key ?g1
      case g1 =>
      intro h' mg' tk' X
      have kp : ∀ b o, b ≠ mainGlobals → (boot_heap w.params).get? b = some o → h'.get? b = some o := fun b o hb q =>
        have q' : s.heap.get? b = some o := e ▸ q
        X.keep b o (Nat.ne_of_lt (Nat.lt_of_lt_of_le (Heap.lt_size q') hPl)) hb (hk b o q')
      exact ⟨_, rfl, ⟨h', mg', tk', Pl, rfl, ⟨X.g, X.bmod, X.low, fun b o _ hb q => kp b o hb q, fun x h1 h2 => e ▸ X.others x h1 h2, X.defs, X.apart, X.marker, X.limit, X.set, X.tab⟩, X.g, kp, fun x h1 h2 => e ▸ X.others x h1 h2⟩, hg⟩)
  exact ⟨_, mg', Pl, topRan_of (names := topNames) (by decide +kernel) (by decide +kernel) (by decide +kernel) e hg Y ⟨h', tk, rfl⟩ ⟨n, t', h1, h2⟩ h3, ⟨h', tk, rfl⟩, X, Y⟩
end
section
open PySem.W
theorem code_of {h : Heap} {c' P' : Addr} {name : Str} {ps : Array Value} (hr : h.CodeRec (.ref c') name) (ht : h.TableAt c' P' ps) : CodeO h c' name := by
  obtain ⟨⟨oc, vs, e1, e2, e3, e4⟩, _⟩ := ht
  obtain ⟨c2, o2, vs2, t2, q1, q2, q3, q4⟩ := hr
  cases q1
  rw [e1] at q2
  cases q2
  rw [e3] at q3
  cases q3
  exact ⟨oc, vs, t2, e1, e2, e3, q4⟩
theorem defAt_of {prog : Program} {w : World} {G : Gl prog w} {N lo hi : Nat} {name : Str} {params : Arguments} {body : List Stmt} {scope : Scope} {v : Value} (hm : G.mg name = some v) (d : DefV N lo hi name params body scope G.hB v) : DefAt G name params body scope := by
  obtain ⟨a, c', P', o, pm, doc, rfl, _, _, _, _, _, h7, h8, h9, h10, h11⟩ := d
  exact ⟨a, c', o, pm, doc, hm, h7, h8, code_of h9 h11⟩
theorem tabDef_of {prog : Program} {w : World} {G : Gl prog w} {name qual : Str} {params : Arguments} {body : List Stmt} {scope : Scope} {a c' P' : Addr} {o : Obj} {pm doc : Value} {pos : Pos} {Pl : Addr} (hm : G.mg name = some (.ref a))
    (h7 : G.hB.get? a = some o) (h8 : o.data = .func (Calls.docDef name params body scope pm (.ref c') doc)) (h10 : G.hB.IsCode c' P' #[]) (h11 : G.hB.TableAt c' P' #[]) (hT : G.T P' pos.line pos.col qual) (honly : ∀ l cl q, G.T P' l cl q → l = pos.line ∧ cl = pos.col ∧ q = qual)
    (hbm : G.hB.BuiltinsAt G.mg Pl) : ∀ c'', CodeOf G name params body scope c'' → ∃ P, TabDef G c'' P pos qual := by
  intro c'' ⟨a2, o2, pm2, doc2, q1, q2, q3⟩
  rw [hm] at q1
  cases q1
  rw [h7] at q2
  cases q2
  rw [h8] at q3
  have ec : c' = c'' := by
    have := congrArg (fun d => match d with | Data.func fd => fd.code | _ => .none) q3
    simp only [Calls.docDef, Value.ref.injEq] at this
    exact this
  subst ec
  refine ⟨P', CodeHd.of h10 h11, h11.2, hT, honly, ?_⟩
  obtain ⟨bm, ob, b1, b2, b3, b4, b5, b6, b7⟩ := hbm
  refine ⟨bm, ob, b1, b2, b3, fun q => ?_, b5, b6, b7⟩
  subst q
  rw [h11.2] at b5
  cases b5
  cases b6
noncomputable def i2dP : Pos := inPos (fnBody PP iI2d) 1
noncomputable def d2iP : Pos := inPos (fnBody PP iD2i) 0
noncomputable def TT (Pi Pd : Addr) : TabS := fun b l c q => (b = Pi ∧ l = i2dP.line ∧ c = i2dP.col ∧ q = "_int2digits.<locals>.inner") ∨ (b = Pd ∧ l = d2iP.line ∧ c = d2iP.col ∧ q = "_digits2int.<locals>.inner")
theorem left_G (w : World) {h₀ h : Heap} {mg₀ mg mb : Str → Option Value} {Pl : Addr} (X : TopF h₀ mg₀ Pl h mg) (hb : h.Ns builtinsNs mb) (hst : h.Ns cStatics (fun _ => none)) (hmb : ∀ x : Str, x ≠ "__name__" → mb x = bootBuiltins x) (hno : ∀ x : Str, x ∉ startupNames → mg₀ x = none) :
    ∃ G : Gl PP w, G.hB = h ∧ G.mg = mg ∧ (∀ b l c q, G.T b l c q → isCodeTable h b) ∧ Glo G ∧ Fns G ∧ Bl G "ZeroDivisionError" (.type "ZeroDivisionError") ∧
      DefAt G "int_divmod" (fnPars PP iIdm) (fnBody PP iIdm) (fnScope PP iIdm) ∧ DefAt G "law" (fnPars PP iLaw) (fnBody PP iLaw) (fnScope PP iLaw) := by
  obtain ⟨z, lo, hi, u, v, hu, hv, ⟨a, c1, P1, o1, pm1, doc1, rfl, hu2, hu3, hu4, hu5, hu6, hu7, hu8, hu9, hu10, hu11⟩, ⟨b, c2, P2, o2, pm2, doc2, rfl, hv2, hv3, hv4, hv5, hv6, hv7, hv8, hv9, hv10, hv11⟩⟩ := X.apart
  have hne : P1 ≠ P2 := Nat.ne_of_lt (Nat.lt_of_lt_of_le hu6 hv5)
  let G : Gl PP w := ⟨h, mg, mb, X.g, hb, ⟨_, hst, rfl⟩, TT P1 P2⟩
  have D : ∀ i nm, (i, nm) ∈ topDefs → DefAt G nm (fnPars PP i) (fnBody PP i) (fnScope PP i) := fun i nm hi => by
    obtain ⟨v, lo, hi, e, d⟩ := X.defs _ hi
    exact defAt_of (G := G) e d
  have Bx : ∀ (x : Str) (y : Value), x ∉ topNames → x ≠ "__name__" → x ∉ startupNames → bootBuiltins x = some y → Bl G x y := fun x y h1 h2 h3 h4 => ⟨(X.others x h1 h2).trans (hno x h3), (hmb x h2).trans h4⟩
  have hG : Glo G := by
    refine ⟨?_, ?_, ?_, ?_, ?_, ?_, ?_, ?_, ?_, ?_, ?_, X.marker, X.limit⟩ <;> refine Bx _ _ (by decide +kernel) (by decide +kernel) (by decide +kernel) (by rfl)
  have hS : SetAt G b1S := by
    obtain ⟨v, hm, a, n, rfl, _, hs⟩ := X.set
    exact ⟨a, n, hm, hs PP w⟩
  have hT : TabAt G "b3_exceptions" b3T := by
    obtain ⟨v, hm, a, kvs, rfl, ha, hr, hd⟩ := X.tab
    refine ⟨a, kvs, hm, ?_, hd PP w, rel_get hr⟩
    exact beq_eq_false_iff_ne.mpr (Nat.ne_of_gt (Nat.lt_of_lt_of_le (by decide) (Nat.le_trans (Nat.le_succ_of_le (Nat.le_of_lt X.low)) ha)))
  have h1 : ∀ c', CodeOf G "_int2digits" (fnPars PP iI2d) (fnBody PP iI2d) (fnScope PP iI2d) c' → ∃ P, TabDef G c' P (inPos (fnBody PP iI2d) 1) "_int2digits.<locals>.inner" :=
    tabDef_of (G := G) hu hu7 hu8 hu10 hu11 (.inl ⟨rfl, rfl, rfl, rfl⟩) (fun l cl q ht => by
      rcases ht with ⟨_, h1, h2, h3⟩ | ⟨h0, _⟩
      · exact ⟨h1, h2, h3⟩
      · exact absurd h0 hne) X.bmod
  have h2 : ∀ c', CodeOf G "_digits2int" (fnPars PP iD2i) (fnBody PP iD2i) (fnScope PP iD2i) c' → ∃ P, TabDef G c' P (inPos (fnBody PP iD2i) 0) "_digits2int.<locals>.inner" :=
    tabDef_of (G := G) hv hv7 hv8 hv10 hv11 (.inr ⟨rfl, rfl, rfl, rfl⟩) (fun l cl q ht => by
      rcases ht with ⟨h0, _⟩ | ⟨_, h1, h2, h3⟩
      · exact absurd h0.symm hne
      · exact ⟨h1, h2, h3⟩) X.bmod
  have Fi := i2d_fn hG (D _ _ (by decide +kernel)) h1
  have Fd := d2i_fn hG (D _ _ (by decide +kernel)) h2
  have F2 := d2n_fn hG (D _ _ (by decide +kernel))
  have Fm := dmp_fn hG (D _ _ (by decide +kernel)) F2 Fi Fd
  have Fim := idm_fn hG (D _ _ (by decide +kernel)) Fm
  have Fb1 := b1_fn hG hS (D _ _ (by decide +kernel))
  have Fb3 := b3_fn hG hT (D _ _ (by decide +kernel))
  refine ⟨G, rfl, rfl, fun b l c q ht => ?_, hG, ⟨un_fn hG (D _ _ (by decide +kernel)), st_fn hG (D _ _ (by decide +kernel)), pr_fn hG Fb1 Fb3 (D _ _ (by decide +kernel)), ell_fn hG (D _ _ (by decide +kernel)), Fi, Fd, Fim⟩,
    Bx _ _ (by decide +kernel) (by decide +kernel) (by decide +kernel) (by rfl), D _ _ (by decide +kernel), D _ _ (by decide +kernel)⟩
  rcases ht with ⟨rfl, _⟩ | ⟨rfl, _⟩
  · exact hu11.isCodeTable
  · exact hv11.isCodeTable
end
section
open PySem.W
theorem law_left (w : World) (s : Shared) (e : s.heap = boot_heap w.params) (hg : s.gens = #[]) (hz : s.asleep) : ∃ s₁ mg, TopRan PP w s s₁ ∧ (∃ h tk, s₁ = { s with heap := h, toks := tk }) ∧ isTheDefsW PP s₁.heap "law" ∧
      ∃ G : Gl PP w, G.hB = s₁.heap ∧ G.mg = mg ∧ (∀ b i c q, G.T b i c q → isCodeTable s₁.heap b) ∧
        ∃ a, mg "law" = some (.ref a) ∧ ∀ (A : Around) (M : Addr → Prop) (s : Shared) (v : Value) (sc : List Int) (Q : Value → Shared → Prop) (E : Value → Shared → Prop), Ok 28 A → A.frames = some [] →
          (∀ b o, G.hB.get? b = some o → Gr G.T s.heap b o) → (∀ a, M a → ∃ o, s.heap.get? a = some o) → Rp PP w s.heap M (.list (sc.map .int)) v → sc.length ≤ 63 →
          (∀ s', Kp G.T s s' → Q (.bool true) s') → wpAny (model PP w) A (PySem.call (.ref a) [v]) Q E s := by
  obtain ⟨s₁, mg, Pl, T, hs, X, Y⟩ := top_left w e hg hz
  obtain ⟨G, hB, hmg, hT, hG, F, hZ, hDi, hD⟩ := left_G w X Y.blt Y.st (fun x hx => boot_bmap _ x hx) fun x hx => boot_others _ hx
  obtain ⟨a, hma, _, hc⟩ := law_call hG F hZ hDi hD
  refine ⟨s₁, mg, T, hs, ?_, G, hB, hmg, hT, a, hmg ▸ hma, hc⟩
  obtain ⟨v, lo, hi, e, a, c', P', o, pm, doc, rfl, _, _, _, _, _, h7, h8, _⟩ := X.defs (iLaw, "law") (by decide +kernel)
  exact ⟨a, o, _, fnPars PP iLaw, fnBody PP iLaw, fnScope PP iLaw, (globalOf_ns X.g _).trans e, h7, h8, by kernel_rfl, rfl, rfl, rfl, rfl, rfl, rfl, rfl, rfl, .inl ⟨by kernel_rfl, rfl⟩, [], by kernel_rfl, .inl ⟨rfl, rfl⟩⟩
end
end Mine
end
open PySem PySem.W PyProof.Rows
set_option maxRecDepth 100000
namespace Mine
theorem said_open : looksOpen PySem.Challenge.rw_rs0224_01.row.prog = true := by
  unfold looksOpen
  refine look_both (look_both (look_both (look_both (look_both ?_ ?_) ?_) ?_) ?_) ?_
  all_goals decide +kernel
theorem said_part : PySem.Challenge.rw_rs0224_01.row.partSaid = true := by
  unfold OpenRow.partSaid
  refine look_both (look_both (look_both (look_both (look_both (look_both (look_both (look_both (look_both (look_both (look_both (look_both (look_both said_open ?_) ?_) ?_) ?_) ?_) ?_) ?_) ?_) ?_) ?_) ?_) ?_) ?_
  all_goals decide +kernel
theorem said_row : PySem.Challenge.rw_rs0224_01.row.wellSaid = true := by
  unfold OpenRow.wellSaid
  refine look_both (look_both said_part ?_) ?_
  all_goals decide +kernel
theorem law_said : PySem.Challenge.rw_rs0224_01.wellSaid = true := by
  unfold OpenLaw.wellSaid
  iterate 17 refine look_both ?_ ?_
  refine look_both said_row ?_
  all_goals decide +kernel
end Mine
set_option maxRecDepth 100000 in
set_option maxHeartbeats 8000000 in
theorem PySem.Challenge.cw_rs0224_01_holds : PySem.Challenge.rw_rs0224_01.Holds :=
  holds_law Mine.law_said fun said => Mine.law_row (l := PySem.Challenge.rw_rs0224_01) said rfl rfl rfl ⟨rfl, rfl, rfl, rfl, rfl, by decide +kernel⟩ (by decide +kernel) Mine.open_is Mine.fence_is Mine.law_left
