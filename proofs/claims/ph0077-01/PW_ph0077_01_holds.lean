import PyProof.Rows.All
import Wide.All
import OpenK.AllK
import Wide.FinOn
import KE.KLam
import KE.KItem
import KE.KBoundM
import KE.KNestM
import OpenK.XOpen
import PySem.Challenge.RW_ph0077_01
set_option Elab.async false
set_option linter.all false
open PySem PySem.W PyProof.Rows
namespace Mine

/-! the clean data: what the programs reckon with -/
inductive D where
  | none
  | bool (b : Bool)
  | int (i : Int)
  | str (s : Str)
  | tup (xs : List D)
  | lst (xs : List D)
  | own (k : Nat)
  | val (v : Value)

/-- an object that the programs change -/
inductive CO where
  | junk
  | list (xs : List D)
  | dict (n : Nat) (f : Str → Option D)
  | inst (C : Addr) (kd : Nat)
  | attrs (ns : List Str) (f : Str → Option D)
  | citer (k : Nat) (ended : Bool)
  | lam (j : Nat)

/-- frozen objects, and the addresses of the own ones -/
structure Wd where
  Z : Addr → Option Obj
  mu : List Addr

noncomputable abbrev seqObj (t : String) (vs : List Value) (n : Nat) : Obj := { cls := .type t, data := .seq vs.toArray n }

mutual
inductive RV (W : Wd) : D → Value → Prop
  | none : RV W D.none Value.none
  | bool (b : Bool) : RV W (D.bool b) (Value.bool b)
  | int (i : Int) (t : Tok) : RV W (D.int i) (Value.int i t)
  | str (x : Str) (t : Tok) : RV W (D.str x) (Value.str x t)
  | tup {a : Addr} {vs : List Value} {n : Nat} {ds : List D} : W.Z a = some (seqObj "tuple" vs n) → RVs W ds vs → RV W (D.tup ds) (Value.ref a)
  | lst {a : Addr} {vs : List Value} {n : Nat} {ds : List D} : W.Z a = some (seqObj "list" vs n) → RVs W ds vs → RV W (D.lst ds) (Value.ref a)
  | own {a : Addr} {k : Nat} : W.mu[k]? = some a → RV W (D.own k) (Value.ref a)
  | val (v : Value) : RV W (D.val v) v
inductive RVs (W : Wd) : List D → List Value → Prop
  | nil : RVs W [] []
  | cons {d : D} {v : Value} {ds : List D} {vs : List Value} : RV W d v → RVs W ds vs → RVs W (d :: ds) (v :: vs)
end

structure Keep (M : Addr → Prop) (s s' : Shared) : Prop where
  obj : ∀ a o, s.heap.get? a = some o → ¬ M a → s'.heap.get? a = some o
  ex : ∀ a o, s.heap.get? a = some o → ∃ o', s'.heap.get? a = some o'
  gens : s'.gens = s.gens
  drawn : s'.drawn = s.drawn
  os : s'.os = s.os

structure Grow (s : Shared) (W W' : Wd) : Prop where
  z : ∀ a o, W.Z a = some o → W'.Z a = some o
  zf : ∀ a o, W'.Z a = some o → W.Z a = some o ∨ s.heap.get? a = none ∨ a ∈ W.mu
  mu : ∃ nu, W'.mu = W.mu ++ nu ∧ ∀ a ∈ nu, s.heap.get? a = none

theorem Grow.refl (s : Shared) (W : Wd) : Grow s W W := ⟨fun _ _ e => e, fun _ _ e => .inl e, [], by simp, by simp⟩
theorem Grow.mu_get {s : Shared} {W W' : Wd} (g : Grow s W W') {k : Nat} {a : Addr} (e : W.mu[k]? = some a) : W'.mu[k]? = some a := by
  obtain ⟨nu, hnu, _⟩ := g.mu
  rw [hnu, List.getElem?_append_left (List.getElem?_eq_some_iff.mp e).1, e]
theorem none_of_ex {s s' : Shared} (h : ∀ a o, s.heap.get? a = some o → ∃ o', s'.heap.get? a = some o') {a : Addr} (e : s'.heap.get? a = none) : s.heap.get? a = none := by
  cases q : s.heap.get? a with
  | none => rfl
  | some o => obtain ⟨o', e'⟩ := h a o q; rw [e] at e'; cases e'
theorem Grow.trans {s s' : Shared} {W W' W'' : Wd} (g : Grow s W W') (g' : Grow s' W' W'') (hs : ∀ a o, s.heap.get? a = some o → ∃ o', s'.heap.get? a = some o') : Grow s W W'' := by
  refine ⟨fun a o e => g'.z a o (g.z a o e), fun a o e => ?_, ?_⟩
  · rcases g'.zf a o e with h | h | h
    · exact g.zf a o h
    · exact .inr (.inl (none_of_ex hs h))
    · obtain ⟨nu, h1, h2⟩ := g.mu
      rw [h1] at h
      rcases List.mem_append.mp h with h | h
      · exact .inr (.inr h)
      · exact .inr (.inl (h2 a h))
  · obtain ⟨nu, h1, h2⟩ := g.mu
    obtain ⟨nu', h1', h2'⟩ := g'.mu
    refine ⟨nu ++ nu', by rw [h1', h1, List.append_assoc], fun a ha => ?_⟩
    rcases List.mem_append.mp ha with h | h
    · exact h2 a h
    · exact none_of_ex hs (h2' a h)

structure Le (W W' : Wd) : Prop where
  z : ∀ a o, W.Z a = some o → W'.Z a = some o
  mu : ∀ (k : Nat) (a : Addr), W.mu[k]? = some a → W'.mu[k]? = some a
theorem Le.refl (W : Wd) : Le W W := ⟨fun _ _ e => e, fun _ _ e => e⟩
theorem Le.trans {W W' W'' : Wd} (a : Le W W') (b : Le W' W'') : Le W W'' := ⟨fun x o e => b.z x o (a.z x o e), fun k x e => b.mu k x (a.mu k x e)⟩
theorem Grow.le {s : Shared} {W W' : Wd} (g : Grow s W W') : Le W W' := ⟨g.z, fun _ _ e => g.mu_get e⟩
mutual
theorem RV.le {W W' : Wd} (g : Le W W') : ∀ {d : D} {v : Value}, RV W d v → RV W' d v
  | _, _, .none => .none
  | _, _, .bool b => .bool b
  | _, _, .int i t => .int i t
  | _, _, .str x t => .str x t
  | _, _, .tup h r => .tup (g.z _ _ h) (RVs.le g r)
  | _, _, .lst h r => .lst (g.z _ _ h) (RVs.le g r)
  | _, _, .own h => .own (g.mu _ _ h)
  | _, _, .val v => .val v
theorem RVs.le {W W' : Wd} (g : Le W W') : ∀ {ds : List D} {vs : List Value}, RVs W ds vs → RVs W' ds vs
  | _, _, .nil => .nil
  | _, _, .cons h r => .cons (RV.le g h) (RVs.le g r)
end
theorem RV.grow {s : Shared} {W W' : Wd} (g : Grow s W W') {d : D} {v : Value} (r : RV W d v) : RV W' d v := r.le g.le
theorem RVs.grow {s : Shared} {W W' : Wd} (g : Grow s W W') {ds : List D} {vs : List Value} (r : RVs W ds vs) : RVs W' ds vs := r.le g.le

theorem RVs.length {W : Wd} : ∀ {ds : List D} {vs : List Value}, RVs W ds vs → ds.length = vs.length
  | _, _, .nil => rfl
  | _, _, .cons _ r => by rw [List.length_cons, List.length_cons, r.length]
theorem RVs.get {W : Wd} : ∀ {ds : List D} {vs : List Value}, RVs W ds vs → ∀ {i : Nat} {d : D}, ds[i]? = some d → ∃ v, vs[i]? = some v ∧ RV W d v
  | _, _, .nil, _, _, e => by simp at e
  | _, _, .cons h r, 0, _, e => by simp at e; subst e; exact ⟨_, by simp, h⟩
  | _, _, .cons h r, i + 1, _, e => by
    obtain ⟨v, e', h'⟩ := r.get (i := i) (by simpa using e)
    exact ⟨v, by simpa using e', h'⟩
theorem RVs.append {W : Wd} : ∀ {ds es : List D} {vs us : List Value}, RVs W ds vs → RVs W es us → RVs W (ds ++ es) (vs ++ us)
  | _, _, _, _, .nil, k => k
  | _, _, _, _, .cons h r, k => .cons h (r.append k)
theorem RVs.one {W : Wd} {d : D} {v : Value} (h : RV W d v) : RVs W [d] [v] := .cons h .nil
theorem RVs.set {W : Wd} : ∀ {ds : List D} {vs : List Value}, RVs W ds vs → ∀ {i : Nat} {d : D} {v : Value}, RV W d v → RVs W (ds.set i d) (vs.set i v)
  | _, _, .nil, _, _, _, _ => by simpa using RVs.nil
  | _, _, .cons h r, 0, _, _, k => .cons k r
  | _, _, .cons h r, i + 1, _, _, k => .cons h (r.set k)

theorem Keep.refl (M : Addr → Prop) (s : Shared) : Keep M s s := ⟨fun _ _ e _ => e, fun _ o e => ⟨o, e⟩, rfl, rfl, rfl⟩
theorem Keep.trans {M M' : Addr → Prop} {s s' s'' : Shared} (k : Keep M s s') (k' : Keep M' s' s'') (h : ∀ a, M' a → M a ∨ s.heap.get? a = none) : Keep M s s'' :=
  ⟨fun a o e n => k'.obj a o (k.obj a o e n) fun m => by
      rcases h a m with h | h
      · exact n h
      · exact (Option.some_ne_none _ (e.symm.trans h)).elim,
   fun a o e => let ⟨o', e'⟩ := k.ex a o e; k'.ex a o' e', k'.gens.trans k.gens, k'.drawn.trans k.drawn, k'.os.trans k.os⟩
theorem Keep.mono {M M' : Addr → Prop} {s s' : Shared} (k : Keep M s s') (h : ∀ a, M a → M' a ∨ s.heap.get? a = none) : Keep M' s s' :=
  ⟨fun a o e n => k.obj a o e fun m => by
      rcases h a m with h | h
      · exact n h
      · exact (Option.some_ne_none _ (e.symm.trans h)).elim, k.ex, k.gens, k.drawn, k.os⟩
theorem Keep.ext {M : Addr → Prop} {s : Shared} {h' : Heap} {t : Nat} (k : ∀ a o, s.heap.get? a = some o → h'.get? a = some o) : Keep M s { s with heap := h', toks := t } :=
  ⟨fun a o e _ => k a o e, fun a o e => ⟨o, k a o e⟩, rfl, rfl, rfl⟩
theorem Keep.tok {M : Addr → Prop} {s : Shared} (t : Nat) : Keep M s { s with toks := t } := .ext fun _ _ e => e
theorem Keep.push {M : Addr → Prop} {s : Shared} (o : Obj) : Keep M s { s with heap := s.heap.push o } := ⟨fun _ _ e _ => Heap.get?_push_of_some _ e, fun _ _ e => ⟨_, Heap.get?_push_of_some _ e⟩, rfl, rfl, rfl⟩
theorem Keep.same {M : Addr → Prop} {s : Shared} {b : Addr} {h' : Heap} {t : Nat} (hs : Heap.SameBut b s.heap h') (hM : M b) (hb : ∃ o, h'.get? b = some o) : Keep M s { s with heap := h', toks := t } :=
  ⟨fun a o e n => (hs.2 a fun q => n (q ▸ hM)).trans e, fun a o e => by
    by_cases q : a = b
    · subst q; exact hb
    · exact ⟨o, (hs.2 a q).trans e⟩, rfl, rfl, rfl⟩

/-- the run's fixed setting: the program, the world, the top's heap, the one code table that grows -/
structure Cx where
  prog : Program
  w : World
  T : Heap
  PT : Addr
  ps : Array Value
  mg : Str → Option Value
  mb : Str → Option Value
  lq : Str
  lpar : Arguments
  lbody : Expr
  lsc : Scope
  lv : Str
  lpos : Pos
  rc : Addr
  Z0 : Addr → Option Obj

noncomputable def Mut (X : Cx) (F : List Addr) (W : Wd) : Addr → Prop := fun a => a ∈ F ∨ (a ∈ W.mu ∧ W.Z a = none) ∨ a = X.PT

/-- what a piece of a run may do -/
structure Step (X : Cx) (F : List Addr) (W : Wd) (s : Shared) (W' : Wd) (s' : Shared) : Prop where
  keep : Keep (Mut X F W) s s'
  grow : Grow s W W'

theorem mut_grow {X : Cx} {F : List Addr} {s : Shared} {W W' : Wd} (g : Grow s W W') : ∀ a, Mut X F W' a → Mut X F W a ∨ s.heap.get? a = none := by
  intro a h
  rcases h with h | h | h
  · exact .inl (.inl h)
  · obtain ⟨nu, h1, h2⟩ := g.mu
    obtain ⟨h, hz⟩ := h
    rw [h1] at h
    rcases List.mem_append.mp h with h | h
    · refine .inl (.inr (.inl ⟨h, ?_⟩))
      cases q : W.Z a with
      | none => rfl
      | some o => rw [g.z a o q] at hz; cases hz
    · exact .inr (h2 a h)
  · exact .inl (.inr (.inr h))
theorem Step.refl {X : Cx} {F : List Addr} {W : Wd} {s : Shared} : Step X F W s W s := ⟨.refl _ _, .refl _ _⟩
theorem Step.trans {X : Cx} {F : List Addr} {W W' W'' : Wd} {s s' s'' : Shared} (a : Step X F W s W' s') (b : Step X F W' s' W'' s'') : Step X F W s W'' s'' :=
  ⟨a.keep.trans b.keep (mut_grow a.grow), a.grow.trans b.grow a.keep.ex⟩
theorem Step.frames {X : Cx} {F F' : List Addr} {W W' : Wd} {s s' : Shared} (a : Step X F W s W' s') (hF : ∀ b ∈ F, b ∈ F' ∨ s.heap.get? b = none) : Step X F' W s W' s' :=
  ⟨a.keep.mono (fun b m => by
    rcases m with m | m
    · rcases hF b m with m | m
      · exact .inl (.inl m)
      · exact .inr m
    · exact .inl (.inr m)), a.grow⟩
theorem Step.nil {X : Cx} {F : List Addr} {W W' : Wd} {s s' : Shared} (a : Step X [] W s W' s') : Step X F W s W' s' := a.frames (by simp)
theorem Step.ext {X : Cx} {F : List Addr} {W W' : Wd} {s : Shared} {h' : Heap} {t : Nat} (k : ∀ a o, s.heap.get? a = some o → h'.get? a = some o) (g : Grow s W W') : Step X F W s W' { s with heap := h', toks := t } := ⟨.ext k, g⟩
theorem Step.tok {X : Cx} {F : List Addr} {W : Wd} {s : Shared} (t : Nat) : Step X F W s W { s with toks := t } := ⟨.tok _, .refl _ _⟩

inductive After {α : Type} (X : Cx) (F : List Addr) (W : Wd) (s : Shared) (Q : α → Wd → Shared → Prop) (v : α) (s' : Shared) : Prop
  | mk (W' : Wd) : Step X F W s W' s' → Q v W' s' → After X F W s Q v s'
/-- a clean end: the trees may not raise -/
noncomputable def wpS {α : Type} (X : Cx) (A : Around) (F : List Addr) (t : Sem α) (W : Wd) (s : Shared) (Q : α → Wd → Shared → Prop) : Prop :=
  wpAny (model X.prog X.w) A t (After X F W s Q) (fun _ _ => False) s

section
variable {α β : Type} {X : Cx} {A : Around} {F : List Addr} {W : Wd} {s : Shared}

theorem wpS_mono {t : Sem α} {Q Q' : α → Wd → Shared → Prop} (h : wpS X A F t W s Q) (k : ∀ v W' s', Step X F W s W' s' → Q v W' s' → Q' v W' s') : wpS X A F t W s Q' :=
  wpAny_mono h (fun v s' ⟨W', a, c⟩ => ⟨W', a, k v W' s' a c⟩) fun _ _ e => e

theorem wpS_bind {t : Sem α} {u : α → Sem β} {Q : β → Wd → Shared → Prop} (h : wpS X A F t W s (fun v W' s' => wpS X A F (u v) W' s' Q)) : wpS X A F (t >>= u) W s Q := by
  refine wpAny_bind (wpAny_mono h (fun v s' hv => ?_) fun _ _ e => e)
  obtain ⟨W', st, q⟩ := hv
  refine wpAny_mono q (fun r s'' hr => ?_) fun _ _ e => e
  obtain ⟨W'', st', q'⟩ := hr
  exact ⟨W'', st.trans st', q'⟩

/-- to go on inside the library's own nested form -/
theorem wpS_then {t : Sem α} {Q : α → Wd → Shared → Prop} {R : α → Shared → Prop} (h : wpS X A F t W s Q) (k : ∀ v W' s', Step X F W s W' s' → Q v W' s' → R v s') {E : Value → Shared → Prop} : wpAny (model X.prog X.w) A t R E s :=
  wpAny_mono h (fun v s' ⟨W', a, c⟩ => k v W' s' a c) fun _ _ e => e.elim

theorem wpS_here {t : Sem α} {Q : α → Wd → Shared → Prop} (h : wpAny (model X.prog X.w) A t (fun v s' => Keep (Mut X F W) s s' ∧ Q v W s') (fun _ _ => False) s) : wpS X A F t W s Q :=
  wpAny_mono h (fun _ _ ⟨a, b⟩ => ⟨W, ⟨a, .refl _ _⟩, b⟩) fun _ _ e => e
theorem wpS_pure {a : α} {Q : α → Wd → Shared → Prop} (h : Q a W s) : wpS X A F (pure a) W s Q := wpAny_pure ⟨W, .refl, h⟩
theorem wpS_holding {vs : List Value} {t : Sem α} {Q : α → Wd → Shared → Prop} (h : wpS X A F t W s Q) : wpS X A F (holding vs t) W s Q := wpAny_holding h
theorem wpS_standAt {pos : Pos} {Q : Unit → Wd → Shared → Prop} (h : Q () W s) : wpS X A F (standAt pos) W s Q := wpAny_standAt ⟨W, .refl, h⟩
theorem wpS_frames {F' : List Addr} {t : Sem α} {Q : α → Wd → Shared → Prop} (h : wpS X A F t W s Q) (hF : ∀ a ∈ F, a ∈ F' ∨ s.heap.get? a = none) : wpS X A F' t W s Q :=
  wpAny_mono h (fun _ _ ⟨W', st, q⟩ => ⟨W', st.frames hF, q⟩) fun _ _ e => e
end

/-- the lambda's code, written down once -/
inductive CodeZ (X : Cx) (W : Wd) (cv : Value) : Prop
  | mk (c : Addr) (oc : Obj) (xs : Array Value) (t : Tok) : cv = .ref c → W.Z c = some oc → oc.data = .fields xs → xs[1]? = some (.str X.lq t) → CodeZ X W cv
noncomputable def TabOk (X : Cx) (W : Wd) (more : Array Value) : Prop := more = #[] ∨ ∃ cv, more = #[rawInt X.lpos.line, rawInt X.lpos.col, cv] ∧ CodeZ X W cv
theorem CodeZ.le {X : Cx} {W W' : Wd} {cv : Value} (l : Le W W') (h : CodeZ X W cv) : CodeZ X W' cv := let ⟨c, oc, xs, t, a, b, r, q⟩ := h; ⟨c, oc, xs, t, a, l.z _ _ b, r, q⟩
theorem TabOk.le {X : Cx} {W W' : Wd} {m : Array Value} (l : Le W W') (h : TabOk X W m) : TabOk X W' m := by
  rcases h with h | ⟨cv, h, c⟩
  · exact .inl h
  · exact .inr ⟨cv, h, c.le l⟩
inductive LamZ (X : Cx) (W : Wd) (j : Nat) (o : Obj) : Prop
  | mk (pm cv ct : Value) (c : Addr) (oc : Obj) (aj : Addr) : o = { cls := .type "function", data := .func (kla_fn "<lambda>" X.lq X.lpar X.lbody X.lsc [(X.lv, c)] pm cv ct) } → W.Z c = some oc → oc.data = .cell (some (.ref aj)) → W.mu[j]? = some aj → CodeZ X W cv → LamZ X W j o
theorem LamZ.le {X : Cx} {W W' : Wd} {j : Nat} {o : Obj} (l : Le W W') (h : LamZ X W j o) : LamZ X W' j o := let ⟨pm, cv, ct, c, oc, aj, e, z, d, m, k⟩ := h; ⟨pm, cv, ct, c, oc, aj, e, l.z _ _ z, d, l.mu _ _ m, k.le l⟩

/-! the own objects -/
noncomputable def ROpt (W : Wd) : Option D → Option Value → Prop
  | some d, some v => RV W d v
  | none, none => True
  | _, _ => False

noncomputable def ROb (X : Cx) (W : Wd) (h : Heap) (a : Addr) : CO → Prop
  | .junk => ∃ o, h.get? a = some o
  | .list xs => ∃ vs n, h.get? a = some (seqObj "list" vs n) ∧ RVs W xs vs
  | .dict n f => ∃ kvs, h.DictOf (PySem.strKind X.prog X.w) a kvs ∧ kvs.length ≤ n ∧ ∀ k, ROpt W (f k) (valueAt kvs k)
  | .inst C kd => ∃ d, W.mu[kd]? = some d ∧ d ≠ a ∧ h.get? a = some { cls := .ref C, dict := some d, data := .plain }
  | .attrs ns f => ∃ g, h.Ns1 a g ∧ PySem.Within g ns ∧ ∀ k, ROpt W (f k) (g k)
  | .citer k e => ∃ u v, h.get? a = some { cls := .type "callable_iterator", data := .fields #[u, v, .bool e] } ∧ (e = false → ∃ q ak t, u = .ref q ∧ W.Z q = some (methodObj (.ref X.rc) (.ref ak)) ∧ W.mu[k]? = some ak ∧ v = .str ⟨#[]⟩ t)
  | .lam j => ∃ o, h.get? a = some o ∧ LamZ X W j o

theorem ROpt.grow {s : Shared} {W W' : Wd} (g : Grow s W W') : ∀ {d : Option D} {v : Option Value}, ROpt W d v → ROpt W' d v
  | some _, some _, h => RV.grow g h
  | none, none, _ => trivial
  | some _, none, h => h.elim
  | none, some _, h => h.elim
theorem ROb.exists {X : Cx} {W : Wd} {h : Heap} {a : Addr} : ∀ {co : CO}, ROb X W h a co → ∃ o, h.get? a = some o
  | .junk, r => r
  | .list _, ⟨_, _, e, _⟩ => ⟨_, e⟩
  | .dict _ _, ⟨_, ⟨o, _, _, e, _⟩, _⟩ => ⟨o, e⟩
  | .inst _ _, ⟨_, _, _, e⟩ => ⟨_, e⟩
  | .attrs _ _, ⟨_, ⟨o, _, _, e, _⟩, _⟩ => ⟨o, e⟩
  | .citer _ _, ⟨_, _, e, _⟩ => ⟨_, e⟩
  | .lam _, ⟨o, e, _⟩ => ⟨o, e⟩
theorem ROb.at {X : Cx} {s : Shared} {W W' : Wd} (g : Grow s W W') {h h' : Heap} {a : Addr} (k : ∀ o, h.get? a = some o → h'.get? a = some o) : ∀ {co : CO}, ROb X W h a co → ROb X W' h' a co
  | .junk, ⟨o, e⟩ => ⟨o, k o e⟩
  | .list _, ⟨vs, n, e, r⟩ => ⟨vs, n, k _ e, RVs.grow g r⟩
  | .dict _ _, ⟨q, ⟨o, es, ep, e, x⟩, le, r⟩ => ⟨q, ⟨o, es, ep, k _ e, x⟩, le, fun y => ROpt.grow g (r y)⟩
  | .inst _ _, ⟨d, e, n, x⟩ => ⟨d, g.mu_get e, n, k _ x⟩
  | .attrs _ _, ⟨q, x, ws, r⟩ => ⟨q, x.at k, ws, fun y => ROpt.grow g (r y)⟩
  | .citer _ _, ⟨u, v, e, r⟩ => ⟨u, v, k _ e, fun q => let ⟨a, b, t, h1, h2, h3, h4⟩ := r q; ⟨a, b, t, h1, g.z _ _ h2, g.mu_get h3, h4⟩⟩
  | .lam _, ⟨o, e, r⟩ => ⟨o, k _ e, r.le g.le⟩

structure Phi (X : Cx) (W : Wd) (H : List CO) (s : Shared) : Prop where
  top : ∀ a o, X.T.get? a = some o → a ≠ X.PT → s.heap.get? a = some o
  tab : ∃ more, s.heap.get? X.PT = some (PySem.W.X.tableObj (X.ps ++ more)) ∧ TabOk X W more
  frz : ∀ a o, W.Z a = some o → s.heap.get? a = some o
  len : H.length = W.mu.length
  own : ∀ (k : Nat) (co : CO) (a : Addr), H[k]? = some co → W.mu[k]? = some a → ROb X W s.heap a co
  apart : ∀ (k : Nat) (co : CO) (a : Addr), H[k]? = some co → W.mu[k]? = some a → co ≠ .junk → W.Z a = none
  off : ∀ a ∈ W.mu, X.T.get? a = none ∧ a ≠ X.PT
  nodup : W.mu.Nodup
  zPT : W.Z X.PT = none
  z0 : ∀ a o, X.Z0 a = some o → W.Z a = some o

section
variable {X : Cx} {W W' : Wd} {H : List CO} {s s' : Shared}

theorem Phi.ext (p : Phi X W H s) (k : ∀ a o, s.heap.get? a = some o → s'.heap.get? a = some o) : Phi X W H s' where
  top := fun a o e n => k a o (p.top a o e n)
  tab := let ⟨m, e, q⟩ := p.tab; ⟨m, k _ _ e, q⟩
  frz := fun a o e => k a o (p.frz a o e)
  len := p.len
  own := fun i co a e1 e2 => (p.own i co a e1 e2).at (.refl s W) fun o e => k a o e
  apart := p.apart
  off := p.off
  nodup := p.nodup
  zPT := p.zPT
  z0 := p.z0
theorem Phi.tok (p : Phi X W H s) (t : Nat) : Phi X W H { s with toks := t } := p.ext fun _ _ e => e
theorem Phi.push (p : Phi X W H s) (o : Obj) : Phi X W H { s with heap := s.heap.push o } := p.ext fun _ _ e => Heap.get?_push_of_some _ e

/-- one more frozen object -/
noncomputable def Wd.frz (W : Wd) (a : Addr) (o : Obj) : Wd := { W with Z := fun b => if b = a then some o else W.Z b }
theorem Wd.frz_self (W : Wd) (a : Addr) (o : Obj) : (W.frz a o).Z a = some o := by simp [Wd.frz]
theorem Grow.frz {a : Addr} {o : Obj} (hn : s.heap.get? a = none) (hz : W.Z a = none) : Grow s W (W.frz a o) where
  z := fun b q e => by
    show (if b = a then _ else _) = _
    rw [if_neg (by rintro rfl; rw [hz] at e; cases e)]; exact e
  zf := fun b q e => by
    have e : (if b = a then some o else W.Z b) = some q := e
    by_cases h : b = a
    · subst h; exact .inr (.inl hn)
    · rw [if_neg h] at e; exact .inl e
  mu := ⟨[], by simp [Wd.frz], by simp⟩
theorem get?_size_none (h : Heap) : h.get? h.objs.size = none := by
  cases e : h.get? h.objs.size with
  | none => rfl
  | some o => exact absurd (Heap.lt_size e) (Nat.lt_irrefl _)
theorem Phi.z_none (p : Phi X W H s) {a : Addr} (h : s.heap.get? a = none) : W.Z a = none := by
  cases e : W.Z a with
  | none => rfl
  | some o => rw [p.frz a o e] at h; cases h
theorem Phi.T_none (p : Phi X W H s) {a : Addr} (h : s.heap.get? a = none) : X.T.get? a = none ∧ a ≠ X.PT := by
  have hp : a ≠ X.PT := by
    rintro rfl
    obtain ⟨m, e, _⟩ := p.tab
    rw [h] at e; cases e
  refine ⟨?_, hp⟩
  cases e : X.T.get? a with
  | none => rfl
  | some o => rw [p.top a o e hp] at h; cases h
theorem Phi.mu_ex (p : Phi X W H s) {a : Addr} (h : a ∈ W.mu) : ∃ o, s.heap.get? a = some o := by
  obtain ⟨k, hk, e⟩ := List.mem_iff_getElem.mp h
  have hH : H[k]? = some (H[k]'(by rw [p.len]; exact hk)) := List.getElem?_eq_getElem _
  exact (p.own k _ a hH (by rw [List.getElem?_eq_getElem hk, e])).exists
theorem Phi.mu_ne (p : Phi X W H s) {a : Addr} (h : s.heap.get? a = none) : a ∉ W.mu := fun m => by
  obtain ⟨o, e⟩ := p.mu_ex m
  rw [h] at e; cases e
theorem Phi.frozen (p : Phi X W H s) {a : Addr} {o : Obj} (hn : s.heap.get? a = none) (k : ∀ b q, s.heap.get? b = some q → s'.heap.get? b = some q) (e : s'.heap.get? a = some o) : Phi X (W.frz a o) H s' := by
  have g : Grow s W (W.frz a o) := .frz hn (p.z_none hn)
  refine ⟨fun b q x n => k b q (p.top b q x n), let ⟨m, x, q⟩ := p.tab; ⟨m, k _ _ x, q.le g.le⟩, fun b q x => ?_, p.len, fun i co b e1 e2 => (p.own i co b e1 e2).at g fun q x => k b q x, fun i co b e1 e2 hj => ?_, p.off, p.nodup, ?_, fun b q e => g.z b q (p.z0 b q e)⟩
  · have x : (if b = a then some o else W.Z b) = some q := x
    by_cases h : b = a
    · subst h; rw [if_pos rfl] at x; cases x; exact e
    · rw [if_neg h] at x; exact k b q (p.frz b q x)
  · show (if b = a then _ else _) = _
    rw [if_neg (by rintro rfl; exact p.mu_ne hn (List.mem_of_getElem? e2))]; exact p.apart i co b e1 e2 hj
  · show (if X.PT = a then _ else _) = _
    rw [if_neg (Ne.symm (p.T_none hn).2)]; exact p.zPT

/-- one more own object -/
noncomputable def Wd.more (W : Wd) (a : Addr) : Wd := { W with mu := W.mu ++ [a] }
theorem Grow.more {a : Addr} (hn : s.heap.get? a = none) : Grow s W (W.more a) := ⟨fun _ _ e => e, fun _ _ e => .inl e, [a], rfl, by simpa using hn⟩
theorem Phi.more (p : Phi X W H s) {a : Addr} {co : CO} (hn : s.heap.get? a = none) (k : ∀ b q, s.heap.get? b = some q → s'.heap.get? b = some q) (r : ROb X (W.more a) s'.heap a co) : Phi X (W.more a) (H ++ [co]) s' := by
  have g : Grow s W (W.more a) := .more hn
  refine ⟨fun b q x n => k b q (p.top b q x n), let ⟨m, x, q⟩ := p.tab; ⟨m, k _ _ x, q.le g.le⟩, fun b q x => k b q (p.frz b q x), by simp [Wd.more, p.len], fun i c b e1 e2 => ?_, fun i c b e1 e2 hj => ?_, fun b hb => ?_, ?_, p.zPT, p.z0⟩
  · have e2 : (W.mu ++ [a])[i]? = some b := e2
    rcases Nat.lt_trichotomy i H.length with h | h | h
    · rw [List.getElem?_append_left h] at e1
      rw [List.getElem?_append_left (by rw [← p.len]; exact h)] at e2
      exact (p.own i c b e1 e2).at g fun q x => k b q x
    · subst h
      rw [List.getElem?_append_right (Nat.le_refl _)] at e1
      rw [p.len, List.getElem?_append_right (Nat.le_refl _)] at e2
      simp at e1 e2
      subst e1 e2
      exact r
    · rw [List.getElem?_eq_none (by simp; omega)] at e1; cases e1
  · have e2 : (W.mu ++ [a])[i]? = some b := e2
    rcases Nat.lt_trichotomy i H.length with h | h | h
    · rw [List.getElem?_append_left h] at e1
      rw [List.getElem?_append_left (by rw [← p.len]; exact h)] at e2
      exact p.apart i c b e1 e2 hj
    · subst h
      rw [p.len, List.getElem?_append_right (Nat.le_refl _)] at e2
      simp at e2
      subst e2
      exact p.z_none hn
    · rw [List.getElem?_eq_none (by simp; omega)] at e1; cases e1
  · rcases List.mem_append.mp hb with h | h
    · exact p.off b h
    · rw [List.mem_singleton.mp h]; exact p.T_none hn
  · exact List.nodup_append.mpr ⟨p.nodup, by simp, fun b hb c hc => by rw [List.mem_singleton.mp hc]; rintro rfl; exact p.mu_ne hn hb⟩
theorem more_get (p : Phi X W H s) (a : Addr) : (W.more a).mu[H.length]? = some a := by
  show (W.mu ++ [a])[H.length]? = _
  rw [p.len, List.getElem?_append_right (Nat.le_refl _)]; simp

theorem nodup_idx {l : List Addr} (hn : l.Nodup) {i j : Nat} {a : Addr} (h1 : l[i]? = some a) (h2 : l[j]? = some a) : i = j := by
  rcases Nat.lt_trichotomy i j with h | h | h
  · obtain ⟨l1, e1⟩ := List.getElem?_eq_some_iff.mp h1
    obtain ⟨l2, e2⟩ := List.getElem?_eq_some_iff.mp h2
    exact absurd (e1.trans e2.symm) ((List.pairwise_iff_getElem.mp hn) i j l1 l2 h)
  · exact h
  · obtain ⟨l1, e1⟩ := List.getElem?_eq_some_iff.mp h1
    obtain ⟨l2, e2⟩ := List.getElem?_eq_some_iff.mp h2
    exact absurd (e2.trans e1.symm) ((List.pairwise_iff_getElem.mp hn) j i l2 l1 h)
/-- an own object changed -/
theorem Phi.setOwn (p : Phi X W H s) {k : Nat} {a : Addr} {co : CO} {h' : Heap} {t : Nat} (ha : W.mu[k]? = some a) (z1 : W.Z a = none) (hs : ∀ b o, b ≠ a → s.heap.get? b = some o → h'.get? b = some o) (r : ROb X W h' a co) : Phi X W (H.set k co) { s with heap := h', toks := t } := by
  have hm : a ∈ W.mu := List.mem_of_getElem? ha
  obtain ⟨z2, z3⟩ := p.off a hm
  refine ⟨fun b q x n => hs b q (by rintro rfl; rw [z2] at x; cases x) (p.top b q x n), ?_, fun b q x => hs b q (by rintro rfl; rw [z1] at x; cases x) (p.frz b q x), by simp [p.len], fun i c b e1 e2 => ?_, fun i c b e1 e2 hj => ?_, p.off, p.nodup, p.zPT, p.z0⟩
  · obtain ⟨m, x, q⟩ := p.tab; exact ⟨m, hs _ _ (Ne.symm z3) x, q⟩
  · by_cases hi : i = k
    · subst hi
      rw [ha] at e2; cases e2
      rw [List.getElem?_set_self (by rw [p.len]; exact (List.getElem?_eq_some_iff.mp ha).1)] at e1
      cases e1; exact r
    · rw [List.getElem?_set_ne (Ne.symm hi)] at e1
      have hb : b ≠ a := by
        rintro rfl
        exact hi (nodup_idx p.nodup e2 ha)
      exact (p.own i c b e1 e2).at (.refl s W) fun o x => hs b o hb x
  · by_cases hi : i = k
    · subst hi
      rw [ha] at e2; cases e2; exact z1
    · rw [List.getElem?_set_ne (Ne.symm hi)] at e1
      exact p.apart i c b e1 e2 hj
end
theorem ROb.le {X : Cx} {W W' : Wd} (g : Le W W') {h : Heap} {a : Addr} : ∀ {co : CO}, ROb X W h a co → ROb X W' h a co
  | .junk, r => r
  | .list _, ⟨vs, n, e, r⟩ => ⟨vs, n, e, RVs.le g r⟩
  | .dict _ f, ⟨q, m, l, r⟩ => ⟨q, m, l, fun k => by
      have := r k
      revert this
      cases f k <;> cases valueAt q k <;> first | exact id | exact fun r => RV.le g r⟩
  | .inst _ _, ⟨d, e, n, x⟩ => ⟨d, g.mu _ _ e, n, x⟩
  | .attrs _ f, ⟨q, m, l, r⟩ => ⟨q, m, l, fun k => by
      have := r k
      revert this
      cases f k <;> cases q k <;> first | exact id | exact fun r => RV.le g r⟩
  | .citer _ _, ⟨u, v, e, r⟩ => ⟨u, v, e, fun q => let ⟨a, b, t, h1, h2, h3, h4⟩ := r q; ⟨a, b, t, h1, g.z _ _ h2, g.mu _ _ h3, h4⟩⟩
  | .lam _, ⟨o, e, r⟩ => ⟨o, e, r.le g⟩
theorem Le.frz {W : Wd} {a : Addr} {o : Obj} (hz : W.Z a = none) : Le W (W.frz a o) := ⟨fun b q x => by
  show (if b = a then some o else W.Z b) = some q
  rw [if_neg (by rintro rfl; rw [hz] at x; cases x)]; exact x, fun _ _ x => x⟩
/-- an own list that will change no more -/
theorem Phi.seal {X : Cx} {W : Wd} {H : List CO} {s : Shared} (p : Phi X W H s) {k : Nat} {a : Addr} {xs : List D} (hk : H[k]? = some (.list xs)) (ha : W.mu[k]? = some a) :
    ∃ vs n, s.heap.get? a = some (seqObj "list" vs n) ∧ RVs W xs vs ∧ Phi X (W.frz a (seqObj "list" vs n)) (H.set k .junk) s ∧ Grow s W (W.frz a (seqObj "list" vs n)) ∧ (W.frz a (seqObj "list" vs n)).Z a = some (seqObj "list" vs n) := by
  obtain ⟨vs, n, e, r⟩ := p.own k _ a hk ha
  have hz := p.apart k _ a hk ha (by intro h; cases h)
  have hm : a ∈ W.mu := List.mem_of_getElem? ha
  have le : Le W (W.frz a (seqObj "list" vs n)) := .frz hz
  have zz : ∀ b, b ≠ a → (W.frz a (seqObj "list" vs n)).Z b = W.Z b := fun b hb => by show (if b = a then _ else _) = _; rw [if_neg hb]
  refine ⟨vs, n, e, r, ⟨p.top, let ⟨m, x, q⟩ := p.tab; ⟨m, x, q.le le⟩, fun b q x => ?_, by simp [Wd.frz, p.len], fun i co b e1 e2 => ?_, fun i co b e1 e2 hj => ?_, p.off, p.nodup, ?_, fun b q e => le.z b q (p.z0 b q e)⟩, ⟨le.z, fun b q x => ?_, [], by simp [Wd.frz], by simp⟩, Wd.frz_self ..⟩
  · by_cases h : b = a
    · subst h; rw [Wd.frz_self] at x; cases x; exact e
    · rw [zz b h] at x; exact p.frz b q x
  · by_cases hi : i = k
    · subst hi
      rw [List.getElem?_set_self (by rw [p.len]; exact (List.getElem?_eq_some_iff.mp ha).1)] at e1
      cases e1
      have e2 : W.mu[i]? = some b := e2
      rw [ha] at e2; cases e2; exact ⟨_, e⟩
    · rw [List.getElem?_set_ne (Ne.symm hi)] at e1
      exact (p.own i co b e1 e2).le le
  · by_cases hi : i = k
    · subst hi
      rw [List.getElem?_set_self (by rw [p.len]; exact (List.getElem?_eq_some_iff.mp ha).1)] at e1
      cases e1; exact absurd rfl hj
    · rw [List.getElem?_set_ne (Ne.symm hi)] at e1
      have hb : b ≠ a := by rintro rfl; exact hi (nodup_idx p.nodup e2 ha)
      rw [zz b hb]; exact p.apart i co b e1 e2 hj
  · rw [zz _ (Ne.symm (p.off a hm).2)]; exact p.zPT
  · by_cases h : b = a
    · subst h; exact .inr (.inr hm)
    · rw [zz b h] at x; exact .inl x
end Mine
open PySem PySem.W PyProof.Rows
namespace Mine
theorem bindI {α β : Type} {o : Option α} {f : α → Option β} {r : β} {P : Prop} (k : ∀ a, o = some a → f a = some r → P) (h : o.bind f = some r) : P :=
  (Option.bind_eq_some_iff.mp h).elim fun a q => k a q.1 q.2
theorem bindI2 {α α' β : Type} {o : Option (α × α')} {f : α × α' → Option β} {r : β} {P : Prop} (k : ∀ a b, o = some (a, b) → f (a, b) = some r → P) (h : o.bind f = some r) : P :=
  bindI (fun a => k a.1 a.2) h
theorem bindI3 {α α' α'' β : Type} {o : Option (α × α' × α'')} {f : α × α' × α'' → Option β} {r : β} {P : Prop} (k : ∀ a b c, o = some (a, b, c) → f (a, b, c) = some r → P) (h : o.bind f = some r) : P :=
  bindI (fun a => k a.1 a.2.1 a.2.2) h
theorem someI {α : Type} {a a' : α} {P : α → Prop} (k : P a) (h : some a = some a') : P a' := Option.some.inj h ▸ k
theorem some2I {α β : Type} {a a' : α} {b b' : β} {P : α → β → Prop} (k : P a b) (h : some (a, b) = some (a', b')) : P a' b' :=
  someI (P := fun x => P x.1 x.2) k h
theorem some3I {α β γ : Type} {a a' : α} {b b' : β} {c c' : γ} {P : α → β → γ → Prop} (k : P a b c) (h : some (a, b, c) = some (a', b', c')) : P a' b' c' :=
  someI (P := fun x => P x.1 x.2.1 x.2.2) k h
theorem mapP {α β γ : Type} {o : Option α} {g : α → β} {c c' : γ} {b : β} {P : β → γ → Prop} (k : ∀ a, o = some a → P (g a) c) (h : o.map (fun a => (g a, c)) = some (b, c')) : P b c' := by
  cases o with
  | none => cases h
  | some a => exact some2I (k a rfl) h
theorem mapI {α β : Type} {o : Option α} {g : α → β} {b : β} {P : β → Prop} (k : ∀ a, o = some a → P (g a)) (h : o.map g = some b) : P b := by
  cases o with
  | none => cases h
  | some a => exact someI (k a rfl) h
theorem ifI {α : Type} {c : Prop} [Decidable c] {a b : α} {P : α → Prop} (k : c → P a) (h : (if c then some a else none) = some b) : P b := by
  split at h
  · exact someI (k ‹_›) h
  · cases h
theorem noneI {α : Type} {a : α} {P : Prop} (h : none = some a) : P := nomatch h
/-- what a value is, by its data -/
noncomputable def RVis (W : Wd) (v : Value) : D → Prop
  | .none => v = .none
  | .bool b => v = .bool b
  | .int i => ∃ t, v = .int i t
  | .str x => ∃ t, v = .str x t
  | .tup ds => ∃ a vs n, v = .ref a ∧ W.Z a = some (seqObj "tuple" vs n) ∧ RVs W ds vs
  | .lst ds => ∃ a vs n, v = .ref a ∧ W.Z a = some (seqObj "list" vs n) ∧ RVs W ds vs
  | .own k => ∃ a, v = .ref a ∧ W.mu[k]? = some a
  | .val u => v = u
theorem RV.inv {W : Wd} {d : D} {v : Value} (h : RV W d v) : RVis W v d :=
  match h with
  | .none => rfl
  | .bool _ => rfl
  | .int _ t => ⟨t, rfl⟩
  | .str _ t => ⟨t, rfl⟩
  | .tup z r => ⟨_, _, _, rfl, z, r⟩
  | .lst z r => ⟨_, _, _, rfl, z, r⟩
  | .own h => ⟨_, rfl, h⟩
  | .val _ => rfl
noncomputable def RVsIs (W : Wd) (vs : List Value) : List D → Prop
  | [] => vs = []
  | d :: ds => ∃ u us, vs = u :: us ∧ RV W d u ∧ RVs W ds us
theorem RVs.inv {W : Wd} {ds : List D} {vs : List Value} (h : RVs W ds vs) : RVsIs W vs ds :=
  match h with
  | .nil => rfl
  | .cons a b => ⟨_, _, rfl, a, b⟩
theorem RVs.inv1 {W : Wd} {d : D} {us : List Value} (r : RVs W [d] us) : ∃ u, us = [u] ∧ RV W d u := by
  obtain ⟨u, us', e, r, rs⟩ := r.inv
  have e' : us' = [] := rs.inv
  exact ⟨u, e' ▸ e, r⟩
theorem RVs.inv2 {W : Wd} {d d' : D} {us : List Value} (r : RVs W [d, d'] us) : ∃ u v, us = [u, v] ∧ RV W d u ∧ RV W d' v := by
  obtain ⟨u, us', e, r, rs⟩ := r.inv
  obtain ⟨v, e', r'⟩ := rs.inv1
  exact ⟨u, v, e' ▸ e, r, r'⟩
end Mine
open PySem PySem.W PyProof.Rows
namespace Mine

structure TopOk (X : Cx) : Prop where
  g : X.T.Ns mainGlobals X.mg
  b : X.T.Ns builtinsNs X.mb
  lim : X.T.NoLimit
  pg : mainGlobals ≠ X.PT
  pb : builtinsNs ≠ X.PT
  pc : cStatics ≠ X.PT
  sm : ∃ o, X.T.get? sysModules = some o

theorem ns_at {h h' : Heap} {a : Addr} {m : Str → Option Value} (n : h.Ns a m) (k : ∀ o, h.get? a = some o → h'.get? a = some o) : h'.Ns a m :=
  let ⟨o, es, ep, e, r⟩ := n; ⟨o, es, ep, k _ e, r⟩

section
variable {X : Cx} {W : Wd} {H : List CO} {s : Shared}
theorem Phi.globals (p : Phi X W H s) (t : TopOk X) : s.heap.Ns mainGlobals X.mg := ns_at t.g fun o e => p.top _ o e t.pg
theorem Phi.builtins (p : Phi X W H s) (t : TopOk X) : s.heap.Ns builtinsNs X.mb := ns_at t.b fun o e => p.top _ o e t.pb
theorem Phi.limit (p : Phi X W H s) (t : TopOk X) : s.heap.NoLimit := let ⟨mc, n, e⟩ := t.lim; ⟨mc, ns_at n fun o e => p.top _ o e t.pc, e⟩
end

/-- room below: n calls deep -/
structure Calm (n : Nat) (A : Around) : Prop where
  hd : A.handled = none
  dp : A.depth + n ≤ 900
  un : A.units + 8 * n ≤ 9000
theorem Calm.mono {n m : Nat} {A : Around} (c : Calm n A) (h : m ≤ n) : Calm m A := ⟨c.hd, by have := c.dp; omega, by have := c.un; omega⟩
theorem Calm.deeper {n : Nat} {A : Around} (c : Calm (n + 1) A) (env : Env) : Calm n (A.deeper env) := ⟨c.hd, by have := c.dp; simp only [Around.deeper]; omega, by have := c.un; simp only [Around.deeper]; omega⟩
theorem Calm.in1 {n : Nat} {A : Around} (c : Calm (n + 1) A) : Calm n A.in1 := ⟨c.hd, by have := c.dp; show A.depth + n ≤ 900; omega, by have := c.un; show A.units + 1 + 8 * n ≤ 9000; omega⟩
theorem Calm.room {n : Nat} {A : Around} (c : Calm n A) : A.depth < recursionLimit := by have := c.dp; have : recursionLimit = 1000 := rfl; omega
noncomputable abbrev Vs := List (Option D)
noncomputable abbrev Hp := List CO
noncomputable abbrev XE := Vs → Hp → Option (D × Hp)
noncomputable abbrev XB := Vs → Hp → Option (Bool × Hp)

/-- the model's variable x of the frame holds v -/
noncomputable def Stored (env : Env) (h : Heap) (x : Str) (v : Value) : Prop :=
  (env.kindOf x = some .local ∧ ∃ m, h.Ns env.locals m ∧ m x = some v) ∨
  ((env.kindOf x = some .cell ∨ env.kindOf x = some .free) ∧ ∃ c, env.cells.lookup x = some c ∧ h.IsCell c (some v))

/-- the addresses of a frame -/
noncomputable def frameOf (names : List Str) (env : Env) : List Addr := env.locals :: (env.cells.filter fun p => names.contains p.1).map (·.2)
theorem mem_frame {names : List Str} {env : Env} {x : Str} {c : Addr} (h : (x, c) ∈ env.cells) (hx : x ∈ names) : c ∈ frameOf names env :=
  List.mem_cons_of_mem _ (List.mem_map.mpr ⟨(x, c), List.mem_filter.mpr ⟨h, by simpa using hx⟩, rfl⟩)
theorem of_frame {names : List Str} {env : Env} {a : Addr} (h : a ∈ frameOf names env) : a = env.locals ∨ ∃ x, (x, a) ∈ env.cells ∧ x ∈ names := by
  rcases List.mem_cons.mp h with h | h
  · exact .inl h
  · obtain ⟨⟨x, c⟩, hm, rfl⟩ := List.mem_map.mp h
    obtain ⟨h1, h2⟩ := List.mem_filter.mp hm
    exact .inr ⟨x, h1, by simpa using h2⟩

structure Vars (X : Cx) (env : Env) (names : List Str) (W : Wd) (vs : Vs) (s : Shared) : Prop where
  get : ∀ (i : Nat) (x : Str) (d : D), names[i]? = some x → vs[i]? = some (some d) → ∃ v, Stored env s.heap x v ∧ RV W d v
  off : ∀ a ∈ frameOf names env, a ∉ W.mu ∧ a ≠ X.PT ∧ W.Z a = none ∧ X.T.get? a = none ∧ ∃ o, s.heap.get? a = some o
  ns : ∃ m, s.heap.Ns env.locals m
  cell : ∀ x c, (x, c) ∈ env.cells → x ∈ names → ∃ v, s.heap.IsCell c v
  apart : env.cells.Pairwise fun x y => x.2 ≠ y.2
  far : ∀ x c, (x, c) ∈ env.cells → c ≠ env.locals

structure EnvOk (sc : Scope) (env : Env) : Prop where
  scope : env.scope = sc
  kind : sc.kind = .function
  globals : env.globals = mainGlobals
  builtins : env.builtins = builtinsNs
  cells : ∀ x, sc.names.lookup x = some .cell → (env.cells.lookup x).isSome = true

theorem EnvOk.plain {sc : Scope} {env : Env} (h : EnvOk sc env) : interactive env = false := by
  unfold interactive; rw [h.scope, h.kind]; rfl

theorem Stored.at {names : List Str} {env : Env} {h h' : Heap} {x : Str} {v : Value} (hx : x ∈ names) (st : Stored env h x v) (k : ∀ a ∈ frameOf names env, ∀ o, h.get? a = some o → h'.get? a = some o) : Stored env h' x v := by
  rcases st with ⟨a, m, n, e⟩ | ⟨a, c, e, o, ho, hd⟩
  · exact .inl ⟨a, m, ns_at n fun o q => k _ (.head _) o q, e⟩
  · exact .inr ⟨a, c, e, o, k c (mem_frame (mem_of_lookup e) hx) o ho, hd⟩

section
variable {X : Cx} {env : Env} {names : List Str} {W W' : Wd} {vs : Vs} {s s' : Shared}
theorem Vars.at (v : Vars X env names W vs s) (old : ∀ a ∈ frameOf names env, ∀ o, s.heap.get? a = some o → s'.heap.get? a = some o) (g : Le W W') (off : ∀ a ∈ frameOf names env, a ∉ W'.mu ∧ W'.Z a = none) : Vars X env names W' vs s' where
  get := fun i x d e1 e2 => let ⟨u, st, r⟩ := v.get i x d e1 e2; ⟨u, st.at (List.mem_of_getElem? e1) old, r.le g⟩
  off := fun a ha => let ⟨_, o2, _, o4, o, e⟩ := v.off a ha; ⟨(off a ha).1, o2, (off a ha).2, o4, o, old a ha o e⟩
  ns := let ⟨m, n⟩ := v.ns; ⟨m, ns_at n (old _ (.head _))⟩
  cell := fun x c hc hx => let ⟨u, o, ho, hd⟩ := v.cell x c hc hx; ⟨u, o, old c (mem_frame hc hx) o ho, hd⟩
  apart := v.apart
  far := v.far
theorem Grow.off {s : Shared} {W W' : Wd} {b : Addr} (g : Grow s W W') (e : ∃ o, s.heap.get? b = some o) (h1 : b ∉ W.mu) (h2 : W.Z b = none) : b ∉ W'.mu ∧ W'.Z b = none := by
  obtain ⟨o, e⟩ := e
  refine ⟨fun m => ?_, ?_⟩
  · obtain ⟨nu, e1, e2⟩ := g.mu
    rw [e1] at m
    rcases List.mem_append.mp m with m | m
    · exact h1 m
    · rw [e2 b m] at e; cases e
  · cases q : W'.Z b with
    | none => rfl
    | some o' =>
      rcases g.zf b o' q with h' | h' | h'
      · rw [h2] at h'; cases h'
      · rw [e] at h'; cases h'
      · exact absurd h' h1
theorem Vars.keep {F : List Addr} (v : Vars X env names W vs s) (t : Step X F W s W' s') (hF : ∀ a ∈ frameOf names env, a ∉ F) : Vars X env names W' vs s' :=
  v.at (fun a ha o e => t.keep.obj a o e (by
    obtain ⟨o1, o2, _⟩ := v.off a ha
    rintro (h | h | h)
    · exact hF a ha h
    · exact o1 h.1
    · exact o2 h)) t.grow.le fun a ha => let ⟨o1, o2, o3, _, ex⟩ := v.off a ha; t.grow.off ex o1 o3
end

/-- an answer's data and the heap behind it -/
structure AnsG {α : Type} (X : Cx) (R : Wd → α → Prop) (H : Hp) (v : α) (W : Wd) (s : Shared) : Prop where
  r : R W v
  p : Phi X W H s
noncomputable abbrev Ans (X : Cx) (d : D) (H : Hp) : Value → Wd → Shared → Prop := AnsG X (fun W v => RV W d v) H
noncomputable abbrev AnsB {β : Type} (X : Cx) (b : β) (H : Hp) : β → Wd → Shared → Prop := AnsG X (fun _ v => v = b) H
noncomputable abbrev AnsL (X : Cx) (ds : List D) (H : Hp) : List Value → Wd → Shared → Prop := AnsG X (fun W us => RVs W ds us) H
theorem wpS_ans {α : Type} {X : Cx} {A : Around} {F : List Addr} {t : Sem α} {W : Wd} {s : Shared} {P : Wd → α → Prop} {H : Hp} {R : α → Shared → Prop} (h : wpS X A F t W s (AnsG X P H)) (k : ∀ v W' s', Step X F W s W' s' → P W' v → Phi X W' H s' → R v s') {E : Value → Shared → Prop} : wpAny (model X.prog X.w) A t R E s :=
  wpS_then h fun v W' s' t a => k v W' s' t a.r a.p
theorem wpS_bindA {α β : Type} {X : Cx} {A : Around} {F : List Addr} {t : Sem α} {u : α → Sem β} {W : Wd} {s : Shared} {P : Wd → α → Prop} {H : Hp} {Q : β → Wd → Shared → Prop} (h : wpS X A F t W s (AnsG X P H)) (k : ∀ v W' s', Step X F W s W' s' → P W' v → Phi X W' H s' → wpS X A F (u v) W' s' Q) : wpS X A F (t >>= u) W s Q :=
  wpS_bind (wpS_mono h fun v W' s' t a => k v W' s' t a.r a.p)
/-- p simulates the expression e -/
noncomputable def SimE (X : Cx) (n : Nat) (sc : Scope) (names : List Str) (p : XE) (e : Expr) : Prop :=
  ∀ (env : Env) (A : Around) (W : Wd) (s : Shared) (vs : Vs) (H : Hp) (d : D) (H' : Hp), EnvOk sc env → Calm n A → p vs H = some (d, H') → Phi X W H s → Vars X env names W vs s →
    wpS X A [] (eval e env) W s (Ans X d H')
noncomputable def SimB (X : Cx) (n : Nat) (sc : Scope) (names : List Str) (p : XB) (e : Expr) : Prop :=
  ∀ (env : Env) (A : Around) (W : Wd) (s : Shared) (vs : Vs) (H : Hp) (b : Bool) (H' : Hp), EnvOk sc env → Calm n A → p vs H = some (b, H') → Phi X W H s → Vars X env names W vs s →
    wpS X A [] (isTrue e env (eval e env)) W s (AnsB X b H')

/-- steps on values -/
noncomputable def Pr1 {β : Type} (X : Cx) (n : Nat) (t : Value → Sem β) (f : D → Hp → Option β) : Prop :=
  ∀ (A : Around) (W : Wd) (s : Shared) (H : Hp) (a : D) (u : Value) (d : β), Calm n A → f a H = some d → RV W a u → Phi X W H s → wpS X A [] (t u) W s (AnsB X d H)
noncomputable def Pr2 (X : Cx) (n : Nat) (t : Value → Value → Sem Value) (f : D → D → Hp → Option D) : Prop :=
  ∀ (A : Around) (W : Wd) (s : Shared) (H : Hp) (a b : D) (u v : Value) (d : D), Calm n A → f a b H = some d → RV W a u → RV W b v → Phi X W H s →
    wpS X A [] (t u v) W s (Ans X d H)

section
variable {X : Cx} {n : Nat} {sc : Scope} {names : List Str}

noncomputable def xVar (i : Nat) : XE := fun vs H => match vs[i]? with
  | some (some d) => some (d, H)
  | _ => none
theorem sim_var (i : Nat) {x : Str} {pos : Pos} (hx : names[i]? = some x) (hd : (x == ("__debug__" : Str)) = false := by decide +kernel) (hc : (x == ("__classdict__" : Str)) = false := by decide +kernel) : SimE X n sc names (xVar i) (.Name x pos) := by
  intro env A W s vs H d H' hE hA hp ph hv
  unfold xVar at hp
  split at hp
  · rename_i d' e
    refine some2I (P := fun d H' => wpS X A [] _ W s (Ans X d H')) ?_ hp
    clear hp
    obtain ⟨v, st, r⟩ := hv.get i x _ hx e
    have hk : env.scope.kind = .function := by rw [hE.scope]; exact hE.kind
    refine wpS_here (wpAny_Name ?_ hd)
    clear hv e
    rcases st with ⟨k, m, hn, hm⟩ | ⟨k | k, c, hl, hcell⟩
    · exact wpAny_loadName_local hk k hn hm ⟨.refl _ _, r, ph⟩
    · exact wpAny_loadName_cell hk k hl hcell ⟨.refl _ _, r, ph⟩
    · exact wpAny_loadName_free hk k hl hcell ⟨.refl _ _, r, ph⟩ hc
  · exact noneI hp

noncomputable def xLit (d : D) : XE := fun _ H => some (d, H)
theorem sim_int {i : Int} {k : Nat} {pos : Pos} : SimE X n sc names (xLit (.int i)) (.Constant (.int i) k pos) := by
  intro env A W s vs H d H' hE hA hp ph hv
  exact some2I (P := fun d H' => wpS X A [] _ W s (Ans X d H')) (wpS_here (wpAny_Constant_int ⟨.tok _, .int _ _, ph.tok _⟩)) hp
theorem sim_str {x : Str} {k : Nat} {pos : Pos} : SimE X n sc names (xLit (.str x)) (.Constant (.str x) k pos) := by
  intro env A W s vs H d H' hE hA hp ph hv
  exact some2I (P := fun d H' => wpS X A [] _ W s (Ans X d H')) (wpS_here (fun _ _ _ => ⟨.tok _, .str _ _, ph.tok _⟩)) hp
theorem sim_bool {b : Bool} {k : Nat} {pos : Pos} : SimE X n sc names (xLit (.bool b)) (.Constant (.bool b) k pos) := by
  intro env A W s vs H d H' hE hA hp ph hv
  exact some2I (P := fun d H' => wpS X A [] _ W s (Ans X d H')) (wpS_here (fun _ _ _ => ⟨.refl _ _, .bool _, ph⟩)) hp

theorem sim_glob (T : TopOk X) {x : Str} {v : Value} {pos : Pos} (hx : sc.names.lookup x = some .globalImplicit) (hm : X.mg x = some v) (hd : (x == ("__debug__" : Str)) = false := by decide +kernel) : SimE X n sc names (xLit (.val v)) (.Name x pos) := by
  intro env A W s vs H d H' hE hA hp ph hv
  refine some2I (P := fun d H' => wpS X A [] _ W s (Ans X d H')) ?_ hp
  have hk : env.scope.kind = .function := by rw [hE.scope]; exact hE.kind
  refine wpS_here (Calls.Name_function_global hk (by show env.scope.names.lookup x = _; rw [hE.scope]; exact hx) (Calls.loadGlobal_global (mg := X.mg) (by rw [hE.globals]; exact ph.globals T) hm ⟨.refl _ _, .val _, ph⟩) hd)
theorem sim_built (T : TopOk X) {x : Str} {v : Value} {pos : Pos} (hx : sc.names.lookup x = some .globalImplicit) (hm : X.mg x = none) (hb : X.mb x = some v) (hd : (x == ("__debug__" : Str)) = false := by decide +kernel) : SimE X n sc names (xLit (.val v)) (.Name x pos) := by
  intro env A W s vs H d H' hE hA hp ph hv
  refine some2I (P := fun d H' => wpS X A [] _ W s (Ans X d H')) ?_ hp
  have hk : env.scope.kind = .function := by rw [hE.scope]; exact hE.kind
  refine wpS_here (Calls.Name_function_global hk (by show env.scope.names.lookup x = _; rw [hE.scope]; exact hx) (Calls.loadGlobal_builtin (mg := X.mg) (by rw [hE.globals]; exact ph.globals T) hm (by rw [hE.builtins]; exact ph.builtins T) hb ⟨.refl _ _, .val _, ph⟩) hd)

/-- a name of the top whose data are frozen -/
theorem sim_globD (T : TopOk X) {x : Str} {v : Value} {d : D} {pos : Pos} (hx : sc.names.lookup x = some .globalImplicit) (hm : X.mg x = some v) (hv0 : RV ⟨X.Z0, []⟩ d v) (hd : (x == ("__debug__" : Str)) = false := by decide +kernel) : SimE X n sc names (xLit d) (.Name x pos) := by
  intro env A W s vs H d' H' hE hA hp ph hv
  refine some2I (P := fun d H' => wpS X A [] _ W s (Ans X d H')) ?_ hp
  have hk : env.scope.kind = .function := by rw [hE.scope]; exact hE.kind
  have r : RV W d v := hv0.le ⟨ph.z0, fun k a e => by simp at e⟩
  refine wpS_here (Calls.Name_function_global hk (by show env.scope.names.lookup x = _; rw [hE.scope]; exact hx) (Calls.loadGlobal_global (mg := X.mg) (by rw [hE.globals]; exact ph.globals T) hm ⟨.refl _ _, r, ph⟩) hd)

noncomputable def xOp2 (f : D → D → Hp → Option D) (p q : XE) : XE := fun vs H => (p vs H).bind fun a => (q vs a.2).bind fun b => (f a.1 b.1 b.2).map fun d => (d, b.2)
theorem xOp2I {f : D → D → Hp → Option D} {p q : XE} {vs : Vs} {H H' : Hp} {d : D} {P : D → Hp → Prop} (k : ∀ a H1 b H2 d, p vs H = some (a, H1) → q vs H1 = some (b, H2) → f a b H2 = some d → P d H2) (h : xOp2 f p q vs H = some (d, H')) : P d H' :=
  bindI2 (fun a H1 h1 => bindI2 fun b H2 h2 => mapI (P := fun x : D × Hp => P x.1 x.2) fun d h3 => k a H1 b H2 d h1 h2 h3) h

theorem Vars.nil (v : Vars X env names W vs s) (t : Step X [] W s W' s') : Vars X env names W' vs s' := v.keep t (by simp)

theorem sim_bin {op : Operator} {f : D → D → Hp → Option D} {p q : XE} {e1 e2 : Expr} {pos : Pos} (h1 : SimE X n sc names p e1) (h2 : SimE X n sc names q e2) (hf : Pr2 X n (binaryOp op) f) : SimE X n sc names (xOp2 f p q) (.BinOp e1 op e2 pos) := by
  intro env A W s vs H d H' hE hA hp ph hv
  refine xOp2I (P := fun d H' => wpS X A [] _ W s (Ans X d H')) (fun a H1 b H2 d e1' e2' e3 => wpAny_BinOp ?_) hp
  refine wpS_ans (h1 env A W s vs H a H1 hE hA e1' ph hv) fun va W1 s1 t1 r1 p1 => ?_
  refine wpS_ans (h2 env A W1 s1 vs H1 b H2 hE hA e2' p1 (hv.nil t1)) fun vb W2 s2 t2 r2 p2 => ?_
  refine wpS_then (hf A W2 s2 H2 a b va vb d hA e3 (r1.grow t2.grow) r2 p2) fun v W3 s3 t3 r => ?_
  exact ⟨W3, (t1.trans t2).trans t3, r⟩
theorem sim_cmp {op : CmpOp} {f : D → D → Hp → Option D} {p q : XE} {e1 e2 : Expr} {pos : Pos} (h1 : SimE X n sc names p e1) (h2 : SimE X n sc names q e2) (hf : Pr2 X n (compareOp op) f)
    (hm : behindInMarks op e2 = false := by with_unfolding_all rfl) : SimE X n sc names (xOp2 f p q) (.Compare e1 [op] [e2] pos) := by
  intro env A W s vs H d H' hE hA hp ph hv
  refine xOp2I (P := fun d H' => wpS X A [] _ W s (Ans X d H')) (fun a H1 b H2 d e1' e2' e3 => wpAny_Compare1 ?_ hm) hp
  refine wpS_ans (h1 env A W s vs H a H1 hE hA e1' ph hv) fun va W1 s1 t1 r1 p1 => ?_
  refine wpS_ans (h2 env A W1 s1 vs H1 b H2 hE hA e2' p1 (hv.nil t1)) fun vb W2 s2 t2 r2 p2 => ?_
  refine wpS_then (hf A W2 s2 H2 a b va vb d hA e3 (r1.grow t2.grow) r2 p2) fun v W3 s3 t3 r => ?_
  exact ⟨W3, (t1.trans t2).trans t3, r⟩

/-- the truth of a comparison -/
noncomputable def xTest (f : D → D → Hp → Option D) (p q : XE) : XB := fun vs H => (xOp2 f p q vs H).bind fun d => match d.1 with
  | .bool b => some (b, d.2)
  | _ => none
theorem boolI {d : D} {b0 : Bool} {H1 H' : Hp} {P : D → Bool → Hp → Prop} (k : ∀ b, P (.bool b) b H1) (h : (match d with | .bool b => some (b, H1) | _ => none) = some (b0, H')) : P d b0 H' := by
  cases d with
  | bool b => exact some2I (k b) h
  | _ => exact noneI h
theorem simB_cmp {op : CmpOp} {f : D → D → Hp → Option D} {p q : XE} {e1 e2 : Expr} {pos : Pos} (h1 : SimE X n sc names p e1) (h2 : SimE X n sc names q e2) (hf : Pr2 X n (compareOp op) f)
    (hm : behindInMarks op e2 = false := by with_unfolding_all rfl) : SimB X n sc names (xTest f p q) (.Compare e1 [op] [e2] pos) := by
  intro env A W s vs H b0 H' hE hA hp ph hv
  refine bindI2 (fun d H1 h0 => ?_) hp
  refine xOp2I (P := fun d H1 => (match d with | .bool b => some (b, H1) | _ => none) = some (b0, H') → wpS X A [] _ W s (AnsB X b0 H')) (fun a H1 b H2 d e1' e2' e3 hp => ?_) h0
  refine boolI (P := fun d b0 H' => f a b H2 = some d → wpS X A [] _ W s (AnsB X b0 H')) (fun b1 e3 => wpAny_isTrue_Compare1 ?_ hm) hp e3
  refine wpS_ans (h1 env A W s vs H a H1 hE hA e1' ph hv) fun va W1 s1 t1 r1 p1 => ?_
  refine wpS_ans (h2 env A W1 s1 vs H1 b H2 hE hA e2' p1 (hv.nil t1)) fun vb W2 s2 t2 r2 p2 => ?_
  refine wpS_ans (hf A W2 s2 H2 a b va vb _ hA e3 (r1.grow t2.grow) r2 p2) fun v W3 s3 t3 r p3 => ?_
  obtain rfl : v = .bool b1 := r.inv
  exact wpAny_truthy_bool ⟨W3, (t1.trans t2).trans t3, rfl, p3⟩

/-! several parts -/
noncomputable def xAll : List XE → Vs → Hp → Option (List D × Hp)
  | [], _, H => some ([], H)
  | p :: ps, vs, H => (p vs H).bind fun a => (xAll ps vs a.2).map fun b => (a.1 :: b.1, b.2)
inductive SimAll (X : Cx) (n : Nat) (sc : Scope) (names : List Str) : List XE → List Expr → Prop
  | nil : SimAll X n sc names [] []
  | cons {p : XE} {e : Expr} {ps : List XE} {es : List Expr} : SimE X n sc names p e → (∀ env, starEach (e :: es) env = (false, eval e env) :: starEach es env) → SimAll X n sc names ps es → SimAll X n sc names (p :: ps) (e :: es)
theorem SimAll.plain {ps : List XE} {es : List Expr} (h : SimAll X n sc names ps es) (env : Env) (pos : Pos) : (backTo pos (starEach es env)).any (·.1) = false := by
  induction h with
  | nil => rfl
  | cons _ h r ih =>
    rw [h env]
    show (false || (backTo pos (starEach _ env)).any (·.1)) = false
    rw [ih]; rfl
theorem SimAll.items {ps : List XE} {es : List Expr} (h : SimAll X n sc names ps es) {env : Env} {A : Around} {W : Wd} {s : Shared} {vs : Vs} {H H' : Hp} {ds : List D} {pos : Pos} (hE : EnvOk sc env) (hA : Calm n A) (hp : xAll ps vs H = some (ds, H')) (ph : Phi X W H s) (hv : Vars X env names W vs s) :
    wpS X A [] (spliced (backTo pos (starEach es env))) W s (AnsL X ds H') := by
  induction h generalizing W s H H' ds with
  | nil => exact some2I (P := fun ds H' => wpS X A [] _ W s (AnsL X ds H')) (wpAny_items_nil ⟨W, .refl, .nil, ph⟩) hp
  | cons h hst r ih =>
    refine bindI (fun a h1 => mapI (P := fun x : List D × Hp => wpS X A [] _ W s (AnsL X x.1 x.2)) fun b h2 => wpAny_items_cons ?_ (hst env)) hp
    refine wpS_ans (h env A W s vs H a.1 a.2 hE hA h1 ph hv) fun va W1 s1 t1 r1 p1 => ?_
    exact wpS_ans (ih h2 p1 (hv.nil t1)) fun us W2 s2 t2 r2 p2 => ⟨W2, t1.trans t2, .cons (r1.grow t2.grow) r2, p2⟩

theorem newSeq {A : Around} {W : Wd} {s : Shared} {H : Hp} {ds : List D} {us : List Value} {T : String} (r : RVs W ds us) (ph : Phi X W H s) (hsz : ds.length ≤ 16777216) {Q : Value → Wd → Shared → Prop}
    (hQ : ∀ a W' s', W'.Z a = some (seqObj T us 0) → RVs W' ds us → Phi X W' H s' → Q (.ref a) W' s') : wpS X A [] (newObj (.type T) (.seq us.toArray)) W s Q := by
  refine wpAny_newObj_type ?_ (by show us.toArray.size ≤ sizeLine; rw [List.size_toArray, ← r.length, sizeLine_eq]; exact hsz)
  have hn := get?_size_none s.heap
  have g : Grow s W (W.frz s.heap.objs.size (seqObj T us 0)) := .frz hn (ph.z_none hn)
  have e : (s.heap.push (seqObj T us 0)).get? s.heap.objs.size = some (seqObj T us 0) := Heap.get?_push_size _ rfl
  exact ⟨_, ⟨.push _, g⟩, hQ _ _ _ (Wd.frz_self ..) (r.grow g) (ph.frozen hn (fun b q x => Heap.get?_push_of_some _ x) e)⟩

noncomputable def okLen (ds : List D) : Bool := decide (ds.length ≤ 16777216)
noncomputable def xLst (ps : List XE) : XE := fun vs H => (xAll ps vs H).bind fun a => if okLen a.1 then some (.lst a.1, a.2) else none
noncomputable def xTup (ps : List XE) : XE := fun vs H => (xAll ps vs H).bind fun a => if okLen a.1 then some (.tup a.1, a.2) else none
theorem dispI {c : List D → D} {ps : List XE} {vs : Vs} {H H' : Hp} {d : D} {P : D → Hp → Prop} (k : ∀ ds H1, xAll ps vs H = some (ds, H1) → ds.length ≤ 16777216 → P (c ds) H1) (h : ((xAll ps vs H).bind fun a => if okLen a.1 then some (c a.1, a.2) else none) = some (d, H')) : P d H' :=
  bindI2 (fun ds H1 h1 => ifI (P := fun x : D × Hp => P x.1 x.2) fun ok => k ds H1 h1 (of_decide_eq_true ok)) h
theorem sim_lst {ps : List XE} {es : List Expr} {pos : Pos} (h : SimAll X n sc names ps es) : SimE X n sc names (xLst ps) (.List es pos) := by
  intro env A W s vs H d H' hE hA hp ph hv
  refine dispI (P := fun d H' => wpS X A [] _ W s (Ans X d H')) (fun ds H1 h1 hl => wpS_bind (wpS_standAt (wpS_bindA (h.items hE hA h1 ph hv) fun us W1 s1 t1 r1 p1 => ?_))) hp
  exact newSeq r1 p1 hl fun a W' s' z r p => ⟨.lst z r, p⟩
theorem sim_tup {ps : List XE} {es : List Expr} {k : Nat} {pos : Pos} (h : SimAll X n sc names ps es) : SimE X n sc names (xTup ps) (.Tuple es k pos) := by
  intro env A W s vs H d H' hE hA hp ph hv
  refine dispI (P := fun d H' => wpS X A [] _ W s (Ans X d H')) (fun ds H1 h1 hl => wpS_bind (wpS_standAt (wpS_bindA (h.items hE hA h1 ph hv) fun us W1 s1 t1 r1 p1 => ?_))) hp
  exact newSeq r1 p1 hl fun a W' s' z r p => ⟨.tup z r, p⟩

/-- a list that will be changed -/
noncomputable def xNew (ps : List XE) : XE := fun vs H => (xAll ps vs H).bind fun a => if okLen a.1 then some (.own a.2.length, a.2 ++ [.list a.1]) else none
theorem newOwn {A : Around} {W : Wd} {s : Shared} {H : Hp} {ds : List D} {us : List Value} (r : RVs W ds us) (ph : Phi X W H s) (hsz : ds.length ≤ 16777216) {Q : Value → Wd → Shared → Prop}
    (hQ : ∀ a W' s', RV W' (.own H.length) (.ref a) → Phi X W' (H ++ [.list ds]) s' → Q (.ref a) W' s') : wpS X A [] (newList us) W s Q := by
  refine wpAny_newObj_type ?_ (by show us.toArray.size ≤ sizeLine; rw [List.size_toArray, ← r.length, sizeLine_eq]; exact hsz)
  have hn := get?_size_none s.heap
  have g : Grow s W (W.more s.heap.objs.size) := .more hn
  have e : (s.heap.push (seqObj "list" us 0)).get? s.heap.objs.size = some (seqObj "list" us 0) := Heap.get?_push_size _ rfl
  exact ⟨_, ⟨.push _, g⟩, hQ _ _ _ (.own (more_get ph _)) (ph.more hn (fun b q x => Heap.get?_push_of_some _ x) ⟨us, 0, e, r.grow g⟩)⟩
theorem sim_new {ps : List XE} {es : List Expr} {pos : Pos} (h : SimAll X n sc names ps es) : SimE X n sc names (xNew ps) (.List es pos) := by
  intro env A W s vs H d H' hE hA hp ph hv
  refine bindI2 (fun ds H1 h1 => ifI (P := fun x : D × Hp => wpS X A [] _ W s (Ans X x.1 x.2)) fun ok => wpS_bind (wpS_standAt (wpS_bindA (h.items hE hA h1 ph hv) fun us W1 s1 t1 r1 p1 => ?_))) hp
  exact newOwn r1 p1 (of_decide_eq_true ok) fun a W' s' r p => ⟨r, p⟩

/-! calls -/
noncomputable def Ct (X : Cx) (n : Nat) (v : Value) (G : List D → Hp → Option (D × Hp)) : Prop :=
  ∀ (A : Around) (W : Wd) (s : Shared) (H : Hp) (ds : List D) (us : List Value) (d : D) (H' : Hp), Calm n A → G ds H = some (d, H') → RVs W ds us → Phi X W H s →
    wpS X A [] (call v us) W s (Ans X d H')
noncomputable def xCall (G : List D → Hp → Option (D × Hp)) (ps : List XE) : XE := fun vs H => (xAll ps vs H).bind fun a => G a.1 a.2

theorem evalArgs_all {A : Around} {M : Model} {E : Value → Shared → Prop} {s : Shared} {f : Value} {ps : List XE} {es : List Expr} {env : Env} {pos : Pos} {Q : Args → Shared → Prop} (h : SimAll X n sc names ps es)
    (hq : wpAny M A (spliced (backTo pos (starEach es env))) (fun vs s' => Q ⟨vs, []⟩ s') E s) : wpAny M A (evalArgs f true (backTo pos (starEach es env)) []) Q E s := by
  cases h with
  | nil => exact fun Γ p hΓ => (PySem.evalArgs_none (Q := Q) (show Q ⟨[], []⟩ s from hq Γ p hΓ)) Γ p hΓ
  | cons h1 hst r =>
    rw [hst env] at hq ⊢
    exact Calls.evalArgs_plain hq

/-! tests -/
noncomputable def xIf {α : Type} (c : XB) (p q : Vs → Hp → Option (α × Hp)) : Vs → Hp → Option (α × Hp) := fun vs H => (c vs H).bind fun b => match b.1 with
  | true => p vs b.2
  | false => q vs b.2
theorem xIfI {α : Type} {c : XB} {p q : Vs → Hp → Option (α × Hp)} {vs : Vs} {H : Hp} {r : α × Hp} {P : Prop} (kt : ∀ H1, c vs H = some (true, H1) → p vs H1 = some r → P) (kf : ∀ H1, c vs H = some (false, H1) → q vs H1 = some r → P) (h : xIf c p q vs H = some r) : P := by
  revert h
  refine bindI2 fun b H1 h1 h => ?_
  cases b with
  | true => exact kt H1 h1 h
  | false => exact kf H1 h1 h
theorem sim_if {c : XB} {p q : XE} {e e1 e2 : Expr} {pos : Pos} (hc : SimB X n sc names c e) (h1 : SimE X n sc names p e1) (h2 : SimE X n sc names q e2) : SimE X n sc names (xIf c p q) (.IfExp e e1 e2 pos) := by
  intro env A W s vs H d H' hE hA hp ph hv
  show wpS X A [] (isTrue e env (eval e env) >>= fun b => if b = true then eval e1 env else eval e2 env) W s _
  refine xIfI (fun H1 a b => wpS_bindA (hc env A W s vs H _ H1 hE hA a ph hv) fun u W1 s1 t1 r1 p1 => ?_) (fun H1 a b => wpS_bindA (hc env A W s vs H _ H1 hE hA a ph hv) fun u W1 s1 t1 r1 p1 => ?_) hp
  · rw [if_pos r1]; exact h1 env A W1 s1 vs H1 d H' hE hA b p1 (hv.nil t1)
  · rw [if_neg (r1.symm ▸ Bool.false_ne_true)]; exact h2 env A W1 s1 vs H1 d H' hE hA b p1 (hv.nil t1)

noncomputable def xTT : XB := fun _ H => some (true, H)
noncomputable def xFF : XB := fun _ H => some (false, H)
theorem simB_and {c d : XB} {e1 e2 : Expr} {pos : Pos} (h1 : SimB X n sc names c e1) (h2 : SimB X n sc names d e2) : SimB X n sc names (xIf c d xFF) (.BoolOp .And [e1, e2] pos) := by
  intro env A W s vs H b0 H' hE hA hp ph hv
  show wpS X A [] (isTrue e1 env (eval e1 env) >>= fun b => match BoolOp.And, b with
    | .And, false => pure false
    | .Or, true => pure true
    | _, _ => (isTrue e2 env (eval e2 env) >>= fun b => match BoolOp.And, b with
      | .And, false => pure false
      | .Or, true => pure true
      | _, _ => pure (BoolOp.And == .And))) W s _
  refine xIfI (fun H1 a b => wpS_bindA (h1 env A W s vs H _ H1 hE hA a ph hv) fun u W1 s1 t1 r1 p1 => ?_) (fun H1 a b => wpS_bindA (h1 env A W s vs H _ H1 hE hA a ph hv) fun u W1 s1 t1 r1 p1 => ?_) hp
  · clear hp a
    subst r1
    refine wpS_bindA (h2 env A W1 s1 vs H1 _ H' hE hA b p1 (hv.nil t1)) fun u W2 s2 t2 r2 p2 => ?_
    cases u <;> exact wpS_pure ⟨r2, p2⟩
  · clear hp a
    subst r1
    exact some2I (P := fun b0 H' => wpS X A [] _ W1 s1 (AnsB X b0 H')) (wpS_pure ⟨rfl, p1⟩) b
theorem simB_or {c d : XB} {e1 e2 : Expr} {pos : Pos} (h1 : SimB X n sc names c e1) (h2 : SimB X n sc names d e2) : SimB X n sc names (xIf c xTT d) (.BoolOp .Or [e1, e2] pos) := by
  intro env A W s vs H b0 H' hE hA hp ph hv
  show wpS X A [] (isTrue e1 env (eval e1 env) >>= fun b => match BoolOp.Or, b with
    | .And, false => pure false
    | .Or, true => pure true
    | _, _ => (isTrue e2 env (eval e2 env) >>= fun b => match BoolOp.Or, b with
      | .And, false => pure false
      | .Or, true => pure true
      | _, _ => pure (BoolOp.Or == .And))) W s _
  refine xIfI (fun H1 a b => wpS_bindA (h1 env A W s vs H _ H1 hE hA a ph hv) fun u W1 s1 t1 r1 p1 => ?_) (fun H1 a b => wpS_bindA (h1 env A W s vs H _ H1 hE hA a ph hv) fun u W1 s1 t1 r1 p1 => ?_) hp
  · clear hp a
    subst r1
    exact some2I (P := fun b0 H' => wpS X A [] _ W1 s1 (AnsB X b0 H')) (wpS_pure ⟨rfl, p1⟩) b
  · clear hp a
    subst r1
    refine wpS_bindA (h2 env A W1 s1 vs H1 _ H' hE hA b p1 (hv.nil t1)) fun u W2 s2 t2 r2 p2 => ?_
    cases u <;> exact wpS_pure ⟨r2, p2⟩

/-- and, or of two bools as a value -/
noncomputable def xAndV (p q : XE) : XE := fun vs H => (p vs H).bind fun a => match a.1 with
  | .bool true => q vs a.2
  | .bool false => some (.bool false, a.2)
  | _ => none
noncomputable def xOrV (p q : XE) : XE := fun vs H => (p vs H).bind fun a => match a.1 with
  | .bool false => q vs a.2
  | .bool true => some (.bool true, a.2)
  | _ => none
theorem sim_andV {p q : XE} {e1 e2 : Expr} {pos : Pos} (h1 : SimE X n sc names p e1) (h2 : SimE X n sc names q e2) : SimE X n sc names (xAndV p q) (.BoolOp .And [e1, e2] pos) := by
  intro env A W s vs H d H' hE hA hp ph hv
  refine bindI2 (fun a H1 h0 hp => ?_) hp
  cases a with
  | bool b =>
    show wpS X A [] (eval e1 env >>= fun v => standAt pos >>= fun _ => holding [v] (truthy v) >>= fun t => match BoolOp.And, t with
      | .And, false | .Or, true => pure v
      | _, _ => eval e2 env) W s _
    refine wpS_bindA (h1 env A W s vs H _ H1 hE hA h0 ph hv) fun u W1 s1 t1 r1 p1 => wpS_bind (wpS_standAt ?_)
    obtain rfl : u = .bool b := r1.inv
    clear h0 ph r1
    refine wpS_bind (wpS_holding (wpAny_truthy_bool ⟨W1, .refl, ?_⟩))
    cases b with
    | true => exact h2 env A W1 s1 vs H1 d H' hE hA hp p1 (hv.nil t1)
    | false => exact some2I (P := fun d H' => wpS X A [] _ W1 s1 (Ans X d H')) (wpS_pure ⟨.bool _, p1⟩) hp
  | _ => exact noneI hp
theorem sim_orV {p q : XE} {e1 e2 : Expr} {pos : Pos} (h1 : SimE X n sc names p e1) (h2 : SimE X n sc names q e2) : SimE X n sc names (xOrV p q) (.BoolOp .Or [e1, e2] pos) := by
  intro env A W s vs H d H' hE hA hp ph hv
  refine bindI2 (fun a H1 h0 hp => ?_) hp
  cases a with
  | bool b =>
    show wpS X A [] (eval e1 env >>= fun v => standAt pos >>= fun _ => holding [v] (truthy v) >>= fun t => match BoolOp.Or, t with
      | .And, false | .Or, true => pure v
      | _, _ => eval e2 env) W s _
    refine wpS_bindA (h1 env A W s vs H _ H1 hE hA h0 ph hv) fun u W1 s1 t1 r1 p1 => wpS_bind (wpS_standAt ?_)
    obtain rfl : u = .bool b := r1.inv
    clear h0 ph r1
    refine wpS_bind (wpS_holding (wpAny_truthy_bool ⟨W1, .refl, ?_⟩))
    cases b with
    | false => exact h2 env A W1 s1 vs H1 d H' hE hA hp p1 (hv.nil t1)
    | true => exact some2I (P := fun d H' => wpS X A [] _ W1 s1 (Ans X d H')) (wpS_pure ⟨.bool _, p1⟩) hp
  | _ => exact noneI hp

/-- the truth of a value -/
noncomputable def xTru (f : D → Hp → Option Bool) (p : XE) : XB := fun vs H => (p vs H).bind fun a => (f a.1 a.2).map fun b => (b, a.2)
theorem simB_tru {f : D → Hp → Option Bool} {p : XE} {e : Expr} (h : SimE X n sc names p e) (hf : Pr1 X n truthy f) (he : ∀ env w, isTrue e env w = (w >>= fun v => standAt e.pos >>= fun _ => holding [v] (truthy v)) := by intros; rfl) : SimB X n sc names (xTru f p) e := by
  intro env A W s vs H b H' hE hA hp ph hv
  refine bindI (fun a h0 => mapI (P := fun x : Bool × Hp => wpS X A [] _ W s (AnsB X x.1 x.2)) fun b' h1 => ?_) hp
  rw [he]
  exact wpS_bindA (h env A W s vs H a.1 a.2 hE hA h0 ph hv) fun u W1 s1 t1 r1 p1 => wpS_bind (wpS_standAt (wpS_holding (hf A W1 s1 a.2 a.1 u b' hA h1 r1 p1)))
end
end Mine
open PySem PySem.W PyProof.Rows
namespace Mine

inductive Fl where
  | next | brk | cont
  | ret (d : D)
inductive FlR (W : Wd) : Fl → Flow → Prop
  | next' : FlR W .next .next
  | brk' : FlR W .brk .brk
  | cont' : FlR W .cont .cont
  | ret' {d : D} {v : Value} : RV W d v → FlR W (.ret d) (.ret v)
noncomputable abbrev XS := Vs → Hp → Option (Fl × Vs × Hp)

theorem ns_fun {h : Heap} {a : Addr} {m m' : Str → Option Value} (n : h.Ns a m) (n' : h.Ns a m') : m = m' := by
  obtain ⟨o, es, ep, e, d, _, f⟩ := n
  obtain ⟨o', es', ep', e', d', _, f'⟩ := n'
  rw [e] at e'; cases e'
  rw [d] at d'; cases d'
  funext x; rw [← f x, f' x]

section
variable {X : Cx} {env : Env} {names : List Str} {W W' : Wd} {vs : Vs} {s s' : Shared} {H : Hp} {sc : Scope} {A : Around}

/-- what the frame's change leaves -/
theorem Phi.frame (p : Phi X W H s) {a : Addr} {h' : Heap} {t : Nat} (hs : Heap.SameBut a s.heap h') (hm : a ∉ W.mu) (hz : W.Z a = none) (hT : X.T.get? a = none) (hP : a ≠ X.PT) : Phi X W H { s with heap := h', toks := t } where
  top := fun b o e n => (hs.2 b (by rintro rfl; rw [hT] at e; cases e)).trans (p.top b o e n)
  tab := let ⟨m, e, q⟩ := p.tab; ⟨m, (hs.2 _ (Ne.symm hP)).trans e, q⟩
  frz := fun b o e => (hs.2 b (by rintro rfl; rw [hz] at e; cases e)).trans (p.frz b o e)
  len := p.len
  own := fun i co b e1 e2 => (p.own i co b e1 e2).at (.refl s W) fun o e => (hs.2 b (by rintro rfl; exact hm (List.mem_of_getElem? e2))).trans e
  apart := p.apart
  off := p.off
  nodup := p.nodup
  zPT := p.zPT
  z0 := p.z0

/-- the slots, apart -/
structure Slots (names : List Str) : Prop where
  inj : ∀ (i j : Nat) (x : Str), names[i]? = some x → names[j]? = some x → i = j

/-- where a name is kept -/
noncomputable def placeOf (env : Env) (x : Str) : Addr := match env.kindOf x with
  | some .local => env.locals
  | _ => (env.cells.lookup x).getD 0
theorem place_mem {names : List Str} {env : Env} {x : Str} (hx : x ∈ names) (hk : env.kindOf x = some .local ∨ (env.kindOf x = some .cell ∧ (env.cells.lookup x).isSome = true)) : placeOf env x ∈ frameOf names env := by
  unfold placeOf
  rcases hk with h | ⟨h, hc⟩
  · rw [h]; exact .head _
  · rw [h]
    obtain ⟨c, hc⟩ := Option.isSome_iff_exists.mp hc
    rw [hc]
    exact mem_frame (mem_of_lookup hc) hx

theorem vars_get (hS : Slots names) {i : Nat} {x : Str} (hx : names[i]? = some x) {d : D} (j : Nat) (y : Str) (e : D) (hj : names[j]? = some y) (he : (vs.set i (some d))[j]? = some (some e)) : (y = x ∧ e = d) ∨ (y ≠ x ∧ vs[j]? = some (some e)) := by
  by_cases hij : j = i
  · left
    rw [hij] at hj he
    refine ⟨Option.some.inj (hj.symm.trans hx), ?_⟩
    rw [List.getElem?_set_self'] at he
    exact (Option.map_eq_some_iff.mp he).elim fun _ q => (Option.some.inj q.2).symm
  · right
    rw [List.getElem?_set_ne (Ne.symm hij)] at he
    exact ⟨fun q => hij (hS.inj j i x (q ▸ hj) hx), he⟩
theorem Vars.hold (hS : Slots names) {i : Nat} {x : Str} (hx : names[i]? = some x) {d : D} {v : Value} (r : RV W d v) (hv : Vars X env names W vs s) {a : Addr} {h' : Heap} {t : Nat} (hs : Heap.SameBut a s.heap h') (hex : ∃ o, h'.get? a = some o) (st : Stored env h' x v)
    (hst : ∀ y u, y ≠ x → Stored env s.heap y u → Stored env h' y u) (hns : ∃ m, h'.Ns env.locals m) (hcl : ∀ y c, (y, c) ∈ env.cells → y ∈ names → c = a → ∃ v, h'.IsCell c v) : Vars X env names W (vs.set i (some d)) { s with heap := h', toks := t } where
  get := fun j y e hj he => (vars_get hS hx j y e hj he).elim (fun q => ⟨v, q.1.symm ▸ st, q.2.symm ▸ r⟩) fun q => (hv.get j y e hj q.2).elim fun u p => ⟨u, hst y u q.1 p.1, p.2⟩
  off := fun b hb => ⟨(hv.off b hb).1, (hv.off b hb).2.1, (hv.off b hb).2.2.1, (hv.off b hb).2.2.2.1, if q : b = a then q.symm ▸ hex else (hv.off b hb).2.2.2.2.elim fun o e => ⟨o, (hs.2 b q).trans e⟩⟩
  ns := hns
  cell := fun y c hyc hyn => if q : c = a then hcl y c hyc hyn q else (hv.cell y c hyc hyn).elim fun u p => ⟨u, p.elim fun o p => ⟨o, (hs.2 c q).trans p.1, p.2⟩⟩
  apart := hv.apart
  far := hv.far
theorem store_local (hE : EnvOk sc env) (hS : Slots names) {i : Nat} {x : Str} (hx : names[i]? = some x) (hk : env.kindOf x = some .local) {d : D} {v : Value} (r : RV W d v) (ph : Phi X W H s) (hv : Vars X env names W vs s)
    {Q : Unit → Wd → Shared → Prop} (hQ : ∀ s', Phi X W H s' → Vars X env names W (vs.set i (some d)) s' → Q () W s') : wpS X A [placeOf env x] (storeName env x v) W s Q := by
  obtain ⟨m, n⟩ := hv.ns
  have o := hv.off _ (.head _)
  refine wpAny_storeName_local hk n (fun h' n' hs' => ?_) (by rw [hE.scope, hE.kind]; rfl)
  have hex : ∃ o, h'.get? env.locals = some o := let ⟨o, _, _, e, _⟩ := n'; ⟨o, e⟩
  have hpl : placeOf env x = env.locals := by unfold placeOf; rw [hk]
  refine ⟨W, ⟨.same hs' (.inl (hpl ▸ .head _)) hex, .refl _ _⟩, hQ _ (ph.frame hs' o.1 o.2.2.1 o.2.2.2.1 o.2.1) (hv.hold hS hx r hs' hex (.inl ⟨hk, _, n', if_pos rfl⟩) (fun y u hne st => ?_) ⟨_, n'⟩ fun y c hyc _ q => absurd q (hv.far y c hyc))⟩
  rcases st with ⟨k, m', nm, em⟩ | ⟨k, c, hl, o, ho, hd⟩
  · exact .inl ⟨k, _, n', (if_neg hne).trans ((congrFun (ns_fun n nm) y).trans em)⟩
  · exact .inr ⟨k, c, hl, o, (hs'.2 c (hv.far y c (mem_of_lookup hl))).trans ho, hd⟩
theorem store_cell (hE : EnvOk sc env) (hS : Slots names) {i : Nat} {x : Str} (hx : names[i]? = some x) (hk : env.kindOf x = some .cell) {c : Addr} (hc : env.cells.lookup x = some c) {d : D} {v : Value} (r : RV W d v) (ph : Phi X W H s) (hv : Vars X env names W vs s)
    {Q : Unit → Wd → Shared → Prop} (hQ : ∀ s', Phi X W H s' → Vars X env names W (vs.set i (some d)) s' → Q () W s') : wpS X A [placeOf env x] (storeName env x v) W s Q := by
  have hmem := mem_of_lookup hc
  obtain ⟨v₀, hcell⟩ := hv.cell x c hmem (List.mem_of_getElem? hx)
  have o := hv.off _ (mem_frame hmem (List.mem_of_getElem? hx))
  refine wpAny_storeName_cell (by rw [hE.scope]; exact hE.kind) hk hc hcell fun h' hc' hs' => ?_
  have hex : ∃ o, h'.get? c = some o := let ⟨o, e, _⟩ := hc'; ⟨o, e⟩
  have hpl : placeOf env x = c := by unfold placeOf; rw [hk, hc]; rfl
  have hloc : ∀ o, s.heap.get? env.locals = some o → h'.get? env.locals = some o := fun o e => (hs'.2 _ (Ne.symm (hv.far x c hmem))).trans e
  refine ⟨W, ⟨.same (t := s.toks) hs' (.inl (hpl ▸ .head _)) hex, .refl _ _⟩, hQ _ (ph.frame (t := s.toks) hs' o.1 o.2.2.1 o.2.2.2.1 o.2.1) (hv.hold (t := s.toks) hS hx r hs' hex (.inr ⟨.inl hk, c, hc, hc'⟩) (fun y u hne st => ?_) (hv.ns.elim fun m n => ⟨m, ns_at n hloc⟩) fun y c' _ _ q => ⟨_, q.symm ▸ hc'⟩)⟩
  rcases st with ⟨k, m', nm, em⟩ | ⟨k, c', hl, o, ho, hd⟩
  · exact .inl ⟨k, m', ns_at nm hloc, em⟩
  · exact .inr ⟨k, c', hl, o, (hs'.2 c' fun q => hne (name_of_addr hv.apart (q ▸ mem_of_lookup hl) hmem)).trans ho, hd⟩
theorem store1 (hE : EnvOk sc env) (hS : Slots names) {i : Nat} {x : Str} (hx : names[i]? = some x) (hk : env.kindOf x = some .local ∨ (env.kindOf x = some .cell ∧ (env.cells.lookup x).isSome = true)) {d : D} {v : Value} (r : RV W d v) (ph : Phi X W H s) (hv : Vars X env names W vs s) 
    {Q : Unit → Wd → Shared → Prop} (hQ : ∀ s', Phi X W H s' → Vars X env names W (vs.set i (some d)) s' → Q () W s') : wpS X A [placeOf env x] (storeName env x v) W s Q :=
  hk.elim (fun hk => store_local hE hS hx hk r ph hv hQ) fun hk => (Option.isSome_iff_exists.mp hk.2).elim fun c hc => store_cell hE hS hx hk.1 hc r ph hv hQ
end

section
variable {X : Cx} {env : Env} {names : List Str} {W W' : Wd} {vs : Vs} {s s' : Shared} {H : Hp} {sc : Scope} {A : Around}
theorem store (hE : EnvOk sc env) (hS : Slots names) {i : Nat} {x : Str} (hx : names[i]? = some x) (hk : env.kindOf x = some .local ∨ (env.kindOf x = some .cell ∧ (env.cells.lookup x).isSome = true)) {d : D} {v : Value} (r : RV W d v) (ph : Phi X W H s) (hv : Vars X env names W vs s)
    {Q : Unit → Wd → Shared → Prop} (hQ : ∀ s', Phi X W H s' → Vars X env names W (vs.set i (some d)) s' → Q () W s') : wpS X A (frameOf names env) (storeName env x v) W s Q :=
  wpS_frames (store1 hE hS hx hk r ph hv hQ) fun a ha => by rw [List.mem_singleton.mp ha]; exact .inl (place_mem (List.mem_of_getElem? hx) hk)
theorem store_at (hE : EnvOk sc env) (hS : Slots names) {i : Nat} {x : Str} (hx : names[i]? = some x) (hk : env.kindOf x = some .local ∨ (env.kindOf x = some .cell ∧ (env.cells.lookup x).isSome = true)) {d : D} {v : Value} (r : RV W d v) (ph : Phi X W H s) (hv : Vars X env names W vs s)
    {R : Unit → Shared → Prop} {E : Value → Shared → Prop} (k : ∀ s', Step X (frameOf names env) W s W s' → Phi X W H s' → Vars X env names W (vs.set i (some d)) s' → R () s') : wpAny (model X.prog X.w) A (storeName env x v) R E s :=
  wpS_then (store hE hS hx hk r ph hv (Q := fun _ W5 s5 => W = W5 ∧ Phi X W H s5 ∧ Vars X env names W (vs.set i (some d)) s5) fun s5 a b => ⟨rfl, a, b⟩) fun _ W5 s5 t5 q => k s5 (q.1 ▸ t5) q.2.1 q.2.2
end

/-- a statement's end -/
inductive AnsS (X : Cx) (env : Env) (names : List Str) (r : Fl) (vs : Vs) (H : Hp) (f : Flow) (W : Wd) (s : Shared) : Prop
  | mk : FlR W r f → Phi X W H s → Vars X env names W vs s → AnsS X env names r vs H f W s
/-- p simulates the statement -/
noncomputable def SimS (X : Cx) (n : Nat) (sc : Scope) (names : List Str) (p : XS) (st : Stmt) : Prop :=
  ∀ (env : Env) (A : Around) (W : Wd) (s : Shared) (vs : Vs) (H : Hp) (r : Fl) (vs' : Vs) (H' : Hp), EnvOk sc env → Calm n A → p vs H = some (r, vs', H') → Phi X W H s → Vars X env names W vs s →
    wpS X A (frameOf names env) (exec st env) W s (AnsS X env names r vs' H')
noncomputable def SimSs (X : Cx) (n : Nat) (sc : Scope) (names : List Str) (p : XS) (sts : List Stmt) : Prop :=
  ∀ (env : Env) (A : Around) (W : Wd) (s : Shared) (vs : Vs) (H : Hp) (r : Fl) (vs' : Vs) (H' : Hp), EnvOk sc env → Calm n A → p vs H = some (r, vs', H') → Phi X W H s → Vars X env names W vs s →
    wpS X A (frameOf names env) (execs sts env) W s (AnsS X env names r vs' H')

section
variable {X : Cx} {n : Nat} {sc : Scope} {names : List Str}

noncomputable def xSkip : XS := fun vs H => some (.next, vs, H)
noncomputable def xSeq (p q : XS) : XS := fun vs H => (p vs H).bind fun a => match a.1 with
  | .next => q a.2.1 a.2.2
  | f => some (f, a.2)
theorem sims_nil : SimSs X n sc names xSkip [] := by
  intro env A W s vs H r vs' H' hE hA hp ph hv
  exact wpAny_execs_nil (some3I (P := fun r vs' H' => After X (frameOf names env) W s (AnsS X env names r vs' H') .next s) ⟨W, .refl, .next', ph, hv⟩ hp)
theorem sims_cons {p q : XS} {st : Stmt} {rest : List Stmt} (h1 : SimS X n sc names p st) (h2 : SimSs X n sc names q rest) : SimSs X n sc names (xSeq p q) (st :: rest) := by
  intro env A W s vs H r vs' H' hE hA hp ph hv
  revert hp
  refine bindI3 fun f0 vs1 H1 h0 hp => wpAny_execs_cons (wpS_then (h1 env A W s vs H f0 vs1 H1 hE hA h0 ph hv) fun f W1 s1 t1 a1 => ?_)
  clear h0 ph hv
  cases a1 with
  | mk r1 p1 v1 =>
    induction r1 with
    | next' => exact wpS_then (h2 env A W1 s1 vs1 H1 r vs' H' hE hA hp p1 v1) fun f W2 s2 t2 q => ⟨W2, t1.trans t2, q⟩
    | brk' => exact some3I (P := fun r vs' H' => After X _ W s (AnsS X env names r vs' H') _ s1) ⟨W1, t1, .brk', p1, v1⟩ hp
    | cont' => exact some3I (P := fun r vs' H' => After X _ W s (AnsS X env names r vs' H') _ s1) ⟨W1, t1, .cont', p1, v1⟩ hp
    | ret' rv => exact some3I (P := fun r vs' H' => After X _ W s (AnsS X env names r vs' H') _ s1) ⟨W1, t1, .ret' rv, p1, v1⟩ hp

/-- a name that the block may store -/
noncomputable def Asg (sc : Scope) (x : Str) : Prop := sc.names.lookup x = some .local ∨ sc.names.lookup x = some .cell
theorem Asg.kind {env : Env} {x : Str} (h : Asg sc x) (hE : EnvOk sc env) : env.kindOf x = some .local ∨ (env.kindOf x = some .cell ∧ (env.cells.lookup x).isSome = true) := by
  have e : env.kindOf x = sc.names.lookup x := by show env.scope.names.lookup x = _; rw [hE.scope]
  rw [e]
  rcases h with h | h
  · exact .inl h
  · exact .inr ⟨h, hE.cells x h⟩

noncomputable def xAssign (i : Nat) (p : XE) : XS := fun vs H => (p vs H).map fun a => (.next, vs.set i (some a.1), a.2)
theorem xAssignI {i : Nat} {p : XE} {vs vs' : Vs} {H H' : Hp} {r : Fl} {P : Fl → Vs → Hp → Prop} (k : ∀ d H', p vs H = some (d, H') → P .next (vs.set i (some d)) H') (h : xAssign i p vs H = some (r, vs', H')) : P r vs' H' :=
  mapI (P := fun x => P x.1 x.2.1 x.2.2) (fun a e => k a.1 a.2 e) h
theorem sim_assign (hS : Slots names) (i : Nat) {x : Str} {px pos : Pos} {e : Expr} {p : XE} (hx : names[i]? = some x) (hk : Asg sc x) (h : SimE X n sc names p e) (hs : ∀ env, EnvOk sc env → swapsWith e (some (.Name x px)) pos.line env = pure false := by intros; rfl) :
    SimS X n sc names (xAssign i p) (.Assign [.Name x px] e pos) := by
  intro env A W s vs H r vs' H' hE hA hp ph hv
  refine xAssignI (P := fun r vs' H' => wpS X A (frameOf names env) _ W s (AnsS X env names r vs' H')) (fun d H' h0 => wpAny_Assign_Name ?_ (hs env hE)) hp
  exact wpS_ans (h env A W s vs H d H' hE hA h0 ph hv) fun v W1 s1 t1 r1 p1 => store_at hE hS hx (hk.kind hE) r1 p1 (hv.nil t1) fun s2 t2 p2 v2 => ⟨W1, t1.nil.trans t2, .next', p2, v2⟩

noncomputable def xRet (p : XE) : XS := fun vs H => (p vs H).map fun a => (.ret a.1, vs, a.2)
theorem sim_ret {e : Expr} {pos : Pos} {p : XE} (h : SimE X n sc names p e) : SimS X n sc names (xRet p) (.Return (some e) pos) := by
  intro env A W s vs H r vs' H' hE hA hp ph hv
  refine mapI (o := p vs H) (g := fun a => (Fl.ret a.1, vs, a.2)) (P := fun x => wpS X A (frameOf names env) _ W s (AnsS X env names x.1 x.2.1 x.2.2)) (fun a h0 => wpAny_Return_some ?_) hp
  exact wpS_ans (h env A W s vs H a.1 a.2 hE hA h0 ph hv) fun v W1 s1 t1 r1 p1 => ⟨W1, t1.nil, .ret' r1, p1, hv.nil t1⟩

noncomputable def xBr (c : XB) (p q : XS) : XS := fun vs H => (c vs H).bind fun b => match b.1 with
  | true => p vs b.2
  | false => q vs b.2
theorem sim_branch {c : XB} {p q : XS} {e : Expr} {a b : List Stmt} {pos : Pos} (hc : SimB X n sc names c e) (h1 : SimSs X n sc names p a) (h2 : SimSs X n sc names q b) : SimS X n sc names (xBr c p q) (.If e a b pos) := by
  intro env A W s vs H r vs' H' hE hA hp ph hv
  revert hp
  refine bindI2 fun x H1 h0 hp => wpAny_If (wpS_ans (hc env A W s vs H x H1 hE hA h0 ph hv) fun u W1 s1 t1 r1 p1 => ?_)
  clear h0 ph
  cases x with
  | true =>
    refine (if_pos r1).symm ▸ ?_
    exact wpS_then (h1 env A W1 s1 vs H1 r vs' H' hE hA hp p1 (hv.nil t1)) fun f W2 s2 t2 q => ⟨W2, t1.nil.trans t2, q⟩
  | false =>
    refine (if_neg (r1.symm ▸ Bool.false_ne_true)).symm ▸ ?_
    exact wpS_then (h2 env A W1 s1 vs H1 r vs' H' hE hA hp p1 (hv.nil t1)) fun f W2 s2 t2 q => ⟨W2, t1.nil.trans t2, q⟩

noncomputable def xBrk : XS := fun vs H => some (.brk, vs, H)
noncomputable def xCont : XS := fun vs H => some (.cont, vs, H)
theorem sim_break {pos : Pos} : SimS X n sc names xBrk (.Break pos) := by
  intro env A W s vs H r vs' H' hE hA hp ph hv
  exact wpS_bind (wpS_standAt (wpS_pure (some3I (P := fun r vs' H' => AnsS X env names r vs' H' .brk W s) ⟨.brk', ph, hv⟩ hp)))
theorem sim_continue {pos : Pos} : SimS X n sc names xCont (.Continue pos) := by
  intro env A W s vs H r vs' H' hE hA hp ph hv
  exact wpS_bind (wpS_standAt (wpS_pure (some3I (P := fun r vs' H' => AnsS X env names r vs' H' .cont W s) ⟨.cont', ph, hv⟩ hp)))

/-- an expression for its deed: it hands back None -/
noncomputable def xDo (p : XE) : XS := fun vs H => (p vs H).bind fun a => match a.1 with
  | .none => some (.next, vs, a.2)
  | _ => none
theorem sim_do {e : Expr} {pos : Pos} {p : XE} (h : SimE X n sc names p e) (hs : ∀ env, swapsWith e none pos.line env = pure false := by intros; rfl) : SimS X n sc names (xDo p) (.Expr e pos) := by
  intro env A W s vs H r vs' H' hE hA hp ph hv
  revert hp
  refine bindI2 fun a H1 h0 hp => ?_
  cases a with
  | none =>
    refine some3I (P := fun r vs' H' => wpS X A (frameOf names env) _ W s (AnsS X env names r vs' H')) (wpAny_Expr ?_ hE.plain (hs env)) hp
    exact wpS_ans (h env A W s vs H _ H1 hE hA h0 ph hv) fun v W1 s1 t1 r1 p1 => by cases r1; exact ⟨W1, t1.nil, .next', p1, hv.nil t1⟩
  | _ => exact noneI hp

/-- x op= e -/
noncomputable def xAug (i : Nat) (f : D → D → Hp → Option D) (p : XE) : XS := xAssign i (xOp2 f (xVar i) p)
theorem load_at {i : Nat} {x : Str} {d : D} (hE : EnvOk sc env) (hx : names[i]? = some x) (hk : env.kindOf x = some .local ∨ (env.kindOf x = some .cell ∧ (env.cells.lookup x).isSome = true)) (ed : vs[i]? = some (some d)) (hv : Vars X env names W vs s) {R : Value → Shared → Prop} {E : Value → Shared → Prop} (k : ∀ u, RV W d u → R u s) : wpAny (model X.prog X.w) A (loadName env x) R E s := by
  have hkind : env.scope.kind = .function := by rw [hE.scope]; exact hE.kind
  obtain ⟨u, st, ru⟩ := hv.get i x _ hx ed
  clear hv ed hx
  rcases st with ⟨k1, m, hn, hm⟩ | ⟨k1 | k1, c, hl, hcell⟩
  · exact wpAny_loadName_local hkind k1 hn hm (k u ru)
  · exact wpAny_loadName_cell hkind k1 hl hcell (k u ru)
  · rcases hk with q | q
    · exact absurd (k1.symm.trans q) nofun
    · exact absurd (k1.symm.trans q.1) nofun
theorem sim_aug (hS : Slots names) (i : Nat) {x : Str} {px pos : Pos} {op : Operator} {e : Expr} {p : XE} {f : D → D → Hp → Option D} (hx : names[i]? = some x) (hk : Asg sc x) (h : SimE X n sc names p e) (hf2 : Pr2 X n (inplaceOp op) f) (hd : (x == ("__debug__" : Str)) = false := by decide +kernel) :
    SimS X n sc names (xAug i f p) (.AugAssign (.Name x px) op e pos) := by
  intro env A W s vs H r vs' H' hE hA hp ph hv
  refine xAssignI (P := fun r vs' H' => wpS X A (frameOf names env) _ W s (AnsS X env names r vs' H')) (fun d H' h0 => ?_) hp
  refine xOp2I (P := fun d H' => wpS X A (frameOf names env) _ W s (AnsS X env names .next (vs.set i (some d)) H')) (fun a H1 b H2 d e1 e2 e3 => wpAny_AugAssign_Name ?_) h0
  unfold xVar at e1
  split at e1
  · rename_i d' ed
    cases e1
    refine load_at hE hx (hk.kind hE) ed hv fun old ru => ?_
    refine wpS_ans (h env A W s vs H b H2 hE hA e2 ph hv) fun v W1 s1 t1 r1 p1 => ?_
    refine wpS_ans (hf2 A W1 s1 H2 _ b old v d hA e3 (ru.grow t1.grow) r1 p1) fun w W2 s2 t2 r2 p2 => ?_
    exact store_at hE hS hx (hk.kind hE) r2 p2 ((hv.nil t1).nil t2) fun s3 t3 p3 v3 => ⟨W2, (t1.nil.trans t2.nil).trans t3, .next', p3, v3⟩
  · cases e1
end
end Mine
open PySem PySem.W PyProof.Rows
namespace Mine

/-- an iterator that will give ds -/
inductive ItOk (X : Cx) (A : Around) (s : Shared) (W' : Wd) (s' : Shared) (ds : List D) (it : Value) (wr : List Addr) : Prop
  | mk (I : Addr) (fp : List Addr) (P : Nat → Value → Prop) (St : Nat → Heap → Prop) : it = .ref I → Walks X.prog X.w A I fp wr ds.length P St → St 0 s'.heap → (∀ i h, St i h → ∀ b ∈ wr, ∃ o, h.get? b = some o) →
    (∀ b ∈ wr, s.heap.get? b = none ∧ b ∉ W'.mu ∧ W'.Z b = none ∧ X.T.get? b = none ∧ b ≠ X.PT) → (∀ b ∈ fp, b ∈ wr ∨ ∃ o, W'.Z b = some o ∨ (X.T.get? b = some o ∧ b ≠ X.PT)) →
    (∀ i v, P i v → ∃ d, ds[i]? = some d ∧ RV W' d v) → ItOk X A s W' s' ds it wr

inductive ItAns (X : Cx) (A : Around) (W : Wd) (s : Shared) (ds : List D) (H : Hp) (it : Value) (s' : Shared) : Prop
  | mk (W' : Wd) (wr : List Addr) : Step X [] W s W' s' → Phi X W' H s' → ItOk X A s W' s' ds it wr → ItAns X A W s ds H it s'
noncomputable abbrev XI := Vs → Hp → Option (List D × Hp)
noncomputable def SimI (X : Cx) (n : Nat) (sc : Scope) (names : List Str) (p : XI) (e : Expr) : Prop :=
  ∀ (env : Env) (A : Around) (W : Wd) (s : Shared) (vs : Vs) (H : Hp) (ds : List D) (H' : Hp), EnvOk sc env → Calm n A → p vs H = some (ds, H') → Phi X W H s → Vars X env names W vs s →
    wpAny (model X.prog X.w) A (eval e env) (fun x s1 => wpAny (model X.prog X.w) A (pyIter x) (ItAns X A W s ds H') (fun _ _ => False) s1) (fun _ _ => False) s

noncomputable def xLoop (i : Nat) (body orelse : XS) : List D → Vs → Hp → Option (Fl × Vs × Hp)
  | [], vs, H => orelse vs H
  | d :: ds, vs, H => (body (vs.set i (some d)) H).bind fun a => match a.1 with
    | .next => xLoop i body orelse ds a.2.1 a.2.2
    | .cont => xLoop i body orelse ds a.2.1 a.2.2
    | .brk => some (.next, a.2)
    | .ret d => some (.ret d, a.2)
noncomputable def xFor (i : Nat) (it : XI) (body orelse : XS) : XS := fun vs H => (it vs H).bind fun a => xLoop i body orelse a.1 vs a.2

section
variable {X : Cx} {n : Nat} {sc : Scope} {names : List Str}

/-- a change at the iterator's own addresses -/
theorem Phi.written {W : Wd} {H : Hp} {s : Shared} {h' : Heap} {t : Nat} {wr : List Addr} (p : Phi X W H s) (k : ∀ b o, b ∉ wr → s.heap.get? b = some o → h'.get? b = some o) (hw : ∀ b ∈ wr, b ∉ W.mu ∧ W.Z b = none ∧ X.T.get? b = none ∧ b ≠ X.PT) : Phi X W H { s with heap := h', toks := t } where
  top := fun b o e n => k b o (fun m => by rw [(hw b m).2.2.1] at e; cases e) (p.top b o e n)
  tab := let ⟨m, e, q⟩ := p.tab; ⟨m, k _ _ (fun m => (hw _ m).2.2.2 rfl) e, q⟩
  frz := fun b o e => k b o (fun m => by rw [(hw b m).2.1] at e; cases e) (p.frz b o e)
  len := p.len
  own := fun i co b e1 e2 => (p.own i co b e1 e2).at (.refl s W) fun o e => k b o (fun m => (hw b m).1 (List.mem_of_getElem? e2)) e
  apart := p.apart
  off := p.off
  nodup := p.nodup
  zPT := p.zPT
  z0 := p.z0
theorem Vars.written {env : Env} {W : Wd} {vs : Vs} {s : Shared} {h' : Heap} {t : Nat} {wr : List Addr} (v : Vars X env names W vs s) (k : ∀ b o, b ∉ wr → s.heap.get? b = some o → h'.get? b = some o) (hw : ∀ a ∈ frameOf names env, a ∉ wr) : Vars X env names W vs { s with heap := h', toks := t } :=
  v.at (fun a ha o e => k a o (hw a ha) e) (.refl W) fun a ha => ⟨(v.off a ha).1, (v.off a ha).2.2.1⟩
theorem Step.written {F : List Addr} {W W' : Wd} {s s' : Shared} {h' : Heap} {t : Nat} {wr : List Addr} (st : Step X F W s W' s') (k : ∀ b o, b ∉ wr → s'.heap.get? b = some o → h'.get? b = some o) (hw : ∀ b ∈ wr, s.heap.get? b = none) : Step X F W s W' { s' with heap := h', toks := t } :=
  ⟨⟨fun a o e n => k a o (fun m => by rw [hw a m] at e; cases e) (st.keep.obj a o e n), fun a o e => let ⟨o', e'⟩ := st.keep.ex a o e; ⟨o', k a o' (fun m => by rw [hw a m] at e; cases e) e'⟩, st.keep.gens, st.keep.drawn, st.keep.os⟩, st.grow⟩

/-- the loop's turns, whatever the target -/
theorem codeAny_forLoopG {prog : Program} {w : World} {A : Around} {s : Shared} {R : Result → Shared → Prop} {target it body orelse env} (I : Nat → Shared → Prop)
    (turn : ∀ n s, I n s → wpAny (model prog w) A (pyNext it) (fun r s₁ => match r with
      | none => wpAny (model prog w) A (execs orelse env) (fun f s₃ => R (.ok f) s₃) (fun _ _ => False) s₁
      | some v => wpAny (model prog w) A (letOwnedTupleGo target it v >>= fun _ => assign target env v) (fun _ s₂ => wpAny (model prog w) A (execs body env) (fun f s₃ => match f with
          | .next | .cont => ∃ m, m < n ∧ I m s₃
          | .brk => R (.ok .next) s₃
          | .ret v => R (.ok (.ret v)) s₃) (fun _ _ => False) s₂) (fun _ _ => False) s₁) (fun _ _ => False) s)
    (n : Nat) (h : I n s) : codeAny (model prog w) A (.forLoop target it body orelse env) R s := by
  refine codeAny_loop' rfl I (fun n s hI => ?_) n h
  show wpAny _ _ ((forTurn target it body orelse env).onRaise (fun x => do noteFrame x env; theTreesLotGoes x)) _ _ s
  refine wpAny_noted ?_
  simp only [forTurn]
  refine wpAny_bind (wpAny_standAt (wpAny_bind (wpAny_onRaise (wpAny_mono (turn n s hI) (fun r s₁ h₁ => ?_) fun _ _ h' => h'.elim))))
  cases r with
  | none => exact wpAny_pure (.inr ⟨rfl, codeAny_block (wpAny_mono h₁ (fun _ _ x => x) fun _ _ x => x.elim)⟩)
  | some v =>
    have e : ∀ k : Unit → Sem Fin, (letOwnedTupleGo target it v >>= fun _ => assign target env v >>= k) = ((letOwnedTupleGo target it v >>= fun _ => assign target env v) >>= k) := fun k => (bind_assoc _ _ _).symm
    show wpAny _ _ (letOwnedTupleGo target it v >>= fun _ => assign target env v >>= _) _ _ s₁
    rw [e]
    refine wpAny_bind (wpAny_mono h₁ (fun _ s₂ h₂ => wpAny_bind (wpAny_mono h₂ (fun f s₃ h₃ => ?_) fun _ _ h' => h'.elim)) fun _ _ h' => h'.elim)
    cases f with
    | next => exact wpAny_pure (.inl ⟨rfl, h₃⟩)
    | cont => exact wpAny_pure (.inl ⟨rfl, h₃⟩)
    | brk => exact wpAny_pure h₃
    | ret v => exact wpAny_pure h₃

theorem fp_off {W2 W3 : Wd} {G : Hp} {s : Shared} {env : Env} {fp wr : List Addr} (p : Phi X W3 G s) {us : Vs} (f : Vars X env names W3 us s) (l : Le W2 W3) (hfr : ∀ a ∈ frameOf names env, a ∉ wr) (hw : ∀ b ∈ wr, b ∉ W3.mu ∧ b ≠ X.PT)
    (hfw : ∀ b ∈ fp, b ∈ wr ∨ ∃ o, W2.Z b = some o ∨ (X.T.get? b = some o ∧ b ≠ X.PT)) {b : Addr} (hb : b ∈ fp) : ¬ Mut X (frameOf names env) W3 b := by
  have key : b ∉ frameOf names env ∧ ¬ (b ∈ W3.mu ∧ W3.Z b = none) ∧ b ≠ X.PT := (hfw b hb).elim (fun m => ⟨fun q => hfr b q m, fun q => (hw b m).1 q.1, (hw b m).2⟩) fun h => h.elim fun o' h => h.elim
    (fun z => ⟨fun q => (nomatch (f.off b q).2.2.1.symm.trans (l.z b o' z)), fun q => (nomatch q.2.symm.trans (l.z b o' z)), fun q => (nomatch (l.z b o' z).symm.trans ((congrArg W3.Z q).trans p.zPT))⟩)
    fun z => ⟨fun q => (nomatch (f.off b q).2.2.2.1.symm.trans z.1), fun q => (nomatch (p.off b q.1).1.symm.trans z.1), z.2⟩
  exact fun q => q.elim key.1 fun q => q.elim key.2.1 key.2.2

/-- the same, for a loop whose turns are counted down -/
inductive TurnN (X : Cx) (names : List Str) (env : Env) (W : Wd) (s : Shared) (run : Nat → Wd → Vs → Hp → Prop) (m : Nat) (s' : Shared) : Prop
  | mk (W' : Wd) (us : Vs) (G : Hp) : Step X (frameOf names env) W s W' s' → Phi X W' G s' → Vars X env names W' us s' → run m W' us G → TurnN X names env W s run m s'
/-- what holds between the turns of a loop -/
inductive Turn (X : Cx) (names : List Str) (env : Env) (W : Wd) (s : Shared) (W2 : Wd) (St : Nat → Heap → Prop) (wr : List Addr) (m : Nat) (run : Nat → Vs → Hp → Prop) (k : Nat) (s' : Shared) : Prop
  | mk (j : Nat) (W' : Wd) (us : Vs) (G : Hp) : k = m + 1 - j → j ≤ m → Step X (frameOf names env) W s W' s' → Le W2 W' → (∀ b ∈ wr, b ∉ W'.mu ∧ W'.Z b = none) → St j s'.heap → Phi X W' G s' → Vars X env names W' us s' → run j us G → Turn X names env W s W2 St wr m run k s'
/-- how a turn's body ends -/
theorem fl_end {env : Env} {W W6 : Wd} {s s6 : Shared} {r fl : Fl} {vs' us' : Vs} {H' G : Hp} {go : Vs → Hp → Option (Fl × Vs × Hp)} {Rb : Prop} {Rr : Value → Prop} {I : Prop} {f : Flow}
    (hl : (match fl with | .next => go us' G | .cont => go us' G | .brk => some (.next, us', G) | .ret d => some (.ret d, us', G)) = some (r, vs', H')) (a : AnsS X env names fl us' G f W6 s6) (t : Step X (frameOf names env) W s W6 s6)
    (hb : After X (frameOf names env) W s (AnsS X env names r vs' H') .next s6 → Rb) (hr : ∀ v, After X (frameOf names env) W s (AnsS X env names r vs' H') (.ret v) s6 → Rr v) (hn : go us' G = some (r, vs', H') → Phi X W6 G s6 → Vars X env names W6 us' s6 → I) :
    match (generalizing := false) f with | .next | .cont => I | .brk => Rb | .ret v => Rr v := by
  cases a with
  | mk r6 p6 v6 =>
    induction r6 with
    | next' => exact hn hl p6 v6
    | cont' => exact hn hl p6 v6
    | brk' => exact hb (some3I (P := fun r vs' H' => After X _ W s (AnsS X env names r vs' H') .next s6) ⟨W6, t, .next', p6, v6⟩ hl)
    | ret' rv => exact hr _ (some3I (P := fun r vs' H' => After X _ W s (AnsS X env names r vs' H') _ s6) ⟨W6, t, .ret' rv, p6, v6⟩ hl)
theorem turn_body {A : Around} {env : Env} {W W2 W3 : Wd} {s s5 : Shared} {r : Fl} {vs' us : Vs} {H' G : Hp} {bp : XS} {body : List Stmt} {go : Vs → Hp → Option (Fl × Vs × Hp)} {Rb : Shared → Prop} {Rr : Value → Shared → Prop} {St : Nat → Heap → Prop} {wr fp : List Addr} {j m k : Nat} {run : Nat → Vs → Hp → Prop} (hb : SimSs X n sc names bp body) (hE : EnvOk sc env) (hA : Calm n A)
    (hl : ((bp us G).bind fun a => match a.1 with | .next => go a.2.1 a.2.2 | .cont => go a.2.1 a.2.2 | .brk => some (.next, a.2) | .ret d => some (.ret d, a.2)) = some (r, vs', H')) (hrun : ∀ us' G', go us' G' = some (r, vs', H') → run (j + 1) us' G')
    (hRb : ∀ s', After X (frameOf names env) W s (AnsS X env names r vs' H') .next s' → Rb s') (hRr : ∀ v s', After X (frameOf names env) W s (AnsS X env names r vs' H') (.ret v) s' → Rr v s') (hk : k = m + 1 - j) (hlt : j < m) (frame : ∀ h h', St (j + 1) h → (∀ b ∈ fp, ∀ o, h.get? b = some o → h'.get? b = some o) → St (j + 1) h') (hob : ∀ h, St (j + 1) h → ∀ b ∈ wr, ∃ o, h.get? b = some o)
    (g3 : Le W2 W3) (w3 : ∀ b ∈ wr, b ∉ W3.mu ∧ W3.Z b = none) (off : ∀ b ∈ fp, ¬ Mut X (frameOf names env) W3 b) (t5 : Step X (frameOf names env) W s W3 s5) (st5 : St (j + 1) s5.heap) (p5 : Phi X W3 G s5) (v5 : Vars X env names W3 us s5) :
    wpAny (model X.prog X.w) A (execs body env) (fun f s₃ => match f with | .next | .cont => ∃ i, i < k ∧ Turn X names env W s W2 St wr m run i s₃ | .brk => Rb s₃ | .ret v => Rr v s₃) (fun _ _ => False) s5 := by
  revert hl
  refine bindI3 fun fl us' G' hb0 hl => wpS_then (hb env A W3 s5 us G fl us' G' hE hA hb0 p5 v5) fun f W6 s6 t6 a6 => ?_
  exact fl_end hl a6 (t5.trans t6) (hRb s6) (fun v => hRr v s6) fun hl p6 v6 => ⟨m + 1 - (j + 1), hk ▸ Nat.sub_lt_sub_left (Nat.lt_succ_of_lt hlt) (Nat.lt_succ_self j), j + 1, W6, us', G', rfl, hlt, t5.trans t6, g3.trans t6.grow.le, fun b hb => t6.grow.off (hob _ st5 b hb) (w3 b hb).1 (w3 b hb).2, frame _ _ st5 fun b hb o e => t6.keep.obj b o e (off b hb), p6, v6, hrun us' G' hl⟩
theorem sim_for (hS : Slots names) (i : Nat) {x : Str} {px pos : Pos} {e : Expr} {it : XI} {bp op : XS} {body orelse : List Stmt} (hx : names[i]? = some x) (hk : Asg sc x) (hi : SimI X n sc names it e) (hb : SimSs X n sc names bp body) (ho : SimSs X n sc names op orelse)
    (hs : ∀ env x, foldedSetIterable e env x = pure x := by intros; rfl) : SimS X n sc names (xFor i it bp op) (.For (.Name x px) e body orelse pos) := by
  intro env A W s vs H r vs' H' hE hA hp ph hv
  revert hp
  refine bindI2 fun ds H1 h0 hp => wpAny_For (wpAny_mono (hi env A W s vs H ds H1 hE hA h0 ph hv) (fun xv s1 h1 => wpAny_mono h1 (fun itv s2 h2 => ?_) fun _ _ e => e.elim) fun _ _ e => e.elim) (hs env)
  clear h0 ph
  obtain ⟨W2, wr, t2, p2, ⟨I, fp, P, St, rfl, Wk, st, hob, hwr, hfw, hP⟩⟩ := h2
  have hfr : ∀ a ∈ frameOf names env, a ∉ wr := fun a ha m => (hv.off a ha).2.2.2.2.elim fun o e => nomatch (hwr a m).1.symm.trans e
  refine codeAny_forLoopG (Turn X names env W s W2 St wr ds.length fun j us G => xLoop i bp op (ds.drop j) us G = some (r, vs', H')) ?_ (ds.length + 1)
    ⟨0, W2, vs, H1, rfl, Nat.zero_le _, t2.nil, .refl _, fun b hb => ⟨(hwr b hb).2.1, (hwr b hb).2.2.1⟩, st, p2, hv.nil t2, hp⟩
  clear st p2 t2 hv hp
  rintro k s3 ⟨j, W3, us, G, ek, hj, t3, g3, w3, st3, p3, v3, hl⟩
  have hwr3 : ∀ b ∈ wr, b ∉ W3.mu ∧ W3.Z b = none ∧ X.T.get? b = none ∧ b ≠ X.PT := fun b hb => ⟨(w3 b hb).1, (w3 b hb).2, (hwr b hb).2.2.2⟩
  by_cases hlt : j < ds.length
  · refine Wk.item j s3 _ _ hlt st3 fun v h4 tk4 hPv st4 k4 => ?_
    obtain ⟨d, hd, rd⟩ := hP j v hPv
    rw [List.drop_eq_getElem_cons hlt, Option.some.inj ((List.getElem?_eq_getElem hlt).symm.trans hd)] at hl
    refine wpAny_bind (wpAny_pure (wpAny_assign_Name (store_at hE hS hx (hk.kind hE) (rd.le g3) (p3.written (t := tk4) k4 hwr3) (v3.written (t := tk4) k4 hfr) fun s5 t5 p5 v5 => ?_)))
    have off : ∀ b ∈ fp, ¬ Mut X (frameOf names env) W3 b := fun b hb => fp_off p5 v5 g3 hfr (fun b hb => ⟨(hwr3 b hb).1, (hwr3 b hb).2.2.2⟩) hfw hb
    exact turn_body hb hE hA hl (fun _ _ h => h) (fun _ h => h) (fun _ _ h => h) ek hlt (fun h h' a b => Wk.frame _ _ _ a b) (hob _) g3 w3 off ((t3.written (t := tk4) k4 fun b hb => (hwr b hb).1).trans t5) (Wk.frame _ _ _ st4 fun b hb o e => t5.keep.obj b o e (off b hb)) p5 v5
  · rw [List.drop_eq_nil_of_le (Nat.not_lt.mp hlt)] at hl
    refine Wk.done s3 _ _ (Nat.le_antisymm hj (Nat.not_lt.mp hlt) ▸ st3) fun h4 tk4 k4 => ?_
    exact wpS_then (ho env A W3 _ us G r vs' H' hE hA hl (p3.written (t := tk4) k4 hwr3) (v3.written (t := tk4) k4 hfr)) fun f W5 s5 t5 q => ⟨W5, (t3.written (t := tk4) k4 fun b hb => (hwr b hb).1).trans t5, q⟩
end
end Mine
open PySem PySem.W PyProof.Rows
namespace Mine
section
variable {X : Cx} {n : Nat} {sc : Scope} {names : List Str} {A : Around} {W : Wd} {s : Shared} {H : Hp}

theorem isList_of {h : Heap} {a : Addr} {vs : List Value} {k : Nat} (e : h.get? a = some (seqObj "list" vs k)) : h.IsList a vs.toArray := ⟨_, e, rfl, k, rfl⟩
theorem isTuple_of {h : Heap} {a : Addr} {vs : List Value} {k : Nat} (e : h.get? a = some (seqObj "tuple" vs k)) : h.IsTuple a vs.toArray := ⟨_, e, rfl, k, rfl⟩

noncomputable def signs (x : Str) : List D := x.cps.toList.map fun c => D.str ⟨#[c]⟩

/-- what a for may run over -/
noncomputable def itemsOf : D → Option (List D)
  | .lst xs => some xs
  | .tup xs => some xs
  | .str x => some (signs x)
  | _ => none

theorem fresh_it (ph : Phi X W H s) : let I := s.heap.objs.size; I ∉ W.mu ∧ W.Z I = none ∧ X.T.get? I = none ∧ I ≠ X.PT := by
  have hn := get?_size_none s.heap
  exact ⟨ph.mu_ne hn, ph.z_none hn, ph.T_none hn⟩

theorem itOk {s s' : Shared} {W' : Wd} {ds : List D} {I : Addr} {fp wr : List Addr} {m : Nat} {P : Nat → Value → Prop} {St : Nat → Heap → Prop} (Wk : Walks X.prog X.w A I fp wr m P St) (hm : m = ds.length) (st : St 0 s'.heap) (hob : ∀ i h, St i h → ∀ b ∈ wr, ∃ o, h.get? b = some o)
    (hwr : ∀ b ∈ wr, s.heap.get? b = none ∧ b ∉ W'.mu ∧ W'.Z b = none ∧ X.T.get? b = none ∧ b ≠ X.PT) (hfw : ∀ b ∈ fp, b ∈ wr ∨ ∃ o, W'.Z b = some o ∨ (X.T.get? b = some o ∧ b ≠ X.PT)) (hP : ∀ i v, P i v → ∃ d, ds[i]? = some d ∧ RV W' d v) : ItOk X A s W' s' ds (.ref I) wr := by
  subst hm
  exact ⟨I, fp, P, St, rfl, Wk, st, hob, hwr, hfw, hP⟩

theorem iter_of {d : D} {v : Value} {ds : List D} (hd : itemsOf d = some ds) (hA : Calm n A) (r : RV W d v) (ph : Phi X W H s) {Q : Value → Shared → Prop} {E : Value → Shared → Prop}
    (hQ : ∀ o, (s.heap.push o).get? s.heap.objs.size = some o → ItOk X A s W { s with heap := s.heap.push o } ds (.ref s.heap.objs.size) [s.heap.objs.size] → Q (.ref s.heap.objs.size) { s with heap := s.heap.push o }) : wpAny (model X.prog X.w) A (pyIter v) Q E s := by
  have hn := get?_size_none s.heap
  obtain ⟨f1, f2, f3, f4⟩ := fresh_it ph
  have wrs : ∀ b ∈ [s.heap.objs.size], s.heap.get? b = none ∧ b ∉ W.mu ∧ W.Z b = none ∧ X.T.get? b = none ∧ b ≠ X.PT := fun b hb => by rw [List.mem_singleton.mp hb]; exact ⟨hn, f1, f2, f3, f4⟩
  cases r with
  | lst z rs =>
    rename_i a vs k xs
    cases hd
    have hl := isList_of (ph.frz _ _ z)
    have hne : a ≠ s.heap.objs.size := Nat.ne_of_lt (Heap.lt_size (ph.frz _ _ z))
    refine wpAny_pyIter_list hl (hQ _ (Heap.get?_push_size _ rfl) (itOk (Walks.list hA.hd _ a hne vs.toArray) ?_ ?_ ?_ wrs ?_ ?_))
    · rw [rs.length, List.size_toArray]
    · exact ⟨⟨_, Heap.get?_push_size _ rfl, rfl, rfl⟩, hl.push _⟩
    · intro i h st b hb
      rw [List.mem_singleton.mp hb]
      obtain ⟨⟨o, e, _⟩, _⟩ := st; exact ⟨o, e⟩
    · intro b hb
      rcases List.mem_cons.mp hb with rfl | hb
      · exact .inl (by simp)
      · rw [List.mem_singleton.mp hb]; exact .inr ⟨_, .inl z⟩
    · intro i v hv
      have hv : vs.toArray[i]? = some v := hv
      rw [List.getElem?_toArray] at hv
      have hi : i < ds.length := by rw [rs.length]; exact (List.getElem?_eq_some_iff.mp hv).1
      obtain ⟨v', e', r'⟩ := rs.get (List.getElem?_eq_getElem hi)
      rw [hv] at e'; cases e'
      exact ⟨_, List.getElem?_eq_getElem hi, r'⟩
  | tup z rs =>
    rename_i a vs k xs
    cases hd
    have hl := isTuple_of (ph.frz _ _ z)
    have hne : a ≠ s.heap.objs.size := Nat.ne_of_lt (Heap.lt_size (ph.frz _ _ z))
    refine wpAny_pyIter_tuple hl (hQ _ (Heap.get?_push_size _ rfl) (itOk (Walks.tuple hA.hd _ a hne vs.toArray) ?_ ?_ ?_ wrs ?_ ?_))
    · rw [rs.length, List.size_toArray]
    · exact ⟨⟨_, Heap.get?_push_size _ rfl, rfl, rfl⟩, let ⟨o, e, r⟩ := hl; ⟨o, Heap.get?_push_of_some _ e, r⟩⟩
    · intro i h st b hb
      rw [List.mem_singleton.mp hb]
      obtain ⟨⟨o, e, _⟩, _⟩ := st; exact ⟨o, e⟩
    · intro b hb
      rcases List.mem_cons.mp hb with rfl | hb
      · exact .inl (by simp)
      · rw [List.mem_singleton.mp hb]; exact .inr ⟨_, .inl z⟩
    · intro i v hv
      have hv : vs.toArray[i]? = some v := hv
      rw [List.getElem?_toArray] at hv
      have hi : i < ds.length := by rw [rs.length]; exact (List.getElem?_eq_some_iff.mp hv).1
      obtain ⟨v', e', r'⟩ := rs.get (List.getElem?_eq_getElem hi)
      rw [hv] at e'; cases e'
      exact ⟨_, List.getElem?_eq_getElem hi, r'⟩
  | str x t =>
    cases hd
    have hP : ∀ i v, SignAt x i v → ∃ d, (signs x)[i]? = some d ∧ RV W d v := fun i v ⟨c, u, e, q⟩ => by
      subst q
      refine ⟨.str ⟨#[c]⟩, ?_, .str _ _⟩
      unfold signs
      rw [List.getElem?_map, Array.getElem?_toList, e]; rfl
    have hlen : (signs x).length = x.cps.size := by simp [signs]
    have fps : ∀ b ∈ [s.heap.objs.size], b ∈ [s.heap.objs.size] ∨ ∃ o, W.Z b = some o ∨ (X.T.get? b = some o ∧ b ≠ X.PT) := fun b hb => .inl hb
    cases ha : x.cps.all (· < 128)
    · refine wpAny_pyIter_wide ha (hQ _ (Heap.get?_push_size _ rfl) (itOk (Walks.strWide hA.hd _ x t) hlen.symm ?_ ?_ wrs fps hP))
      · exact ⟨_, Heap.get?_push_size _ rfl, rfl, rfl⟩
      · intro i h st b hb
        rw [List.mem_singleton.mp hb]
        obtain ⟨o, e, _⟩ := st; exact ⟨o, e⟩
    · refine wpAny_pyIter_ascii ha (hQ _ (Heap.get?_push_size _ rfl) (itOk (Walks.strAscii hA.hd _ x t) hlen.symm ?_ ?_ wrs fps hP))
      · exact ⟨_, Heap.get?_push_size _ rfl, rfl, rfl⟩
      · intro i h st b hb
        rw [List.mem_singleton.mp hb]
        obtain ⟨o, e, _⟩ := st; exact ⟨o, e⟩
  | _ => cases hd

theorem ItOk.back {s0 s : Shared} {W' : Wd} {s' : Shared} {ds : List D} {it : Value} {wr : List Addr} (i : ItOk X A s W' s' ds it wr) (h : ∀ a o, s0.heap.get? a = some o → ∃ o', s.heap.get? a = some o') : ItOk X A s0 W' s' ds it wr := by
  obtain ⟨I, fp, P, St, e, w, st, hob, hwr, r, r2⟩ := i
  exact ⟨I, fp, P, St, e, w, st, hob, fun b hb => ⟨none_of_ex h (hwr b hb).1, (hwr b hb).2⟩, r, r2⟩

noncomputable def xIt (p : XE) : XI := fun vs H => (p vs H).bind fun a => (itemsOf a.1).map fun ds => (ds, a.2)
theorem simI_val {p : XE} {e : Expr} (h : SimE X n sc names p e) : SimI X n sc names (xIt p) e := by
  intro env A W s vs H ds H' hE hA hp ph hv
  unfold xIt at hp
  cases h0 : p vs H with
  | none => rw [h0] at hp; cases hp
  | some a =>
    rw [h0, Option.bind_some] at hp
    cases h1 : itemsOf a.1 with
    | none => rw [h1] at hp; cases hp
    | some xs =>
      rw [h1] at hp; cases hp
      refine wpS_ans (h env A W s vs H a.1 a.2 hE hA h0 ph hv) fun v W1 s1 t1 r1 p1 => ?_
      refine iter_of h1 hA r1 p1 fun o ho it => ?_
      exact ⟨W1, _, t1.trans ⟨.push _, .refl _ _⟩, p1.push _, it.back t1.keep.ex⟩

noncomputable def intsD (a : Int) (m : Nat) : List D := (List.range m).map fun (i : Nat) => D.int (a + i)
/-- range(a, b), both small -/
noncomputable def rangeOf (a b : Int) : Option (List D) := if a.natAbs < 2 ^ 62 ∧ b.natAbs < 2 ^ 62 then some (intsD a (b - a).toNat) else none
theorem iter_range {r : Addr} {a b : Int} {t u v : Tok} {ds : List D} (hd : rangeOf a b = some ds) (hA : Calm n A) (ph : Phi X W H s) (hr : IsRange s.heap r a b 1 t u v) {Q : Value → Shared → Prop} {E : Value → Shared → Prop}
    (hQ : ∀ o, ItOk X A s W { s with heap := s.heap.push o } ds (.ref s.heap.objs.size) [s.heap.objs.size] → Q (.ref s.heap.objs.size) { s with heap := s.heap.push o }) : wpAny (model X.prog X.w) A (pyIter (.ref r)) Q E s := by
  unfold rangeOf at hd
  split at hd
  · rename_i hs
    cases hd
    have h1 : -(2 ^ 62) ≤ a := by omega
    have h2 : a < 2 ^ 62 := by omega
    have h3 : -(2 ^ 62) ≤ b := by omega
    have h4 : b < 2 ^ 62 := by omega
    have hn := get?_size_none s.heap
    obtain ⟨f1, f2, f3, f4⟩ := fresh_it ph
    have hlen : (intsD a (b - a).toNat).length = (b - a).toNat := by simp [intsD]
    have hsz : Builtin.Range.rangeSize a b 1 = (((b - a).toNat : Nat) : Int) := by rw [rangeSize_one]; split <;> omega
    refine wpAny_pyIter_range hr (small_one h1 h2 h3 h4) (hQ _ (itOk ((Walks.range hA.hd _ a 1 (b - a).toNat).bound) hlen.symm ?_ ?_ ?_ (fun b hb => .inl hb) ?_))
    · show IsRangeIter _ _ _ _ _
      rw [hsz]; simpa using Heap.get?_push_size _ rfl
    · intro i h st b hb
      rw [List.mem_singleton.mp hb]; exact ⟨_, st⟩
    · intro b hb
      rw [List.mem_singleton.mp hb]; exact ⟨hn, f1, f2, f3, f4⟩
    · rintro i v ⟨hi, t, rfl⟩
      refine ⟨.int (a + i * 1), ?_, .int _ _⟩
      unfold intsD
      rw [List.getElem?_map, List.getElem?_range hi]; simp
  · cases hd

/-- range(n) -/
noncomputable def xRange1 (p : XE) : XI := fun vs H => (p vs H).bind fun a => match a.1 with
  | .int b => (rangeOf 0 b).map fun ds => (ds, a.2)
  | _ => none
noncomputable def xRange2 (p q : XE) : XI := fun vs H => (p vs H).bind fun a => (q vs a.2).bind fun b => match a.1, b.1 with
  | .int i, .int j => (rangeOf i j).map fun ds => (ds, b.2)
  | _, _ => none
theorem simI_range1 {p : XE} {e : Expr} {x : Str} {px pos : Pos} (hn : SimE X n sc names (xLit (.val (.type "range"))) (.Name x px)) (h : SimE X n sc names p e) (hst : ∀ env, starEach [e] env = [(false, eval e env)]) : SimI X n sc names (xRange1 p) (.Call (.Name x px) [e] [] pos) := by
  intro env A W s vs H ds H' hE hA hp ph hv
  unfold xRange1 at hp
  cases h0 : p vs H with
  | none => rw [h0] at hp; cases hp
  | some a =>
    obtain ⟨a, H1⟩ := a
    rw [h0, Option.bind_some] at hp
    cases a with
    | int b =>
      cases h1 : rangeOf 0 b with
      | none => simp only [h1] at hp; cases hp
      | some xs =>
        simp only [h1, Option.map_some, Option.some.injEq, Prod.mk.injEq] at hp
        obtain ⟨rfl, rfl⟩ := hp
        show wpAny _ A (eval (.Name x px) env >>= fun f => callWith pos f [] (backTo pos (starEach [e] env)) []) _ _ s
        refine wpAny_bind (wpS_ans (hn env A W s vs H _ H hE hA rfl ph hv) fun f W1 s1 t1 r1 p1 => ?_)
        cases r1
        rw [hst env]
        refine PySem.callWith_type rfl (Calls.evalArgs_plain (Calls.spliced_cons ?_))
        refine wpS_ans (h env A W1 s1 vs H _ H1 hE hA h0 p1 (hv.nil t1)) fun v W2 s2 t2 r2 p2 => Calls.spliced_nil ?_
        cases r2
        refine call_range_1 ?_
        refine iter_range h1 hA (p2.ext (s' := { s2 with heap := s2.heap.push _, toks := _ }) fun _ _ e => Heap.get?_push_of_some _ e) (IsRange.new ..) fun o it => ?_
        exact ⟨W2, _, (t1.trans t2).trans (Step.ext (W' := W2) (fun a o e => Heap.get?_push_of_some _ (Heap.get?_push_of_some _ e)) (.refl _ _)), p2.ext fun _ _ e => Heap.get?_push_of_some _ (Heap.get?_push_of_some _ e), it.back fun a o e => let ⟨o', e'⟩ := (t1.trans t2).keep.ex a o e; ⟨o', Heap.get?_push_of_some _ e'⟩⟩
    | _ => cases hp
end
end Mine
open PySem PySem.W PyProof.Rows
namespace Mine

structure Clause where
  i : Nat
  it : XI
  c : Option XB

noncomputable def runT (c : Option XB) (vs : Vs) (H : Hp) : Option (Bool × Hp) := match c with
  | none => some (true, H)
  | some b => b vs H
noncomputable def xItems (i : Nat) (c : Option XB) (k : Vs → Hp → Option (List D × Hp)) : List D → Vs → Hp → Option (List D × Hp)
  | [], _, H => some ([], H)
  | d :: ds, vs, H => (runT c (vs.set i (some d)) H).bind fun t => match t.1 with
      | true => (k (vs.set i (some d)) t.2).bind fun a => (xItems i c k ds vs a.2).map fun (b : List D × Hp) => (a.1 ++ b.1, b.2)
      | false => xItems i c k ds vs t.2
noncomputable def xGens (elt : XE) : List Clause → Vs → Hp → Option (List D × Hp)
  | [] => fun vs H => (elt vs H).map fun a => ([a.1], a.2)
  | cl :: rest => fun vs H => (cl.it vs H).bind fun a => xItems cl.i cl.c (xGens elt rest) a.1 (vs.set cl.i none) a.2

inductive SimT (X : Cx) (n : Nat) (sc : Scope) (names : List Str) : Option XB → List Expr → Prop
  | none : SimT X n sc names none []
  | one {b : XB} {e : Expr} : SimB X n sc names b e → SimT X n sc names (some b) [e]
inductive AccAt (W : Wd) (s : Shared) (acc : Addr) (ys : List D) : Prop
  | mk (vs : List Value) (k : Nat) : s.heap.get? acc = some (seqObj "list" vs k) → RVs W ys vs → AccAt W s acc ys

noncomputable def testsOf (ifs : List Expr) (env : Env) : Sem Bool := forIn ifs true fun c r => if r = true then do let ok ← isTrue c env (eval c env); pure (ForInStep.yield ok) else pure (ForInStep.yield r)

theorem compTurn_last {elt : Expr} {gens : List Comprehension} {scope : Scope} {pos : Pos} {depth : Nat} {it acc : Value} {env : Env} {target iter : Expr} {ifs : List Expr} (hg : gens[depth]? = some ⟨target, iter, ifs, 0⟩) (hn : gens[depth + 1]? = none) :
    compTurn (.ListComp elt gens scope pos) depth it acc env = (standAt iter.pos >>= fun _ => pyNext it >>= fun r => match r with
      | none => pure (.done .next)
      | some v => letOwnedTupleGo target it v >>= fun _ => assign target env v >>= fun _ => testsOf ifs env >>= fun ok =>
        if ok = true then ((eval elt env >>= fun x => call (.builtin "list.append") [acc, x] >>= fun _ => pure ()) >>= fun _ => again (.compLoop (.ListComp elt gens scope pos) depth it acc env))
        else again (.compLoop (.ListComp elt gens scope pos) depth it acc env)) := by
  unfold compTurn
  simp only [hg, hn]
  rfl
theorem compTurn_more {elt : Expr} {gens : List Comprehension} {scope : Scope} {pos : Pos} {depth : Nat} {it acc : Value} {env : Env} {target iter target' iter' : Expr} {ifs ifs' : List Expr} (hg : gens[depth]? = some ⟨target, iter, ifs, 0⟩) (hn : gens[depth + 1]? = some ⟨target', iter', ifs', 0⟩) :
    compTurn (.ListComp elt gens scope pos) depth it acc env = (standAt iter.pos >>= fun _ => pyNext it >>= fun r => match r with
      | none => pure (.done .next)
      | some v => letOwnedTupleGo target it v >>= fun _ => assign target env v >>= fun _ => testsOf ifs env >>= fun ok =>
        if ok = true then (eval iter' env >>= fun x => standAt iter'.pos >>= fun _ => foldedSetIterable iter' env x >>= fun x => holding [x] (pyIter x) >>= fun i2 =>
          runOwn (.compStart (.ListComp elt gens scope pos) (depth + 1) i2 acc env) env >>= fun _ => again (.compLoop (.ListComp elt gens scope pos) depth it acc env))
        else again (.compLoop (.ListComp elt gens scope pos) depth it acc env)) := by
  unfold compTurn
  simp only [hg, hn]
  rfl

section
variable {X : Cx} {n : Nat} {sc : Scope} {names : List Str} {A : Around} {env : Env}

theorem Vars.drop {W : Wd} {vs : Vs} {s : Shared} {i : Nat} (v : Vars X env names W vs s) : Vars X env names W (vs.set i none) s where
  get := fun j x d e1 e2 => by
    by_cases h : j = i
    · subst h
      by_cases hl : j < vs.length
      · rw [List.getElem?_set_self hl] at e2; cases e2
      · rw [List.getElem?_eq_none (by simpa using hl)] at e2; cases e2
    · rw [List.getElem?_set_ne (Ne.symm h)] at e2; exact v.get j x d e1 e2
  off := v.off
  ns := v.ns
  cell := v.cell
  apart := v.apart
  far := v.far
theorem Vars.back {W : Wd} {vs : Vs} {s : Shared} {i : Nat} {d : Option D} (h : vs = vs.set i none) (v : Vars X env names W (vs.set i d) s) : Vars X env names W vs s := by
  have := v.drop (i := i)
  rw [List.set_set] at this
  rw [h]; exact this

theorem AccAt.keep {W W' : Wd} {s s' : Shared} {acc : Addr} {ys : List D} (a : AccAt W s acc ys) (g : Le W W') (k : ∀ o, s.heap.get? acc = some o → s'.heap.get? acc = some o) : AccAt W' s' acc ys :=
  let ⟨vs, c, e, r⟩ := a; ⟨vs, c, k _ e, r.le g⟩

theorem acc_append {W : Wd} {s : Shared} {acc : Addr} {ys : List D} {d : D} {v : Value} {Q : Value → Shared → Prop} {E : Value → Shared → Prop} (a : AccAt W s acc ys) (r : RV W d v) (hl : ys.length ≤ 16777215)
    (hQ : ∀ h', Heap.SameBut acc s.heap h' → AccAt W { s with heap := h' } acc (ys ++ [d]) → Q .none { s with heap := h' }) : wpAny (model X.prog X.w) A (call (.builtin "list.append") [.ref acc, v]) Q E s := by
  obtain ⟨vs, k, e, rs⟩ := a
  have hsz : vs.toArray.size ≤ sizeLine := by rw [List.size_toArray, ← rs.length, sizeLine_eq]; omega
  refine wpAny_list_append_plain (items := vs.toArray) (hsz := hsz) ⟨k, e⟩ fun h' hl' hs' => hQ h' hs' ?_
  obtain ⟨k', e'⟩ := hl'
  exact ⟨vs ++ [v], k', by rw [e']; simp [seqObj], rs.append (.one r)⟩

theorem tests_ok {c : Option XB} {ifs : List Expr} {W : Wd} {s : Shared} {vs : Vs} {H H' : Hp} {b : Bool} (h : SimT X n sc names c ifs) (hE : EnvOk sc env) (hA : Calm n A) (hp : runT c vs H = some (b, H')) (ph : Phi X W H s) (hv : Vars X env names W vs s) :
    wpS X A [] (testsOf ifs env) W s (AnsB X b H') := by
  cases h with
  | none => cases hp; exact wpAny_tests_nil ⟨W, .refl, rfl, ph⟩
  | one h => exact wpAny_tests_one (h env A W s vs H b H' hE hA hp ph hv)

/-- what the accumulator's place has to be -/
structure AccOff (X : Cx) (names : List Str) (env : Env) (W : Wd) (acc : Addr) : Prop where
  mu : acc ∉ W.mu
  z : W.Z acc = none
  T : X.T.get? acc = none
  pt : acc ≠ X.PT
  fr : acc ∉ frameOf names env
theorem AccOff.grow {W W' : Wd} {s : Shared} {acc : Addr} (a : AccOff X names env W acc) (g : Grow s W W') (e : ∃ o, s.heap.get? acc = some o) : AccOff X names env W' acc :=
  let ⟨x, y⟩ := g.off e a.mu a.z; ⟨x, y, a.T, a.pt, a.fr⟩
theorem AccOff.keep {W W' : Wd} {s s' : Shared} {acc : Addr} {ys : List D} (o : AccOff X names env W acc) (a : AccAt W s acc ys) (t : Step X [] W s W' s') : AccAt W' s' acc ys ∧ AccOff X names env W' acc := by
  obtain ⟨vs, k, e, r⟩ := id a
  refine ⟨a.keep t.grow.le fun q e => t.keep.obj acc q e ?_, o.grow t.grow ⟨_, e⟩⟩
  rintro (h | h | h)
  · cases h
  · exact o.mu h.1
  · exact o.pt h

theorem Step.sub {F F' : List Addr} {W W' : Wd} {s s' : Shared} (t : Step X F W s W' s') (h : ∀ a ∈ F, a ∈ F') : Step X F' W s W' s' := t.frames fun a ha => .inl (h a ha)

inductive AccEnd (X : Cx) (names : List Str) (env : Env) (F : List Addr) (W : Wd) (s : Shared) (G : Hp) (us : Vs) (acc : Addr) (ys : List D) (s' : Shared) : Prop
  | mk (W' : Wd) : Step X F W s W' s' → Phi X W' G s' → Vars X env names W' us s' → AccAt W' s' acc ys → AccOff X names env W' acc → AccEnd X names env F W s G us acc ys s'
/-- what is done with one item that passed -/
noncomputable def BodyOk (X : Cx) (n : Nat) (sc : Scope) (names : List Str) (env : Env) (A : Around) (acc : Addr) (pl : List Addr) (clr : List Nat) (B : Sem Unit) (k : Vs → Hp → Option (List D × Hp)) : Prop :=
  ∀ (W : Wd) (s : Shared) (us : Vs) (G : Hp) (as : List D) (G' : Hp) (ys : List D), (∀ j ∈ clr, us = us.set j none) → k us G = some (as, G') → Phi X W G s → Vars X env names W us s → AccAt W s acc ys → AccOff X names env W acc → (ys ++ as).length ≤ 16777216 →
    wpAny (model X.prog X.w) A B (fun _ s' => AccEnd X names env (acc :: pl) W s G' us acc (ys ++ as) s') (fun _ _ => False) s

noncomputable def turnOf (target : Expr) (it : Value) (ifs : List Expr) (env : Env) (B : Sem Unit) (p : Pos) (c : Code) : Sem Fin :=
  standAt p >>= fun _ => pyNext it >>= fun r => match r with
      | none => pure (.done .next)
      | some v => letOwnedTupleGo target it v >>= fun _ => assign target env v >>= fun _ => testsOf ifs env >>= fun ok => if ok = true then (B >>= fun _ => again c) else again c

/-- the accumulator is none of the iterator's places -/
theorem AccAt.written {W : Wd} {s : Shared} {acc : Addr} {ys : List D} {h' : Heap} {t : Nat} {wr : List Addr} (a : AccAt W s acc ys) (k : ∀ b o, b ∉ wr → s.heap.get? b = some o → h'.get? b = some o) (hn : acc ∉ wr) : AccAt W { s with heap := h', toks := t } acc ys :=
  a.keep (.refl W) fun o e => k acc o hn e

inductive TurnA (X : Cx) (names : List Str) (env : Env) (F : List Addr) (W0 : Wd) (s0 : Shared) (W : Wd) (St : Nat → Heap → Prop) (wr : List Addr) (m : Nat) (vs : Vs) (acc : Addr) (tot : List D) (run : Nat → Hp → List D → Prop) (q : Nat) (s' : Shared) : Prop
  | mk (j : Nat) (W' : Wd) (G : Hp) (as bs : List D) : q = m + 1 - j → j ≤ m → Step X F W0 s0 W' s' → Le W W' → (∀ b ∈ wr, b ∉ W'.mu ∧ W'.Z b = none) → St j s'.heap → Phi X W' G s' → Vars X env names W' vs s' → AccAt W' s' acc as → AccOff X names env W' acc → as ++ bs = tot → run j G bs →
      TurnA X names env F W0 s0 W St wr m vs acc tot run q s'
theorem store1_at {W : Wd} {s : Shared} {vs : Vs} {H : Hp} (hE : EnvOk sc env) (hS : Slots names) {i : Nat} {x : Str} (hx : names[i]? = some x) (hk : env.kindOf x = some .local ∨ (env.kindOf x = some .cell ∧ (env.cells.lookup x).isSome = true)) {d : D} {v : Value} (r : RV W d v) (ph : Phi X W H s) (hv : Vars X env names W vs s)
    {R : Unit → Shared → Prop} {E : Value → Shared → Prop} (k : ∀ s', Step X [placeOf env x] W s W s' → Phi X W H s' → Vars X env names W (vs.set i (some d)) s' → R () s') : wpAny (model X.prog X.w) A (storeName env x v) R E s :=
  wpS_then (store1 hE hS hx hk r ph hv (Q := fun _ W5 s5 => W = W5 ∧ Phi X W H s5 ∧ Vars X env names W (vs.set i (some d)) s5) fun s5 a b => ⟨rfl, a, b⟩) fun _ W5 s5 t5 q => k s5 (q.1 ▸ t5) q.2.1 q.2.2
theorem map_app {o : Option (List D × Hp)} {a bs : List D} {H' : Hp} (h : (o.map fun (b : List D × Hp) => (a ++ b.1, b.2)) = some (bs, H')) : ∃ b', bs = a ++ b' ∧ o = some (b', H') :=
  mapI (P := fun x : List D × Hp => ∃ b', x.1 = a ++ b' ∧ o = some (b', x.2)) (fun x e => ⟨x.1, rfl, e⟩) h
theorem len_app {α : Type} {as a' b' tot : List α} (h : as ++ (a' ++ b') = tot) : (as ++ a').length ≤ tot.length := by
  rw [← h, ← List.append_assoc, List.length_append (as := as ++ a')]
  exact Nat.le_add_right _ _
set_option maxHeartbeats 1000000 in
theorem comp_level {elt : Expr} {gens : List Comprehension} {scope : Scope} {pos : Pos} (hS : Slots names) (hE : EnvOk sc env) (hA : Calm n A) {acc : Addr} (pl : List Addr) (hpl : ∀ a ∈ pl, a ∈ frameOf names env) {depth : Nat} {B : Sem Unit} {k : Vs → Hp → Option (List D × Hp)} {clr : List Nat} (hB : BodyOk X n sc names env A acc pl clr B k)
    {i : Nat} {c : Option XB} {x : Str} {px pt : Pos} {ifs : List Expr} {itv : Value} (hx : names[i]? = some x) (hk : Asg sc x) (hpx : placeOf env x ∈ pl) (hT : SimT X n sc names c ifs)
    (hturn : compTurn (.ListComp elt gens scope pos) depth itv (.ref acc) env = turnOf (.Name x px) itv ifs env B pt (.compLoop (.ListComp elt gens scope pos) depth itv (.ref acc) env))
    {W W0 : Wd} {s s0 : Shared} {vs : Vs} {H : Hp} {ds zs : List D} {H' : Hp} {ys : List D} {R : Result → Shared → Prop} (hp : xItems i c k ds vs H = some (zs, H')) (hvs : vs = vs.set i none) (hclr : ∀ j ∈ clr, vs = vs.set j none ∧ j ≠ i) (ph : Phi X W H s) (hv : Vars X env names W vs s) (ao : AccOff X names env W acc) (aa : AccAt W s acc ys) (hlen : (ys ++ zs).length ≤ 16777216)
    {wr : List Addr} (t0 : Step X (acc :: pl) W0 s0 W s) (haw : acc ∉ wr) (hfr : ∀ a ∈ frameOf names env, a ∉ wr) (hit : ItOk X A s0 W s ds itv wr)
    (hR : ∀ W' s', Le W W' → Step X (acc :: pl) W0 s0 W' s' → Phi X W' H' s' → Vars X env names W' vs s' → AccAt W' s' acc (ys ++ zs) → AccOff X names env W' acc → R (.ok .next) s') :
    codeAny (model X.prog X.w) A (.compLoop (.ListComp elt gens scope pos) depth itv (.ref acc) env) R s := by
  obtain ⟨I, fp, P, St, rfl, Wk, st, hob, hwr, hfw, hP⟩ := hit
  have hplace := place_mem (List.mem_of_getElem? hx) (hk.kind hE)
  refine codeAny_loop rfl (TurnA X names env (acc :: pl) W0 s0 W St wr ds.length vs acc (ys ++ zs) fun j G bs => xItems i c k (ds.drop j) vs G = some (bs, H')) ?_ (ds.length + 1)
    ⟨0, W, H, ys, zs, rfl, Nat.zero_le _, t0, .refl _, fun b hb => ⟨(hwr b hb).2.1, (hwr b hb).2.2.1⟩, st, ph, hv, aa, ao, rfl, hp⟩
  clear hp ph hv ao aa t0 st
  rintro q s3 ⟨j, W3, G, as, bs, eq, hj, t3, g3, w3, st3, p3, v3, a3, o3, hsum, hl⟩
  have hwr3 : ∀ b ∈ wr, b ∉ W3.mu ∧ W3.Z b = none ∧ X.T.get? b = none ∧ b ≠ X.PT := fun b hb => ⟨(w3 b hb).1, (w3 b hb).2, (hwr b hb).2.2.2⟩
  show wpAny _ A ((compTurn (.ListComp elt gens scope pos) depth (.ref I) (.ref acc) env).onRaise (fun x => do noteFrame x env; theTreesLotGoes x)) _ _ s3
  refine wpAny_noted ?_
  rw [hturn]
  clear hturn
  unfold turnOf
  refine wpAny_bind (wpAny_standAt (wpAny_bind ?_))
  by_cases hlt : j < ds.length
  · clear hR
    refine Wk.item j s3 _ _ hlt st3 fun v h4 tk4 hPv st4 k4 => ?_
    obtain ⟨d, hd, rd⟩ := hP j v hPv
    rw [List.drop_eq_getElem_cons hlt, Option.some.inj ((List.getElem?_eq_getElem hlt).symm.trans hd)] at hl
    clear hd hPv hP
    refine wpAny_bind (wpAny_pure (wpAny_bind (wpAny_assign_Name (store1_at hE hS hx (hk.kind hE) (rd.le g3) (p3.written (t := tk4) k4 hwr3) (v3.written (t := tk4) k4 hfr) fun s5 t5 p5 v5 => ?_))))
    have t5' : Step X (acc :: pl) W0 s0 W3 s5 := (t3.written (t := tk4) k4 fun b hb => (hwr b hb).1).trans (t5.sub fun a ha => List.mem_singleton.mp ha ▸ List.mem_cons_of_mem _ hpx)
    have a5 : AccAt W3 s5 acc as := (a3.written (t := tk4) k4 haw).keep (.refl _) fun o e => t5.keep.obj acc o e fun h => h.elim (fun h => o3.fr (List.mem_singleton.mp h ▸ hplace)) fun h => h.elim (fun h => o3.mu h.1) o3.pt
    have off : ∀ b ∈ fp, ¬ Mut X (frameOf names env) W3 b := fun b hb => fp_off p5 v5 g3 hfr (fun b hb => ⟨(hwr3 b hb).1, (hwr3 b hb).2.2.2⟩) hfw hb
    have st5 : St (j + 1) s5.heap := Wk.frame _ _ _ st4 fun b hb o e => t5.keep.obj b o e fun m => off b hb (m.elim (fun m => .inl (List.mem_singleton.mp m ▸ hplace)) .inr)
    clear st4 k4 t5 p3 v3 a3 t3 st3
    revert hl
    refine bindI2 fun b0 G1 ht hl => wpAny_bind (wpS_ans (tests_ok hT hE hA ht p5 v5) fun ok W6 s6 t6 r6 p6 => ?_)
    have q6 := o3.keep a5 t6
    have st6 : St (j + 1) s6.heap := Wk.frame _ _ _ st5 fun b hb o e => t6.keep.obj b o e fun m => off b hb (m.elim (fun m => nomatch m) .inr)
    have w6 : ∀ b ∈ wr, b ∉ W6.mu ∧ W6.Z b = none := fun b hb => t6.grow.off (hob (j + 1) s5.heap st5 b hb) (w3 b hb).1 (w3 b hb).2
    have g6 : Le W W6 := g3.trans t6.grow.le
    have lt : ds.length + 1 - (j + 1) < q := eq ▸ Nat.sub_lt_sub_left (Nat.lt_succ_of_lt hlt) (Nat.lt_succ_self j)
    replace t5' := t5'.trans t6.nil
    replace v5 := v5.nil t6
    clear ht p5 a5 o3 w3 hwr3 st5 t6 off
    cases b0 with
    | false =>
      rw [if_neg (r6.symm ▸ Bool.false_ne_true)]
      exact wpAny_pure ⟨rfl, ds.length + 1 - (j + 1), lt, j + 1, W6, G1, as, bs, rfl, hlt, t5', g6, w6, st6, p6, v5.back hvs, q6.1, q6.2, hsum, hl⟩
    | true =>
      rw [if_pos r6]
      revert hl
      refine bindI2 fun a' G2 hk0 hl => ?_
      obtain ⟨b', eb, hr0⟩ := map_app hl
      refine wpAny_bind (wpAny_mono (hB W6 s6 _ G1 a' G2 as (fun j hj => by rw [List.set_comm _ _ (Ne.symm (hclr j hj).2), ← (hclr j hj).1]) hk0 p6 v5 q6.1 q6.2 (Nat.le_trans (len_app (eb ▸ hsum)) hlen)) (fun _ s7 h7 => ?_) fun _ _ e => e.elim)
      obtain ⟨W7, t7, p7, v7, a7, o7⟩ := h7
      have off6 : ∀ b ∈ fp, ¬ Mut X (frameOf names env) W6 b := fun b hb => fp_off p6 v5 g6 hfr (fun b hb => ⟨(w6 b hb).1, (hwr b hb).2.2.2.2⟩) hfw hb
      have offacc : ∀ b ∈ fp, b ≠ acc := fun b hb e => (hfw b hb).elim (fun m => haw (e ▸ m)) fun ⟨o', h⟩ => h.elim (fun z => nomatch (g6.z _ _ z).symm.trans ((congrArg W6.Z e).trans q6.2.z)) fun z => nomatch z.1.symm.trans ((congrArg (fun b => X.T.get? b) e).trans q6.2.T)
      have st7 : St (j + 1) s7.heap := Wk.frame _ _ _ st6 fun b hb o e => t7.keep.obj b o e fun m => m.elim (fun m => (List.mem_cons.mp m).elim (offacc b hb) fun m => off6 b hb (.inl (hpl b m))) fun m => off6 b hb (.inr m)
      exact wpAny_pure ⟨rfl, ds.length + 1 - (j + 1), lt, j + 1, W7, G2, as ++ a', b', rfl, hlt, t5'.trans t7, g6.trans t7.grow.le, fun b hb => t7.grow.off (hob (j + 1) s6.heap st6 b hb) (w6 b hb).1 (w6 b hb).2, st7, p7, v7.back hvs, a7, o7, (List.append_assoc ..).trans (eb ▸ hsum), hr0⟩
  · rw [List.drop_eq_nil_of_le (Nat.not_lt.mp hlt)] at hl
    refine some2I (P := fun bs H' => as ++ bs = ys ++ zs → (∀ W' s', Le W W' → Step X (acc :: pl) W0 s0 W' s' → Phi X W' H' s' → Vars X env names W' vs s' → AccAt W' s' acc (ys ++ zs) → AccOff X names env W' acc → R (.ok .next) s') → _) (fun hsum hR => ?_) hl hsum hR
    refine Wk.done s3 _ _ (Nat.le_antisymm hj (Nat.not_lt.mp hlt) ▸ st3) fun h4 tk4 k4 => wpAny_pure ?_
    exact hR W3 _ g3 (t3.written (t := tk4) k4 fun b hb => (hwr b hb).1) (p3.written (t := tk4) k4 hwr3) (v3.written (t := tk4) k4 hfr) ((hsum.symm.trans (List.append_nil _)) ▸ a3.written (t := tk4) k4 haw) o3

theorem ItOk.fresh {s : Shared} {W' : Wd} {s' : Shared} {ds : List D} {it : Value} {wr : List Addr} (i : ItOk X A s W' s' ds it wr) : ∀ b ∈ wr, s.heap.get? b = none := by
  obtain ⟨_, _, _, _, _, _, _, _, hwr, _⟩ := i
  exact fun b hb => (hwr b hb).1
theorem ItOk.there {s : Shared} {W' : Wd} {s' : Shared} {ds : List D} {it : Value} {wr : List Addr} (i : ItOk X A s W' s' ds it wr) : ∀ b ∈ wr, ∃ o, s'.heap.get? b = some o := by
  obtain ⟨_, _, _, _, _, _, st, hob, _⟩ := i
  exact fun b hb => hob 0 _ st b hb
theorem ItOk.ext {s : Shared} {W' : Wd} {s' s'' : Shared} {ds : List D} {it : Value} {wr : List Addr} (i : ItOk X A s W' s' ds it wr) (k : ∀ b o, s'.heap.get? b = some o → s''.heap.get? b = some o) : ItOk X A s W' s'' ds it wr := by
  obtain ⟨I, fp, P, St, e, w, st, r, r2, r3, r4⟩ := i
  exact ⟨I, fp, P, St, e, w, w.frame _ _ _ st fun b _ o e => k b o e, r, r2, r3, r4⟩

/-- the last clause: the element, appended -/
theorem body_last {elt : Expr} {p : XE} (hE : EnvOk sc env) (hA : Calm n A) (he : SimE X n sc names p elt) {acc : Addr} (pl : List Addr) :
    BodyOk X n sc names env A acc pl [] (eval elt env >>= fun x => call (.builtin "list.append") [.ref acc, x] >>= fun _ => pure ()) (xGens p []) := by
  intro W s us G as G' ys _ hk ph hv aa ao hl
  unfold xGens at hk
  cases h0 : p us G with
  | none => rw [h0] at hk; cases hk
  | some a =>
    rw [h0] at hk; cases hk
    refine wpAny_bind (wpS_ans (he env A W s us G a.1 a.2 hE hA h0 ph hv) fun v W1 s1 t1 r1 p1 => ?_)
    obtain ⟨a1, o1⟩ := ao.keep aa t1
    have hl' : ys.length ≤ 16777215 := by simp only [List.length_append, List.length_singleton] at hl; omega
    refine wpAny_bind (acc_append a1 r1 hl' fun h' hs' a2 => wpAny_pure ?_)
    have hob : ∃ o, h'.get? acc = some o := let ⟨_, _, e, _⟩ := a2; ⟨_, e⟩
    have t2 : Step X (acc :: pl) W1 s1 W1 { s1 with heap := h' } := ⟨.same (t := s1.toks) hs' (.inl (.head _)) hob, .refl _ _⟩
    have hk2 : ∀ b o, b ∉ [acc] → s1.heap.get? b = some o → h'.get? b = some o := fun b o hb e => (hs'.2 b (by simpa using hb)).trans e
    refine ⟨W1, t1.nil.trans t2, p1.written (t := s1.toks) hk2 fun b hb => ?_, (hv.nil t1).written (t := s1.toks) hk2 fun a ha => ?_, a2, o1⟩
    · rw [List.mem_singleton.mp hb]; exact ⟨o1.mu, o1.z, o1.T, o1.pt⟩
    · intro m; rw [List.mem_singleton.mp m] at ha; exact o1.fr ha

/-- one more clause -/
theorem body_more {elt : Expr} {gens : List Comprehension} {scope : Scope} {pos : Pos} {p : XE} (hS : Slots names) (hE : EnvOk sc env) (hA : Calm n A) {acc : Addr} (pl : List Addr) (hpl : ∀ a ∈ pl, a ∈ frameOf names env) {depth : Nat} {cl : Clause} {cls : List Clause}
    {x : Str} {px pt : Pos} {iter : Expr} {ifs : List Expr} {B : Sem Unit} {clr : List Nat} (hB : BodyOk X n sc names env A acc pl clr B (xGens p cls)) (hni : cl.i ∉ clr) (hx : names[cl.i]? = some x) (hk : Asg sc x) (hpx : placeOf env x ∈ pl) (hI : SimI X n sc names cl.it iter) (hT : SimT X n sc names cl.c ifs) (hs : ∀ env v, foldedSetIterable iter env v = pure v)
    (hturn : ∀ itv, compTurn (.ListComp elt gens scope pos) depth itv (.ref acc) env = turnOf (.Name x px) itv ifs env B pt (.compLoop (.ListComp elt gens scope pos) depth itv (.ref acc) env))
    (hst : ∀ itv (s : Shared) R, codeAny (model X.prog X.w) A (.compLoop (.ListComp elt gens scope pos) depth itv (.ref acc) env) R s → (wpAny (model X.prog X.w) A (pyIter itv) (fun it' s' => codeAny (model X.prog X.w) A (.compLoop (.ListComp elt gens scope pos) depth it' (.ref acc) env) R s') (fun _ _ => False) s) → codeAny (model X.prog X.w) A (.compStart (.ListComp elt gens scope pos) depth itv (.ref acc) env) R s) :
    BodyOk X n sc names env A acc pl (cl.i :: clr) (eval iter env >>= fun x => standAt iter.pos >>= fun _ => foldedSetIterable iter env x >>= fun x => holding [x] (pyIter x) >>= fun i2 => runOwn (.compStart (.ListComp elt gens scope pos) depth i2 (.ref acc) env) env >>= fun _ => pure ()) (xGens p (cl :: cls)) := by
  intro W s us G as G' ys hus hkk ph hv aa ao hl
  unfold xGens at hkk
  cases h0 : cl.it us G with
  | none => rw [h0] at hkk; cases hkk
  | some a =>
    obtain ⟨ds, G1⟩ := a
    rw [h0, Option.bind_some] at hkk
    refine wpAny_bind (wpAny_mono (hI env A W s us G ds G1 hE hA h0 ph hv) (fun xv s1 h1 => wpAny_bind (wpAny_standAt ?_)) fun _ _ e => e.elim)
    rw [hs]
    refine wpAny_bind (wpAny_pure (wpAny_bind (wpAny_holding (wpAny_mono h1 (fun itv s2 h2 => ?_) fun _ _ e => e.elim))))
    obtain ⟨W2, wr, t2, p2, it2⟩ := h2
    obtain ⟨a2, o2⟩ := ao.keep aa t2
    have v2 := (hv.nil t2).drop (i := cl.i)
    have hwr := it2.fresh
    have haw : acc ∉ wr := fun m => by
      obtain ⟨_, _, e, _⟩ := aa
      rw [hwr acc m] at e; cases e
    have hfr : ∀ a ∈ frameOf names env, a ∉ wr := fun a ha m => by
      obtain ⟨o, e⟩ := (hv.off a ha).2.2.2.2
      rw [hwr a m] at e; cases e
    have fin : codeAny (model X.prog X.w) A (.compLoop (.ListComp elt gens scope pos) depth itv (.ref acc) env) (fun r s' => match r with
        | .ok f => wpAny (model X.prog X.w) A (pure () : Sem Unit) (fun _ s' => AccEnd X names env (acc :: pl) W s G' us acc (ys ++ as) s') (fun _ _ => False) s'
        | .error e => cameBackBy (model X.prog X.w) A env (fun _ _ => False) e s') s2 := by
      refine comp_level hS hE hA pl hpl hB hx hk hpx hT (hturn itv) hkk (by rw [List.set_set]) (fun j hj => ⟨by rw [← hus cl.i (.head _)]; exact hus j (List.mem_cons_of_mem _ hj), fun e => hni (e ▸ hj)⟩) p2 v2 o2 a2 hl t2.nil haw hfr it2 ?_
      intro W3 s3 g3 t3 p3 v3 a3 o3
      exact wpAny_pure ⟨W3, t3, p3, by rw [hus cl.i (.head _)]; exact v3, a3, o3⟩
    refine wpAny_bind (wpAny_runOwn (hst itv s2 _ fin ?_))
    obtain ⟨I, fp, P, St, rfl, Wk, st, _, _, _, _⟩ := it2
    exact Wk.self 0 s2 _ _ st fin
end

/-! the block of a comprehension -/
noncomputable def relabelS (scope sc : Scope) : Scope := { scope with names := scope.names.map fun (n, k) => if (k == .free && sc.kind == .function && sc.names.lookup n == some .cell) then (n, .cell) else (n, k) }
theorem relabel_eq {sc scope : Scope} {env : Env} (hE : EnvOk sc env) : relabel scope env = relabelS scope sc := by
  unfold relabel relabelS Env.kindOf
  rw [hE.scope]
structure ScOk (sc scope : Scope) : Prop where
  keys : (scope.names.map (·.1)).Nodup
  kind : scope.kind = .function
  free : ∀ x k, (x, k) ∈ scope.names → k = .free → sc.names.lookup x = some .cell
noncomputable def scOk (sc scope : Scope) : Bool := decide (scope.names.map (·.1)).Nodup && scope.kind == .function && scope.names.all fun x => x.2 != .free || sc.names.lookup x.1 == some .cell
theorem scOk_of {sc scope : Scope} (h : scOk sc scope = true) : ScOk sc scope := by
  unfold scOk at h
  simp only [Bool.and_eq_true, decide_eq_true_eq, List.all_eq_true, Bool.or_eq_true, bne_iff_ne, beq_iff_eq] at h
  refine ⟨h.1.1, h.1.2, fun x k hm hk => ?_⟩
  rcases h.2 (x, k) hm with q | q
  · exact absurd hk q
  · exact q

theorem lookup_mem {α : Type} : ∀ {l : List (Str × α)} {x : Str} {a : α}, (l.map (·.1)).Nodup → (x, a) ∈ l → l.lookup x = some a
  | (k, v) :: r, x, a, hn, hm => by
    rw [List.map_cons, List.nodup_cons] at hn
    rw [List.lookup_cons]
    rcases List.mem_cons.mp hm with e | hm'
    · cases e; simp
    · have : x ≠ k := by rintro rfl; exact hn.1 (List.mem_map.mpr ⟨(x, a), hm', rfl⟩)
      have hb : (x == k) = false := beq_eq_false_iff_ne.mpr this
      rw [hb]; exact lookup_mem hn.2 hm'

/-- the cells that the block sees, the last first -/
noncomputable def closeL (env : Env) : List (Str × NameKind) → List (Str × Addr) → Option (List (Str × Addr))
  | [], acc => some acc
  | (x, k) :: r, acc => if k == .free then (match env.cells.lookup x with
      | some c => closeL env r ((x, c) :: acc)
      | none => none) else closeL env r acc
theorem closureFor_eq {scope : Scope} {env : Env} {cl : List (Str × Addr)} (h : closeL env scope.names [] = some cl) : closureFor scope env = pure cl := by
  have key : ∀ (l : List (Str × NameKind)) (acc : List (Str × Addr)), closeL env l acc = some cl →
      (forIn l acc fun (x : Str × NameKind) (cs : List (Str × Addr)) => match x with | (name, kind) => if kind == .free then (do let a ← cellOf env name; pure (ForInStep.yield ((name, a) :: cs))) else pure (ForInStep.yield cs) : Sem (List (Str × Addr))) = pure cl := by
    intro l
    induction l with
    | nil => intro acc h; cases h; rfl
    | cons x r ih =>
      intro acc h
      obtain ⟨nm, kd⟩ := x
      rw [List.forIn_cons]
      unfold closeL at h
      cases hk : kd == NameKind.free with
      | false =>
        rw [hk] at h
        simp only [Bool.false_eq_true, if_false] at h
        show ((if (kd == NameKind.free) = true then (do let a ← cellOf env nm; pure (ForInStep.yield ((nm, a) :: acc))) else pure (ForInStep.yield acc) : Sem (ForInStep (List (Str × Addr)))) >>= _) = _
        rw [hk, if_neg Bool.false_ne_true, pure_bind]
        exact ih acc h
      | true =>
        rw [hk] at h
        simp only [if_true] at h
        show ((if (kd == NameKind.free) = true then (do let a ← cellOf env nm; pure (ForInStep.yield ((nm, a) :: acc))) else pure (ForInStep.yield acc) : Sem (ForInStep (List (Str × Addr)))) >>= _) = _
        rw [hk, if_pos rfl]
        cases hc : env.cells.lookup nm with
        | none => rw [hc] at h; cases h
        | some c =>
          rw [hc] at h
          have e : cellOf env nm = pure c := by unfold cellOf; rw [hc]
          rw [e, pure_bind, pure_bind]
          exact ih _ h
  unfold closureFor
  have := key scope.names [] h
  simp only [bind_pure]
  exact this
theorem closeL_ok {sc : Scope} {env : Env} (hE : EnvOk sc env) : ∀ (l : List (Str × NameKind)) (acc : List (Str × Addr)), (∀ x k, (x, k) ∈ l → k = .free → sc.names.lookup x = some .cell) → ∃ cl, closeL env l acc = some (cl ++ acc) ∧ (∀ x c, (x, c) ∈ cl → env.cells.lookup x = some c ∧ (x, NameKind.free) ∈ l) ∧ (∀ x, (x, NameKind.free) ∈ l → x ∈ cl.map (·.1)) ∧ ((l.map (·.1)).Nodup → (cl.map (·.1)).Nodup)
  | [], acc, _ => ⟨[], rfl, by simp, by simp, by simp⟩
  | (x, k) :: r, acc, h => by
    have hr : ∀ x k, (x, k) ∈ r → k = .free → sc.names.lookup x = some .cell := fun y q hm => h y q (List.mem_cons_of_mem _ hm)
    unfold closeL
    by_cases hk : k = .free
    · subst hk
      obtain ⟨c, hc⟩ := Option.isSome_iff_exists.mp (hE.cells x (h x _ (.head _) rfl))
      simp only [beq_self_eq_true, if_true, hc]
      obtain ⟨cl, e, h1, h2, h3⟩ := closeL_ok hE r ((x, c) :: acc) hr
      refine ⟨cl ++ [(x, c)], by rw [e]; simp, fun y d hm => ?_, fun y hm => ?_, fun hn => ?_⟩
      · rcases List.mem_append.mp hm with hm | hm
        · exact ⟨(h1 y d hm).1, List.mem_cons_of_mem _ (h1 y d hm).2⟩
        · simp at hm; obtain ⟨rfl, rfl⟩ := hm; exact ⟨hc, .head _⟩
      · rcases List.mem_cons.mp hm with e | hm
        · cases e; simp
        · simp only [List.map_append, List.mem_append]; exact .inl (h2 y hm)
      · rw [List.map_cons, List.nodup_cons] at hn
        rw [List.map_append, List.nodup_append]
        refine ⟨h3 hn.2, by simp, fun a ha b hb => ?_⟩
        simp at hb; subst hb
        rintro rfl
        obtain ⟨⟨y, d⟩, hm, e⟩ := List.mem_map.mp ha
        have e : y = a := e
        subst e
        exact hn.1 (List.mem_map.mpr ⟨_, (h1 y d hm).2, rfl⟩)
    · have hb : (k == NameKind.free) = false := by simpa using hk
      simp only [hb, Bool.false_eq_true, if_false]
      obtain ⟨cl, e, h1, h2, h3⟩ := closeL_ok hE r acc hr
      refine ⟨cl, e, fun y d hm => ⟨(h1 y d hm).1, List.mem_cons_of_mem _ (h1 y d hm).2⟩, fun y hm => ?_, fun hn => h3 (by rw [List.map_cons, List.nodup_cons] at hn; exact hn.2)⟩
      rcases List.mem_cons.mp hm with e | hm
      · cases e; exact absurd rfl hk
      · exact h2 y hm
theorem cellsFrom_append : ∀ (m : Nat) (names : List (Str × NameKind)) (acc : List (Str × Addr)), cellsFrom m names acc = cellsFrom m names [] ++ acc
  | _, [], _ => rfl
  | m, (x, k) :: r, acc => by
    unfold cellsFrom
    split
    · rw [cellsFrom_append (m + 1) r ((x, m) :: acc), cellsFrom_append (m + 1) r [(x, m)]]; simp
    · exact cellsFrom_append m r acc
theorem cellsFrom_keys : ∀ (m : Nat) (names : List (Str × NameKind)) (x : Str) (c : Addr), (x, c) ∈ cellsFrom m names [] → (x, NameKind.cell) ∈ names
  | _, [], _, _, h => by simp [cellsFrom] at h
  | m, (y, k) :: r, x, c, h => by
    unfold cellsFrom at h
    split at h
    · rename_i hk
      rw [cellsFrom_append] at h
      rcases List.mem_append.mp h with h | h
      · exact List.mem_cons_of_mem _ (cellsFrom_keys (m + 1) r x c h)
      · simp at h; obtain ⟨rfl, rfl⟩ := h; rw [beq_iff_eq.mp hk]; exact .head _
    · exact List.mem_cons_of_mem _ (cellsFrom_keys m r x c h)
theorem cellsFrom_some : ∀ (m : Nat) (names : List (Str × NameKind)) (x : Str), (x, NameKind.cell) ∈ names → x ∈ (cellsFrom m names []).map (·.1)
  | _, [], _, h => by cases h
  | m, (y, k) :: r, x, h => by
    unfold cellsFrom
    rcases List.mem_cons.mp h with e | h
    · cases e
      rw [if_pos (by decide), cellsFrom_append]; simp
    · split
      · rw [cellsFrom_append]; simp only [List.map_append, List.mem_append]; exact .inl (cellsFrom_some _ r x h)
      · exact cellsFrom_some m r x h
section
variable {M : Model} {A : Around} {E : Value → Shared → Prop} {s : Shared}
theorem compEnv_new {scope : Scope} {env : Env} {cl : List (Str × Addr)} {Q : Env → Shared → Prop} (hQ : Q { scope, locals := s.heap.objs.size, globals := env.globals, cells := cellsFrom (s.heap.objs.size + 1) scope.names cl, qual := env.qual, func := none, code := env.code, frame := env.frame, builtins := env.builtins } { s with heap := pushCells (s.heap.push { cls := .type "dict", data := .dict #[] }) scope.names }) :
    wpAny M A (newFunctionEnv scope env.globals cl [] env.qual none .none (some env)) Q E s := by
  simp only [newFunctionEnv, Option.isSome_some, if_true]
  refine wpAny_bind (wpAny_alloc ?_)
  refine wpAny_bind (wpAny_layCells _ (fun name kind cells => by cases hkc : kind == NameKind.cell <;> simp [hkc]) _ _ _ _ ?_)
  rw [show ({ s with heap := s.heap.push { cls := .type "dict", data := .dict #[] } } : Shared).heap.objs.size = s.heap.objs.size + 1 from Heap.size_push ..]
  exact wpAny_bind (wpAny_pure (wpAny_pure hQ))
end
section
variable {X : Cx} {n : Nat} {sc : Scope} {names : List Str} {A : Around} {env : Env}

theorem compStart_any {elt : Expr} {gens : List Comprehension} {scope : Scope} {pos : Pos} {depth : Nat} {itv acc : Value} {target iter : Expr} {ifs : List Expr} (hg : gens[depth]? = some ⟨target, iter, ifs, 0⟩) {s : Shared} {R : Result → Shared → Prop}
    (h0 : codeAny (model X.prog X.w) A (.compLoop (.ListComp elt gens scope pos) depth itv acc env) R s)
    (h : wpAny (model X.prog X.w) A (pyIter itv) (fun it' s' => codeAny (model X.prog X.w) A (.compLoop (.ListComp elt gens scope pos) depth it' acc env) R s') (fun _ _ => False) s) :
    codeAny (model X.prog X.w) A (.compStart (.ListComp elt gens scope pos) depth itv acc env) R s := by
  refine codeAny_of_tree ?_
  show wpAny _ _ ((compStart (.ListComp elt gens scope pos) depth itv acc env).onRaise (fun x => do noteFrame x env; standAt theWindowsPlace)) _ _ s
  refine wpAny_notedAt ?_
  have e1 : (clausesOf (.ListComp elt gens scope pos))[depth]? = some ⟨target, iter, ifs, 0⟩ := hg
  unfold compStart
  simp only [e1]
  show wpAny _ _ (ask >>= _) _ _ s
  refine wpAny_bind (wpAny_askSetting (wpAny_ite ?_))
  have h' := wpAny_mono h (Q' := fun it' s' => codeAny (model X.prog X.w) A (.compLoop (.ListComp elt gens scope pos) depth it' acc env) R s') (E' := notedBy (model X.prog X.w) A env fun x s' => R (.error x) s') (fun _ _ x => x) fun _ _ x => x.elim
  split
  · first
      | exact wpAny_bind (wpAny_pure (wpAny_pure (And.intro rfl h0)))
      | exact wpAny_pure (And.intro rfl h0)
  · exact wpAny_bind (wpAny_rule (wpAny_bind (wpAny_standAt (wpAny_bind (wpAny_mono h' (fun it' s' h' => wpAny_pure (And.intro rfl h')) fun _ _ x => x)))))

/-- a target of the block -/
noncomputable def AsgC (scope : Scope) (x : Str) : Prop := scope.names.lookup x = some .local ∨ scope.names.lookup x = some .cell

inductive SimCl (X : Cx) (n : Nat) (sI scope : Scope) (names : List Str) : List Clause → List Comprehension → Prop
  | nil : SimCl X n sI scope names [] []
  | cons {cl : Clause} {cls : List Clause} {gs : List Comprehension} {x : Str} {px : Pos} {iter : Expr} {ifs : List Expr} : names[cl.i]? = some x → AsgC scope x → SimI X n sI names cl.it iter → SimT X n sI names cl.c ifs → (∀ env v, foldedSetIterable iter env v = pure v) → cl.i ∉ cls.map (·.i) →
      SimCl X n sI scope names cls gs → SimCl X n sI scope names (cl :: cls) (⟨.Name x px, iter, ifs, 0⟩ :: gs)

theorem drop_get {α : Type} {l r : List α} {k : Nat} {a : α} (h : l.drop k = a :: r) : l[k]? = some a ∧ l.drop (k + 1) = r := by
  have h1 : (l.drop k)[0]? = some a := by rw [h]; rfl
  rw [List.getElem?_drop] at h1
  refine ⟨by simpa using h1, ?_⟩
  rw [← List.drop_drop, h]; rfl

theorem comp_body {elt : Expr} {gens : List Comprehension} {sI scope : Scope} {pos : Pos} {p : XE} (hS : Slots names) (hE : EnvOk sI env) (hA : Calm n A) (he : SimE X n sI names p elt) {acc : Addr} (pl : List Addr) (hpl : ∀ a ∈ pl, a ∈ frameOf names env) (hpf : ∀ x, AsgC scope x → Asg sI x ∧ placeOf env x ∈ pl) :
    ∀ (rest : List Clause) (gs : List Comprehension), SimCl X n sI scope names rest gs → ∀ (depth : Nat) (x : Str) (px : Pos) (iter : Expr) (ifs : List Expr), gens[depth]? = some ⟨.Name x px, iter, ifs, 0⟩ → gens.drop (depth + 1) = gs →
    ∃ B, BodyOk X n sI names env A acc pl (rest.map (·.i)) B (xGens p rest) ∧ ∀ itv, compTurn (.ListComp elt gens scope pos) depth itv (.ref acc) env = turnOf (.Name x px) itv ifs env B iter.pos (.compLoop (.ListComp elt gens scope pos) depth itv (.ref acc) env) := by
  intro rest gs hr
  induction hr with
  | nil =>
    intro depth x px iter ifs hg hd
    refine ⟨_, body_last hE hA he pl, fun itv => ?_⟩
    rw [compTurn_last hg (List.getElem?_eq_none_iff.mpr (List.drop_eq_nil_iff.mp hd))]; rfl
  | cons hx hk hI hT hs hni hr ih =>
    intro depth x px iter ifs hg hd
    have hg' := drop_get hd
    obtain ⟨B, hB, hturn⟩ := ih (depth + 1) _ _ _ _ hg'.1 hg'.2
    refine ⟨_, body_more (pos := pos) hS hE hA pl hpl hB hni hx (hpf _ hk).1 (hpf _ hk).2 hI hT hs hturn (fun itv s R h0 h => compStart_any hg'.1 h0 h), fun itv => ?_⟩
    rw [compTurn_more hg hg'.1]
    unfold turnOf
    simp only [bind_assoc, pure_bind]

noncomputable def mask (vis : List Nat) : Nat → Vs → Vs
  | _, [] => []
  | i, d :: r => (if vis.contains i then d else none) :: mask vis (i + 1) r
theorem mask_get (vis : List Nat) : ∀ (k : Nat) (vs : Vs) (i : Nat) (d : D), (mask vis k vs)[i]? = some (some d) → (k + i) ∈ vis ∧ vs[i]? = some (some d)
  | _, [], _, _, h => by simp [mask] at h
  | k, x :: r, 0, d, h => by
    simp only [mask, List.getElem?_cons_zero, Option.some.injEq] at h
    split at h
    · rename_i hc; exact ⟨by simpa using hc, by simp [h]⟩
    · cases h
  | k, x :: r, i + 1, d, h => by
    simp only [mask, List.getElem?_cons_succ] at h
    obtain ⟨a, b⟩ := mask_get vis (k + 1) r i d h
    exact ⟨by rw [← Nat.add_assoc, Nat.add_right_comm]; exact a, by simpa using b⟩
theorem mask_clear (vis : List Nat) : ∀ (k : Nat) (vs : Vs) (i : Nat), (k + i) ∉ vis → mask vis k vs = (mask vis k vs).set i none
  | _, [], _, _ => rfl
  | k, x :: r, 0, h => by
    have : vis.contains k = false := by simpa using h
    rw [mask, this, List.set_cons_zero]; rfl
  | k, x :: r, i + 1, h => by
    rw [mask, List.set_cons_succ, ← mask_clear vis (k + 1) r i (by rw [Nat.add_right_comm]; exact h)]

noncomputable def xComp (vis : List Nat) (i : Nat) (it : XI) (c : Option XB) (rest : List Clause) (p : XE) : XE := fun vs H => (it vs H).bind fun a => (xItems i c (xGens p rest) a.1 (mask vis 0 vs) a.2).bind fun b => if okLen b.1 then some (.lst b.1, b.2) else none

theorem xCompI {vis : List Nat} {i : Nat} {it : XI} {c : Option XB} {rest : List Clause} {p : XE} {vs : Vs} {H H' : Hp} {d : D} {P : D → Hp → Prop}
    (k : ∀ ds H1 zs H2, it vs H = some (ds, H1) → xItems i c (xGens p rest) ds (mask vis 0 vs) H1 = some (zs, H2) → zs.length ≤ 16777216 → P (.lst zs) H2) (h : xComp vis i it c rest p vs H = some (d, H')) : P d H' := by
  revert h
  exact bindI2 fun ds H1 h0 => bindI2 fun zs H2 h1 => ifI (P := fun x : D × Hp => P x.1 x.2) fun ok => k ds H1 zs H2 h0 h1 (of_decide_eq_true ok)
/-- the block's own environment -/
structure BlockOk (X : Cx) (sc scope : Scope) (names : List Str) (vis : List Nat) (i : Nat) (rest : List Clause) : Prop where
  ok : ScOk sc scope
  known : ∀ x k, (x, k) ∈ scope.names → k = .free ∨ k = .cell → x ∈ names
  seen : ∀ j ∈ vis, ∀ x, names[j]? = some x → scope.names.lookup x = some .free
  own : i ∉ vis
  others : ∀ cl ∈ rest, cl.i ∉ vis ∧ cl.i ≠ i

theorem lookup_relabelS {sc scope : Scope} : ∀ {l : List (Str × NameKind)} {x : Str}, (l.map fun (q : Str × NameKind) => match q with | (n, k) => if (k == NameKind.free && sc.kind == .function && sc.names.lookup n == some .cell) then (n, NameKind.cell) else (n, k)).lookup x = (l.lookup x).map fun k => if (k == NameKind.free && sc.kind == .function && sc.names.lookup x == some .cell) then NameKind.cell else k
  | [], _ => rfl
  | (y, k) :: r, x => by
    rw [List.map_cons]
    have e : (match (y, k) with | (n, k) => if (k == NameKind.free && sc.kind == ScopeKind.function && sc.names.lookup n == some NameKind.cell) = true then (n, NameKind.cell) else (n, k)) = (y, if (k == NameKind.free && sc.kind == ScopeKind.function && sc.names.lookup y == some NameKind.cell) = true then NameKind.cell else k) := by
      show (if _ then _ else _) = _
      split <;> rfl
    rw [e, List.lookup_cons, List.lookup_cons]
    by_cases h : x = y
    · subst h; simp
    · have hb : (x == y) = false := beq_eq_false_iff_ne.mpr h
      simp only [hb]; exact lookup_relabelS (scope := scope)
theorem relabelS_lookup (sc scope : Scope) (x : Str) : (relabelS scope sc).names.lookup x = (scope.names.lookup x).map fun k => if (k == NameKind.free && sc.kind == .function && sc.names.lookup x == some .cell) then NameKind.cell else k := lookup_relabelS (scope := scope)

/-- all that the block's start gives -/
theorem block_start {scope : Scope} {W : Wd} {s : Shared} {vs : Vs} {G : Hp} {vis : List Nat} {i : Nat} {rest : List Clause} (hE : EnvOk sc env) (hB : BlockOk X sc scope names vis i rest) (ph : Phi X W G s) (hv : Vars X env names W vs s) {cl : List (Str × Addr)} (hcl : closeL env scope.names [] = some cl) :
    let C := s.heap.objs.size
    let cenv : Env := { scope := relabelS scope sc, locals := C, globals := env.globals, cells := cellsFrom (C + 1) scope.names cl, qual := env.qual, func := none, code := env.code, frame := env.frame, builtins := env.builtins }
    let s' : Shared := { s with heap := pushCells (s.heap.push { cls := .type "dict", data := .dict #[] }) scope.names }
    let pl := C :: (cellsFrom (C + 1) scope.names []).map (·.2)
    EnvOk (relabelS scope sc) cenv ∧ Vars X cenv names W (mask vis 0 vs) s' ∧ Phi X W G s' ∧ (∀ a ∈ pl, a ∈ frameOf names cenv ∧ s.heap.get? a = none) ∧ (∀ x, AsgC scope x → Asg (relabelS scope sc) x ∧ placeOf cenv x ∈ pl) ∧ (∀ b o, s.heap.get? b = some o → s'.heap.get? b = some o) ∧ (∀ a ∈ frameOf names cenv, a ∈ pl ∨ a ∈ frameOf names env) := by
  intro C cenv s' pl
  have hn : s.heap.get? C = none := get?_size_none s.heap
  have keep : ∀ b o, s.heap.get? b = some o → s'.heap.get? b = some o := fun b o e => pushCells_keeps _ _ b o (Heap.get?_push_of_some _ e)
  have nsC : s'.heap.Ns C fun _ => none := (Heap.Ns.new s.heap (.type "dict")).keeps (pushCells_keeps _ _)
  have okC := cellsFrom_ok scope.names (s.heap.push { cls := .type "dict", data := .dict #[] }) (C + 1) [] ⟨fun _ _ hm => (nomatch hm), List.Pairwise.nil⟩ (by rw [Heap.size_push]; exact Nat.le_refl _)
  rw [Heap.size_push] at okC
  have hcells : cenv.cells = cellsFrom (C + 1) scope.names [] ++ cl := cellsFrom_append ..
  obtain ⟨cl', e', c1, c2, c3⟩ := closeL_ok hE scope.names [] hB.ok.free
  rw [hcl, List.append_nil] at e'
  cases e'
  have c3 := c3 hB.ok.keys
  have fresh : ∀ a, C ≤ a → s.heap.get? a = none := fun a ha => by
    cases e : s.heap.get? a with
    | none => rfl
    | some o => exact absurd (Heap.lt_size e) (Nat.not_lt.mpr ha)
  have newOff : ∀ a ∈ pl, C ≤ a ∧ ∃ o, s'.heap.get? a = some o := fun a ha => by
    rcases List.mem_cons.mp ha with rfl | ha
    · exact ⟨Nat.le_refl _, let ⟨o, _, _, e, _⟩ := nsC; ⟨o, e⟩⟩
    · obtain ⟨⟨x, c⟩, hm, rfl⟩ := List.mem_map.mp ha
      obtain ⟨⟨o, e, _⟩, h2⟩ := okC.empty x c hm
      exact ⟨Nat.le_of_succ_le h2, o, e⟩
  have clOff : ∀ x c, (x, c) ∈ cl → (x, c) ∈ env.cells := fun x c hm => mem_of_lookup (c1 x c hm).1
  have clFr : ∀ x c, (x, c) ∈ cl → c ∈ frameOf names env := fun x c hm => mem_frame (clOff x c hm) (hB.known x _ (c1 x c hm).2 (.inl rfl))
  have frs : ∀ a ∈ frameOf names cenv, a ∈ pl ∨ ∃ x, (x, a) ∈ cl := fun a ha => by
    rcases of_frame ha with rfl | ⟨x, hm, _⟩
    · exact .inl (.head _)
    · rw [hcells] at hm
      rcases List.mem_append.mp hm with hm | hm
      · exact .inl (List.mem_cons_of_mem _ (List.mem_map.mpr ⟨(x, a), hm, rfl⟩))
      · exact .inr ⟨x, hm⟩
  have p' : Phi X W G s' := ph.ext keep
  have lookNew : ∀ x, scope.names.lookup x = some .cell → ((cellsFrom (C + 1) scope.names []).lookup x).isSome = true := fun x hx => by
    have hm := cellsFrom_some (C + 1) scope.names x (mem_of_lookup hx)
    obtain ⟨⟨y, c⟩, hm', e⟩ := List.mem_map.mp hm
    have e : y = x := e
    subst e
    cases q : (cellsFrom (C + 1) scope.names []).lookup y with
    | some _ => rfl
    | none => exact absurd hm' (by
        intro hm'
        have := List.lookup_eq_none_iff.mp q (y, c) hm'
        simp at this)
  have lookCl : ∀ x, scope.names.lookup x = some .free → ∃ c, cl.lookup x = some c ∧ env.cells.lookup x = some c := fun x hx => by
    obtain ⟨⟨y, c⟩, hm', e⟩ := List.mem_map.mp (c2 x (mem_of_lookup hx))
    have e : y = x := e
    subst e
    exact ⟨c, lookup_mem c3 hm', (c1 y c hm').1⟩
  have lookFree : ∀ x, scope.names.lookup x = some .free → (cellsFrom (C + 1) scope.names []).lookup x = none := fun x hx => by
    rw [List.lookup_eq_none_iff]
    rintro ⟨y, c⟩ hm
    have hy := lookup_mem hB.ok.keys (cellsFrom_keys (C + 1) scope.names y c hm)
    simp only [bne_iff_ne, ne_eq]
    rintro rfl
    rw [hx] at hy; cases hy
  have kindF : ∀ x, scope.names.lookup x = some .free → cenv.kindOf x = some .cell := fun x hx => by
    show (relabelS scope sc).names.lookup x = _
    rw [relabelS_lookup, hx]
    have h1 := hB.ok.free x .free (mem_of_lookup hx) rfl
    have h2 := hE.kind
    simp [h1, h2]
  have kindO : ∀ x k, scope.names.lookup x = some k → k ≠ .free → cenv.kindOf x = some k := fun x k hx hk => by
    show (relabelS scope sc).names.lookup x = _
    rw [relabelS_lookup, hx]
    have : (k == NameKind.free) = false := by simpa using hk
    simp only [Option.map_some, this, Bool.false_and, Bool.false_eq_true, if_false]
  have lookC : ∀ x, cenv.cells.lookup x = ((cellsFrom (C + 1) scope.names []).lookup x).or (cl.lookup x) := fun x => by rw [hcells, List.lookup_append]
  refine ⟨⟨rfl, hB.ok.kind, hE.globals, hE.builtins, fun x hx => ?_⟩, ⟨fun j x d hj hd => ?_, fun a ha => ?_, ⟨_, nsC⟩, fun x c hc => ?_, ?_, fun x c hc => ?_⟩, p', fun a ha => ⟨?_, fresh a (newOff a ha).1⟩, fun x hx => ?_, keep, fun a ha => (frs a ha).imp id fun h => h.elim fun x h => clFr x a h⟩
  · have hx : (relabelS scope sc).names.lookup x = some .cell := hx
    rw [relabelS_lookup] at hx
    cases q : scope.names.lookup x with
    | none => rw [q] at hx; cases hx
    | some k =>
      rw [lookC]
      by_cases hk : k = .free
      · subst hk
        obtain ⟨c, h1, _⟩ := lookCl x q
        rw [h1]; simp
      · have : (k == NameKind.free) = false := by simpa using hk
        rw [q] at hx
        simp only [Option.map_some, this, Bool.false_and, Bool.false_eq_true, if_false, Option.some.injEq] at hx
        subst hx
        obtain ⟨c, h1⟩ := Option.isSome_iff_exists.mp (lookNew x q)
        rw [h1]; simp
  · obtain ⟨hm, hd'⟩ := mask_get vis 0 vs j d hd
    have hfree := hB.seen j (by simpa using hm) x hj
    obtain ⟨v, st, r⟩ := hv.get j x d hj hd'
    obtain ⟨c, h1, h2⟩ := lookCl x hfree
    refine ⟨v, .inr ⟨.inl (kindF x hfree), c, by rw [lookC, lookFree x hfree, h1]; rfl, ?_⟩, r⟩
    have hkx : env.kindOf x = some .cell := by
      show env.scope.names.lookup x = _
      rw [hE.scope]; exact hB.ok.free x .free (mem_of_lookup hfree) rfl
    rcases st with ⟨k, _⟩ | ⟨_, c', h3, hcell⟩
    · rw [hkx] at k; cases k
    · rw [h2] at h3; cases h3; exact hcell.keeps keep
  · rcases frs a ha with h | ⟨x, h⟩
    · obtain ⟨h1, h2⟩ := newOff a h
      have := fresh a h1
      exact ⟨ph.mu_ne this, (ph.T_none this).2, ph.z_none this, (ph.T_none this).1, h2⟩
    · obtain ⟨o1, o2, o3, o4, o, e⟩ := hv.off a (clFr x a h)
      exact ⟨o1, o2, o3, o4, o, keep a o e⟩
  · have hc : (x, c) ∈ cenv.cells := hc
    rw [hcells] at hc
    rcases List.mem_append.mp hc with h | h
    · exact fun _ => ⟨_, (okC.empty x c h).1⟩
    · obtain ⟨u, hu⟩ := hv.cell x c (clOff x c h) (hB.known x _ (c1 x c h).2 (.inl rfl))
      exact fun _ => ⟨u, hu.keeps keep⟩
  · show (cellsFrom (C + 1) scope.names cl).Pairwise _
    rw [cellsFrom_append, List.pairwise_append]
    refine ⟨okC.apart, ?_, fun a ha b hb e => ?_⟩
    · have : ∀ l : List (Str × Addr), (∀ x c, (x, c) ∈ l → (x, c) ∈ env.cells) → (l.map (·.1)).Nodup → l.Pairwise fun x y => x.2 ≠ y.2 := by
        intro l
        induction l with
        | nil => intro _ _; exact .nil
        | cons a r ih =>
          intro h1 h2
          rw [List.map_cons, List.nodup_cons] at h2
          refine List.pairwise_cons.mpr ⟨fun b hb e => h2.1 ?_, ih (fun x c hm => h1 x c (List.mem_cons_of_mem _ hm)) h2.2⟩
          have h3 := h1 a.1 a.2 (.head _)
          have h4 := h1 b.1 b.2 (List.mem_cons_of_mem _ hb)
          rw [← e] at h4
          have := name_of_addr hv.apart h3 h4
          rw [this]; exact List.mem_map.mpr ⟨b, hb, rfl⟩
      exact this cl clOff c3
    · have h1 := (okC.empty a.1 a.2 ha).2
      obtain ⟨_, _, _, _, o, eo⟩ := hv.off b.2 (clFr b.1 b.2 hb)
      have := fresh a.2 (Nat.le_of_succ_le h1)
      rw [e, eo] at this; cases this
  · have hc : (x, c) ∈ cenv.cells := hc
    rw [hcells] at hc
    rcases List.mem_append.mp hc with h | h
    · exact Nat.ne_of_gt (okC.empty x c h).2
    · intro e
      obtain ⟨_, _, _, _, o, eo⟩ := hv.off c (clFr x c h)
      have : s.heap.get? c = none := by rw [show c = C from e]; exact hn
      rw [eo] at this; cases this
  · rcases List.mem_cons.mp ha with rfl | ha
    · exact .head _
    · obtain ⟨⟨x, c⟩, hm, rfl⟩ := List.mem_map.mp ha
      exact mem_frame (by rw [hcells]; exact List.mem_append_left _ hm) (hB.known x _ (cellsFrom_keys _ _ x c hm) (.inr rfl))
  · rcases hx with hx | hx
    · have := kindO x _ hx (by decide)
      refine ⟨.inl this, ?_⟩
      unfold placeOf; rw [this]; exact .head _
    · have := kindO x _ hx (by decide)
      refine ⟨.inr this, ?_⟩
      unfold placeOf; rw [this]
      obtain ⟨c, h1⟩ := Option.isSome_iff_exists.mp (lookNew x hx)
      show (cenv.cells.lookup x).getD 0 ∈ pl
      rw [lookC, h1]
      exact List.mem_cons_of_mem _ (List.mem_map.mpr ⟨(x, c), mem_of_lookup h1, rfl⟩)

theorem Phi.freeze {W : Wd} {H : Hp} {s : Shared} {a : Addr} {o : Obj} (p : Phi X W H s) (e : s.heap.get? a = some o) (hz : W.Z a = none) (hm : a ∉ W.mu) (hp : a ≠ X.PT) : Phi X (W.frz a o) H s := by
  have le : Le W (W.frz a o) := .frz hz
  have zz : ∀ b, b ≠ a → (W.frz a o).Z b = W.Z b := fun b hb => by show (if b = a then _ else _) = _; rw [if_neg hb]
  refine ⟨p.top, let ⟨m, x, q⟩ := p.tab; ⟨m, x, q.le le⟩, fun b q x => ?_, p.len, fun i co b e1 e2 => (p.own i co b e1 e2).le le, fun i co b e1 e2 hj => ?_, p.off, p.nodup, ?_, fun b q e => le.z b q (p.z0 b q e)⟩
  · by_cases h : b = a
    · subst h; rw [Wd.frz_self] at x; cases x; exact e
    · rw [zz b h] at x; exact p.frz b q x
  · rw [zz b (by rintro rfl; exact hm (List.mem_of_getElem? e2))]; exact p.apart i co b e1 e2 hj
  · rw [zz _ (Ne.symm hp)]; exact p.zPT
theorem Grow.freeze {s : Shared} {W W' : Wd} {a : Addr} {o : Obj} (g : Grow s W W') (hn : s.heap.get? a = none) (hz : W'.Z a = none) : Grow s W (W'.frz a o) := by
  refine ⟨fun b q x => ?_, fun b q x => ?_, g.mu⟩
  · have := g.z b q x
    show (if b = a then _ else _) = _
    rw [if_neg (by rintro rfl; rw [hz] at this; cases this)]; exact this
  · have x : (if b = a then some o else W'.Z b) = some q := x
    by_cases h : b = a
    · subst h; exact .inr (.inl hn)
    · rw [if_neg h] at x; exact g.zf b q x

set_option maxHeartbeats 1000000 in
theorem comp_core {elt iter : Expr} {gs : List Comprehension} {scope : Scope} {pos : Pos} {p : XE} {vis : List Nat} {i : Nat} {c : Option XB} {rest : List Clause} {x : Str} {px : Pos} {ifs : List Expr} (hS : Slots names) (hE : EnvOk sc env) (hA : Calm n A) (hB : BlockOk X sc scope names vis i rest)
    (hx : names[i]? = some x) (hk : AsgC scope x) (hT : SimT X n (relabelS scope sc) names c ifs) (hr : SimCl X n (relabelS scope sc) scope names rest gs) (he : SimE X n (relabelS scope sc) names p elt)
    {W W2 : Wd} {s s2 : Shared} {vs : Vs} {H1 H' : Hp} {ds zs : List D} {itv : Value} {wr : List Addr} {cl : List (Str × Addr)} (hcl : closeL env scope.names [] = some cl) (hp : xItems i c (xGens p rest) ds (mask vis 0 vs) H1 = some (zs, H')) (hlen : zs.length ≤ 16777216)
    (hv : Vars X env names W vs s) (t2 : Step X [] W s W2 s2) (p2 : Phi X W2 H1 s2) (v2 : Vars X env names W2 vs s2) (it2 : ItOk X A s W2 s2 ds itv wr) {RR : Value → Addr → Result → Shared → Prop}
    (hRR : ∀ (a C : Addr) (m : Str → Option Value) (o : Obj) (us : List Value) (k : Nat) (W' : Wd) (s' : Shared), o = seqObj "list" us k → RVs W' zs us → W'.Z a = some o → Step X [] W s W' s' → Phi X W' H' s' → Vars X env names W' vs s' → s'.heap.Ns C m → s.heap.get? C = none → C ∉ W'.mu → W'.Z C = none → X.T.get? C = none → C ≠ X.PT → C ∉ frameOf names env → RR (.ref a) C (.ok .next) s') {E : Value → Shared → Prop} :
    wpAny (model X.prog X.w) A (newList []) (fun acc s₃ => wpAny (model X.prog X.w) A (newFunctionEnv scope env.globals cl [] env.qual none .none (some env)) (fun cenv s₄ =>
      codeAny (model X.prog X.w) A (.compStart (.ListComp elt (⟨.Name x px, iter, ifs, 0⟩ :: gs) scope pos) 0 itv acc { cenv with scope := relabel scope env }) (RR acc cenv.locals) s₄) E s₃) E s2 := by
  have hn2 := get?_size_none s2.heap
  refine wpAny_newObj_type ?_
  have e3 : (s2.heap.push (seqObj "list" [] 0)).get? s2.heap.objs.size = some (seqObj "list" [] 0) := Heap.get?_push_size _ rfl
  generalize hs3 : ({ s2 with heap := s2.heap.push (seqObj "list" [] 0) } : Shared) = s3
  have k3 : ∀ b o, s2.heap.get? b = some o → s3.heap.get? b = some o := fun b o e => by rw [← hs3]; exact Heap.get?_push_of_some _ e
  have ea : s3.heap.get? s2.heap.objs.size = some (seqObj "list" [] 0) := by rw [← hs3]; exact e3
  generalize s2.heap.objs.size = acc at hn2 ea
  have st3 : Step X [] W2 s2 W2 s3 := by rw [← hs3]; exact ⟨.push _, .refl _ _⟩
  show wpAny _ A (newFunctionEnv scope env.globals cl [] env.qual none .none (some env)) _ _ s3
  have p3 : Phi X W2 H1 s3 := p2.ext k3
  have v3 : Vars X env names W2 vs s3 := v2.nil st3
  refine compEnv_new ?_
  obtain ⟨hE', hV, hP, hpl, hpf, k4, frs⟩ := block_start hE hB p3 v3 hcl
  show codeAny _ A (.compStart (.ListComp elt (⟨.Name x px, iter, ifs, 0⟩ :: gs) scope pos) 0 itv (.ref acc) { scope := relabel scope env, locals := s3.heap.objs.size, globals := env.globals, cells := cellsFrom (s3.heap.objs.size + 1) scope.names cl, qual := env.qual, func := none, code := env.code, frame := env.frame, builtins := env.builtins }) _ _
  rw [relabel_eq hE]
  generalize hcenv : ({ scope := relabelS scope sc, locals := s3.heap.objs.size, globals := env.globals, cells := cellsFrom (s3.heap.objs.size + 1) scope.names cl, qual := env.qual, func := none, code := env.code, frame := env.frame, builtins := env.builtins } : Env) = cenv at hE' hV hpl hpf frs
  generalize hs4 : ({ s3 with heap := pushCells (s3.heap.push { cls := .type "dict", data := .dict #[] }) scope.names } : Shared) = s4 at hV hP k4
  generalize hplg : s3.heap.objs.size :: (cellsFrom (s3.heap.objs.size + 1) scope.names []).map (·.2) = pl at hpl hpf frs
  have hC : cenv.locals = s3.heap.objs.size := by rw [← hcenv]
  have hCpl : cenv.locals ∈ pl := by rw [← hplg, hC]; exact .head _
  have st4 : Step X [] W2 s3 W2 s4 := by rw [← hs4]; exact ⟨.ext (t := s3.toks) (by rw [← hs4] at k4; exact k4), .refl _ _⟩
  have t4 : Step X [] W s W2 s4 := (t2.trans st3).trans st4
  have e4 : s4.heap.get? acc = some (seqObj "list" [] 0) := k4 _ _ ea
  have sacc : s.heap.get? acc = none := none_of_ex t2.keep.ex hn2
  have hfacc : acc ∉ frameOf names cenv := fun hm => (frs acc hm).elim (fun h => nomatch ea.symm.trans (hpl acc h).2) fun h => (v2.off acc h).2.2.2.2.elim fun o e => nomatch e.symm.trans hn2
  have ao : AccOff X names cenv W2 acc := ⟨p2.mu_ne hn2, p2.z_none hn2, (p2.T_none hn2).1, (p2.T_none hn2).2, hfacc⟩
  have aa : AccAt W2 s4 acc [] := ⟨[], 0, e4, .nil⟩
  have haw : acc ∉ wr := fun m => (it2.there acc m).elim fun o e => nomatch e.symm.trans hn2
  have hfr : ∀ a ∈ frameOf names cenv, a ∉ wr := fun a ha m => (frs a ha).elim (fun h => (it2.there a m).elim fun o e => nomatch (k3 a o e).symm.trans (hpl a h).2) fun h => (hv.off a h).2.2.2.2.elim fun o e => nomatch e.symm.trans (it2.fresh a m)
  clear frs ea
  obtain ⟨B, hBody, hturn⟩ := comp_body (gens := ⟨.Name x px, iter, ifs, 0⟩ :: gs) (pos := pos) (acc := acc) hS hE' hA he pl (fun a ha => (hpl a ha).1) hpf rest gs hr 0 x px iter ifs rfl rfl
  have loop : ∀ R, (∀ W' s', Le W2 W' → Step X (acc :: pl) W s W' s' → Phi X W' H' s' → Vars X cenv names W' (mask vis 0 vs) s' → AccAt W' s' acc zs → AccOff X names cenv W' acc → R (.ok .next) s') → codeAny (model X.prog X.w) A (.compLoop (.ListComp elt (⟨.Name x px, iter, ifs, 0⟩ :: gs) scope pos) 0 itv (.ref acc) cenv) R s4 := by
    intro R hR
    refine comp_level hS hE' hA pl (fun a ha => (hpl a ha).1) hBody hx (hpf x hk).1 (hpf x hk).2 hT (hturn itv) hp (mask_clear vis 0 vs i (by simpa using hB.own)) (fun j hj => ?_) hP hV ao aa (by simpa using hlen) (t4.frames (by simp)) haw hfr (it2.ext fun b o e => k4 b o (k3 b o e)) (fun W' s' a b c d e f => hR W' s' a b c d (by simpa using e) f)
    obtain ⟨q, hq, rfl⟩ := List.mem_map.mp hj
    exact ⟨mask_clear vis 0 vs q.i (by simpa using (hB.others q hq).1), (hB.others q hq).2⟩
  have fin : codeAny (model X.prog X.w) A (.compLoop (.ListComp elt (⟨.Name x px, iter, ifs, 0⟩ :: gs) scope pos) 0 itv (.ref acc) cenv) (RR (.ref acc) cenv.locals) s4 := by
    refine loop _ fun W5 s5 g5 t5 p5 v5 a5 o5 => ?_
    clear loop hBody hturn hE' hV hpf aa ao t4 st4
    obtain ⟨us, k, e5, r5⟩ := a5
    obtain ⟨m, hm⟩ := v5.ns
    have hCs : s.heap.get? cenv.locals = none := none_of_ex (t2.trans st3).keep.ex (hpl _ hCpl).2
    have t5' : Step X [] W s W5 s5 := t5.frames fun b hb => .inr ((List.mem_cons.mp hb).elim (fun e => e ▸ sacc) fun hb => none_of_ex (t2.trans st3).keep.ex (hpl b hb).2)
    have offC := v5.off cenv.locals (.head _)
    have t6 : Step X [] W s (W5.frz acc (seqObj "list" us k)) s5 := ⟨t5'.keep, t5'.grow.freeze sacc o5.z⟩
    refine hRR acc cenv.locals m _ us k (W5.frz acc (seqObj "list" us k)) s5 rfl (r5.le (.frz o5.z)) (Wd.frz_self ..) t6 (p5.freeze e5 o5.z o5.mu o5.pt) (hv.keep t6 (by simp)) hm hCs offC.1 ?_ offC.2.2.2.1 offC.2.1 fun h => (hv.off _ h).2.2.2.2.elim fun o e => nomatch e.symm.trans hCs
    show (if _ = acc then _ else _) = _
    rw [if_neg fun e : cenv.locals = acc => hfacc (e ▸ .head _)]; exact offC.2.2.1
  have hCl : cenv.locals = s3.heap.objs.size := by rw [← hcenv]
  rw [hCl] at fin
  refine compStart_any rfl fin ?_
  obtain ⟨I, fp, P, St, rfl, Wk, st, _, _, _, _⟩ := it2
  exact Wk.self 0 s4 _ _ (Wk.frame _ _ _ st fun b _ o e => k4 b o (k3 b o e)) fin

theorem sim_comp {elt iter : Expr} {gs : List Comprehension} {scope : Scope} {pos : Pos} {p : XE} {vis : List Nat} {i : Nat} {c : Option XB} {rest : List Clause} {x : Str} {px : Pos} {ifs : List Expr} {it : XI} (hS : Slots names) (hB : BlockOk X sc scope names vis i rest)
    (hx : names[i]? = some x) (hk : AsgC scope x) (hI : SimI X n sc names it iter) (hT : SimT X n (relabelS scope sc) names c ifs) (hr : SimCl X n (relabelS scope sc) scope names rest gs) (he : SimE X n (relabelS scope sc) names p elt) (hs : ∀ env v, foldedSetIterable iter env v = pure v := by intros; rfl) :
    SimE X n sc names (xComp vis i it c rest p) (.ListComp elt (⟨.Name x px, iter, ifs, 0⟩ :: gs) scope pos) := by
  intro env A W s vs H d H' hE hA hp ph hv
  refine xCompI (P := fun d H' => wpS X A [] _ W s (Ans X d H')) (fun ds H1 zs H2 h0 h1 ok => ?_) hp
  clear hp
  obtain ⟨cl, hcl, _⟩ := closeL_ok hE scope.names [] hB.ok.free
  rw [List.append_nil] at hcl
  refine wpAny_comprehension_free (use := none) (cl := cl) rfl (hs env) (closureFor_eq hcl) hB.ok.kind (fun y hy hl => hl ▸ lookup_mem hB.ok.keys (a := y.2) (x := y.1) hy) ?_
  refine wpAny_mono (hI env A W s vs H ds H1 hE hA h0 ph hv) (fun xv s1 hx1 => wpAny_mono hx1 (fun itv s2 h2 => ?_) fun _ _ e => e.elim) fun _ _ e => e.elim
  obtain ⟨W2, wr, t2, p2, it2⟩ := h2
  refine comp_core hS hE hA hB hx hk hT hr he hcl h1 ok hv t2 p2 (hv.nil t2) it2 ?_
  intro a C m o us k W' s' eo r z t p' v' hm hCs hC1 hC2 hC3 hC4 hC5
  refine ⟨m, hm, fun h' hs' => ?_⟩
  have kk : ∀ b o, b ∉ [C] → s'.heap.get? b = some o → h'.get? b = some o := fun b o hb e => (hs'.2 b fun e => hb (e ▸ .head _)).trans e
  exact ⟨W', t.written (t := s'.toks) kk (fun b hb => List.mem_singleton.mp hb ▸ hCs), .lst (eo ▸ z) r, p'.written (t := s'.toks) kk fun b hb => List.mem_singleton.mp hb ▸ ⟨hC1, hC2, hC3, hC4⟩⟩
end
end Mine
open PySem PySem.W PyProof.Rows
namespace Mine

theorem bindL_other {k : Str → Option NameKind} {x : Str} : ∀ (l : List (Str × Value)) (m : Str → Option Value), x ∉ l.map (·.1) → bindL k l m x = m x
  | [], m, _ => rfl
  | (y, v) :: r, m, h => by
    rw [List.map_cons, List.mem_cons, not_or] at h
    unfold bindL
    rw [bindL_other r _ h.2]
    split
    · exact if_neg h.1
    · rfl
theorem bindC_other {k : Str → Option NameKind} {x : Str} : ∀ (l : List (Str × Value)) (m : Str → Option Value), x ∉ l.map (·.1) → bindC k l m x = m x
  | [], m, _ => rfl
  | (y, v) :: r, m, h => by
    rw [List.map_cons, List.mem_cons, not_or] at h
    unfold bindC
    rw [bindC_other r _ h.2]
    split
    · rfl
    · exact if_neg h.1
theorem zip_keys {x : Str} : ∀ (ps : List Str) (us : List Value), x ∉ ps → x ∉ (ps.zip us).map (·.1)
  | [], _, _ => by simp
  | _ :: _, [], _ => by simp
  | p :: ps, u :: us, h => by
    rw [List.mem_cons, not_or] at h
    rw [List.zip_cons_cons, List.map_cons, List.mem_cons, not_or]
    exact ⟨h.1, zip_keys ps us h.2⟩
theorem bindL_get {k : Str → Option NameKind} {x : Str} {v : Value} (hk : k x = some .local) : ∀ (ps : List Str) (us : List Value) (m : Str → Option Value) (i : Nat), ps.Nodup → ps[i]? = some x → us[i]? = some v → bindL k (ps.zip us) m x = some v
  | [], _, _, _, _, h, _ => by simp at h
  | _ :: _, [], _, _, _, _, h => by simp at h
  | p :: ps, u :: us, m, 0, hn, h1, h2 => by
    simp at h1 h2; subst h1 h2
    rw [List.zip_cons_cons]; unfold bindL
    rw [bindL_other _ _ (zip_keys ps us (List.nodup_cons.mp hn).1), if_pos hk]; simp
  | p :: ps, u :: us, m, i + 1, hn, h1, h2 => by
    rw [List.zip_cons_cons]; unfold bindL
    exact bindL_get hk ps us _ i (List.nodup_cons.mp hn).2 (by simpa using h1) (by simpa using h2)
theorem bindC_get {k : Str → Option NameKind} {x : Str} {v : Value} (hk : k x = some .cell) : ∀ (ps : List Str) (us : List Value) (m : Str → Option Value) (i : Nat), ps.Nodup → ps[i]? = some x → us[i]? = some v → bindC k (ps.zip us) m x = some v
  | [], _, _, _, _, h, _ => by simp at h
  | _ :: _, [], _, _, _, _, h => by simp at h
  | p :: ps, u :: us, m, 0, hn, h1, h2 => by
    simp at h1 h2; subst h1 h2
    rw [List.zip_cons_cons]; unfold bindC
    rw [bindC_other _ _ (zip_keys ps us (List.nodup_cons.mp hn).1), if_neg (by rw [hk]; decide)]; simp
  | p :: ps, u :: us, m, i + 1, hn, h1, h2 => by
    rw [List.zip_cons_cons]; unfold bindC
    exact bindC_get hk ps us _ i (List.nodup_cons.mp hn).2 (by simpa using h1) (by simpa using h2)

/-- a def of the top, with plain parameters -/
inductive FunAt (X : Cx) (a : Addr) (fd : FuncData) (sc : Scope) (body : List Stmt) (params : List Str) : Prop
  | mk (o : Obj) (c : Addr) (oc : Obj) (xs : Array Value) (t : Tok) : X.T.get? a = some o → a ≠ X.PT → o.data = .func fd → fd.body = .stmts body → fd.scope = sc → fd.globals = mainGlobals → fd.builtins = builtinsNs → fd.closure = [] →
    (∀ us : List Value, us.length = params.length → bindArgs fd ⟨us, []⟩ = pure (params.zip us)) →
    fd.code = .ref c → c ≠ X.PT → X.T.get? c = some oc → oc.data = .fields xs → xs[1]? = some (.str fd.qualname t) → FunAt X a fd sc body params

structure FnScope (sc : Scope) (names params : List Str) : Prop where
  kind : sc.kind = .function
  co : sc.isCoroutine = false
  gen : sc.isGenerator = false
  keys : ((cellsFrom 0 sc.names []).map (·.1)).Nodup
  nodup : params.Nodup
  pre : params <+: names
  asg : ∀ x ∈ params, Asg sc x

noncomputable def vars0 (ds : List D) (m : Nat) : Vs := ds.map some ++ List.replicate (m - ds.length) none
noncomputable def xFun (p : XS) (k m : Nat) (ds : List D) (H : Hp) : Option (D × Hp) := if ds.length = k then (p (vars0 ds m) H).bind fun a => match a.1 with
  | .ret d => some (d, a.2.2)
  | .next => some (.none, a.2.2)
  | _ => none
  else none

/-- as Grow, and places of the frame may be sealed too -/
structure GrowF (F : List Addr) (s : Shared) (W W' : Wd) : Prop where
  z : ∀ a o, W.Z a = some o → W'.Z a = some o
  zf : ∀ a o, W'.Z a = some o → W.Z a = some o ∨ s.heap.get? a = none ∨ a ∈ W.mu ∨ a ∈ F
  mu : ∃ nu, W'.mu = W.mu ++ nu ∧ ∀ a ∈ nu, s.heap.get? a = none
theorem Grow.toF {F : List Addr} {s : Shared} {W W' : Wd} (g : Grow s W W') : GrowF F s W W' := ⟨g.z, fun a o e => (g.zf a o e).imp_right (·.imp_right .inl), g.mu⟩
theorem GrowF.after {F : List Addr} {s s' : Shared} {W W' W'' : Wd} (g : Grow s W W') (g' : GrowF F s' W' W'') (hs : ∀ a o, s.heap.get? a = some o → ∃ o', s'.heap.get? a = some o') : GrowF F s W W'' := by
  refine ⟨fun a o e => g'.z a o (g.z a o e), fun a o e => ?_, ?_⟩
  · rcases g'.zf a o e with h | h | h | h
    · exact (g.zf a o h).imp_right (·.imp_right .inl)
    · exact .inr (.inl (none_of_ex hs h))
    · obtain ⟨nu, h1, h2⟩ := g.mu
      rw [h1] at h
      rcases List.mem_append.mp h with h | h
      · exact .inr (.inr (.inl h))
      · exact .inr (.inl (h2 a h))
    · exact .inr (.inr (.inr h))
  · obtain ⟨nu, h1, h2⟩ := g.mu
    obtain ⟨nu', h1', h2'⟩ := g'.mu
    refine ⟨nu ++ nu', by rw [h1', h1, List.append_assoc], fun a ha => ?_⟩
    rcases List.mem_append.mp ha with h | h
    · exact h2 a h
    · exact none_of_ex hs (h2' a h)
inductive AfterF (X : Cx) (F : List Addr) (W : Wd) (s : Shared) (r : Fl) (H : Hp) (f : Flow) (s' : Shared) : Prop
  | mk (W' : Wd) : Keep (Mut X F W) s s' → GrowF F s W W' → FlR W' r f → Phi X W' H s' → AfterF X F W s r H f s'
/-- a body whose frame is told of no more -/
noncomputable def SimF (X : Cx) (n : Nat) (sc : Scope) (names : List Str) (Pe : Env → Prop) (p : XS) (sts : List Stmt) : Prop :=
  ∀ (env : Env) (A : Around) (W : Wd) (s : Shared) (vs : Vs) (H : Hp) (r : Fl) (vs' : Vs) (H' : Hp), EnvOk sc env → Pe env → Calm n A → p vs H = some (r, vs', H') → Phi X W H s → Vars X env names W vs s →
    wpAny (model X.prog X.w) A (execs sts env) (AfterF X (frameOf names env) W s r H') (fun _ _ => False) s
/-- what a call's frame knows of its function -/
noncomputable def EnvFd (fd : FuncData) (env : Env) : Prop := env.code = fd.code ∧ env.qual = fd.qualname ++ ".<locals>."

section
variable {X : Cx} {n : Nat} {sc : Scope} {names : List Str} {A : Around} {W : Wd} {s : Shared} {H : Hp}

theorem SimSs.toF {p : XS} {sts : List Stmt} {Pe : Env → Prop} (h : SimSs X n sc names p sts) : SimF X n sc names Pe p sts :=
  fun env A W s vs H r vs' H' hE _ hA hp ph hv => wpS_then (h env A W s vs H r vs' H' hE hA hp ph hv) fun f W' s' t ⟨a, b, _⟩ => ⟨W', t.keep, t.grow.toF, a, b⟩
theorem simf_cons {p q : XS} {st : Stmt} {rest : List Stmt} {Pe : Env → Prop} (h1 : SimS X n sc names p st) (h2 : SimF X n sc names Pe q rest) : SimF X n sc names Pe (xSeq p q) (st :: rest) := by
  intro env A W s vs H r vs' H' hE hPe hA hp ph hv
  revert hp
  refine bindI3 fun f0 vs1 H1 h0 hp => wpAny_execs_cons (wpS_then (h1 env A W s vs H f0 vs1 H1 hE hA h0 ph hv) fun f W1 s1 t1 a1 => ?_)
  clear h0 ph hv
  cases a1 with
  | mk r1 p1 v1 =>
    induction r1 with
    | next' => exact wpAny_mono (h2 env A W1 s1 vs1 H1 r vs' H' hE hPe hA hp p1 v1) (fun f s2 ⟨W2, k2, g2, q, q2⟩ => ⟨W2, t1.keep.trans k2 (mut_grow t1.grow), .after t1.grow g2 t1.keep.ex, q, q2⟩) fun _ _ e => e
    | brk' => exact some3I (P := fun r vs' H' => AfterF X _ W s r H' _ s1) ⟨W1, t1.keep, t1.grow.toF, .brk', p1⟩ hp
    | cont' => exact some3I (P := fun r vs' H' => AfterF X _ W s r H' _ s1) ⟨W1, t1.keep, t1.grow.toF, .cont', p1⟩ hp
    | ret' rv => exact some3I (P := fun r vs' H' => AfterF X _ W s r H' _ s1) ⟨W1, t1.keep, t1.grow.toF, .ret' rv, p1⟩ hp

theorem fun_core {a : Addr} {body : List Stmt} {params : List Str} {p : XS} {ds : List D} {us : List Value} {d : D} {H' : Hp} {R : Result → Shared → Prop} (T : TopOk X) {fd : FuncData} (F : FunAt X a fd sc body params) (hS : FnScope sc names params) (h : SimF X n sc names (EnvFd fd) p body) (hA : Calm (n + 1) A)
    (hp : xFun p params.length names.length ds H = some (d, H')) (r : RVs W ds us) (ph : Phi X W H s) (hR : ∀ v W' s', Step X [] W s W' s' → RV W' d v → Phi X W' H' s' → R (.ok (.ret v)) s') : codeAny (model X.prog X.w) A (.call (.ref a) ⟨us, []⟩) R s := by
  obtain ⟨o, c, oc, xs, t, ho, ha, hd, hbody, rfl, hg, hb, hclo, hbind, hcode, hc, hoc, hdc, hq⟩ := F
  unfold xFun at hp
  split at hp
  case isFalse => cases hp
  rename_i hlen
  revert hp
  refine bindI3 fun fl vs' H1 h0 hp => ?_
  have ulen : us.length = params.length := by rw [← r.length, hlen]
  have hcellKey : ∀ m x, fd.scope.names.lookup x = some .cell → ((cellsFrom m fd.scope.names []).lookup x).isSome = true := fun m x hx => by
    have hm := cellsFrom_some m fd.scope.names x (mem_of_lookup hx)
    obtain ⟨⟨y, c⟩, hm', e⟩ := List.mem_map.mp hm
    rw [lookup_of_mem_nodup (cellsFrom_names fd.scope.names 0 m [] [] rfl ▸ hS.keys) (show (x, c) ∈ _ from e ▸ hm')]; rfl
  refine codeAny_call_cells (binds := params.zip us) hA.room (ph.top a o ho ha) hd (ph.limit T) ⟨c, oc, xs, t, hcode, ph.top c oc hoc hc, hdc, hq⟩ hbody (hbind us ulen) hclo (fun x hx => ?_) (fun s₁ x => ?_) hS.co hS.gen hS.kind
  · have hx1 : x.1 ∈ params := (List.of_mem_zip (a := x.1) (b := x.2) hx).1
    rcases hS.asg x.1 hx1 with q | q
    · exact .inl q
    · exact .inr ⟨q, hcellKey _ _ q⟩
  generalize henv : callEnvC fd s.heap.objs.size a = env at x
  have hsc : env.scope = fd.scope := by rw [← henv]; rfl
  have hloc : env.locals = s.heap.objs.size := by rw [← henv]; rfl
  have hcells : env.cells = cellsFrom (s.heap.objs.size + 1) fd.scope.names [] := by rw [← henv]; rfl
  have hE : EnvOk fd.scope env := ⟨hsc, hS.kind, by rw [← henv]; exact hg, by rw [← henv]; exact hb, fun x hx => by rw [hcells]; exact hcellKey _ x hx⟩
  have look : ∀ y c, (y, c) ∈ env.cells → env.cells.lookup y = some c := fun y c hm => by
    rw [hcells] at hm ⊢
    exact lookup_of_mem_nodup (cellsFrom_names fd.scope.names 0 _ [] [] rfl ▸ hS.keys) hm
  have keep := x.toInCall.keep
  have p1 : Phi X W H s₁ := ph.ext keep
  have fresh : ∀ b ∈ frameOf names env, s.heap.get? b = none := fun b hb => by
    cases e : s.heap.get? b with
    | none => rfl
    | some q =>
      have hlt := Heap.lt_size e
      rcases of_frame hb with rfl | ⟨y, hm, _⟩
      · rw [hloc] at hlt; exact absurd hlt (Nat.lt_irrefl _)
      · have := x.above y b hm
        rw [hloc] at this; exact absurd hlt (Nat.lt_asymm this)
  have v1 : Vars X env names W (vars0 ds names.length) s₁ := by
    refine ⟨fun i y e hy he => ?_, fun b hb => ?_, ⟨_, x.toInCall.ns⟩, fun y c hm hy => ⟨_, x.cell y c (look y c hm)⟩, x.apart, fun y c hm => Nat.ne_of_gt (x.above y c hm)⟩
    · have hi : i < ds.length := by
        refine Nat.lt_of_not_le fun hle => ?_
        unfold vars0 at he
        rw [List.getElem?_append_right (by simpa using hle)] at he
        rw [List.getElem?_replicate] at he
        split at he <;> cases he
      have hdi : ds[i]? = some e := by
        unfold vars0 at he
        rw [List.getElem?_append_left (by simpa using hi), List.getElem?_map] at he
        rw [List.getElem?_eq_getElem hi] at he ⊢
        simpa using he
      obtain ⟨u, hu, ru⟩ := r.get hdi
      refine ⟨u, ?_, ru⟩
      obtain ⟨rest, hrest⟩ := hS.pre
      have hpi : params[i]? = some y := by
        rw [← hrest, List.getElem?_append_left (by omega)] at hy; exact hy
      have hk : env.kindOf y = fd.scope.names.lookup y := by show env.scope.names.lookup y = _; rw [hsc]
      rcases hS.asg y (List.mem_of_getElem? hpi) with q | q
      · exact .inl ⟨hk.trans q, _, x.toInCall.ns, bindL_get (hk.trans q) params us _ i hS.nodup hpi hu⟩
      · obtain ⟨cc, hcc⟩ := Option.isSome_iff_exists.mp (hcellKey (s.heap.objs.size + 1) y q)
        rw [← hcells] at hcc
        refine .inr ⟨.inl (hk.trans q), cc, hcc, ?_⟩
        have := x.cell y cc hcc
        rw [bindC_get (hk.trans q) params us _ i hS.nodup hpi hu] at this
        exact this
    · have hn := fresh b hb
      refine ⟨ph.mu_ne hn, (ph.T_none hn).2, ph.z_none hn, (ph.T_none hn).1, ?_⟩
      rcases of_frame hb with rfl | ⟨y, hm, _⟩
      · obtain ⟨o, _, _, e, _⟩ := x.toInCall.ns; exact ⟨o, e⟩
      · obtain ⟨o, e, _⟩ := x.cell y b (look y b hm); exact ⟨o, e⟩
  have t1 : Step X [] W s W s₁ := by
    obtain ⟨h', tk, e, k⟩ := x.done
    rw [e]; exact ⟨.ext k, .refl _ _⟩
  refine wpAny_mono (h env (A.deeper env) W s₁ _ H fl vs' H1 hE ⟨by rw [← henv]; rfl, by rw [← henv]; rfl⟩ (hA.deeper env) h0 p1 v1) (fun f s2 q2 => ?_) fun _ _ e => e.elim
  obtain ⟨W2, k2, g2, r2, p2⟩ := q2
  clear h0 hcellKey look v1 p1 hE hcells ulen r
  have g2' : Grow s W W2 := by
    have := GrowF.after t1.grow g2 t1.keep.ex
    refine ⟨this.z, fun a o e => ?_, this.mu⟩
    rcases this.zf a o e with q | q | q | q
    · exact .inl q
    · exact .inr (.inl q)
    · exact .inr (.inr q)
    · exact .inr (.inl (fresh a q))
  have t2' : Step X [] W s W2 s2 := ⟨⟨fun b q e nm => k2.obj b q (keep b q e) ?_, fun b q e => k2.ex b q (keep b q e), k2.gens.trans t1.keep.gens, k2.drawn.trans t1.keep.drawn, k2.os.trans t1.keep.os⟩, g2'⟩
  · induction r2 with
    | next' => exact some2I (P := fun d H' => (∀ v W' s', Step X [] W s W' s' → RV W' d v → Phi X W' H' s' → R (.ok (.ret v)) s') → _) (fun hR => hR _ W2 s2 t2' .none p2) hp hR
    | ret' rv => exact some2I (P := fun d H' => (∀ v W' s', Step X [] W s W' s' → RV W' d v → Phi X W' H' s' → R (.ok (.ret v)) s') → _) (fun hR => hR _ W2 s2 t2' rv p2) hp hR
    | brk' => exact noneI hp
    | cont' => exact noneI hp
  · rintro (m | m | m)
    · rw [fresh b m] at e; cases e
    · exact nm (.inr (.inl m))
    · exact nm (.inr (.inr m))

theorem ct_def {a : Addr} {body : List Stmt} {params : List Str} {p : XS} (T : TopOk X) {fd : FuncData} (F : FunAt X a fd sc body params) (hS : FnScope sc names params) (h : SimF X n sc names (EnvFd fd) p body) : Ct X (n + 1) (.ref a) (xFun p params.length names.length) := by
  intro A W s H ds us d H' hA hp r ph
  exact wpAny_call (fun_core T F hS h hA hp r ph fun v W' s' t rv p' => ⟨W', t, rv, p'⟩)
end
end Mine
open PySem PySem.W PyProof.Rows
namespace Mine

/-- a value that a call may name -/
noncomputable def Cal (X : Cx) (W : Wd) (f : Value) : Prop := ∀ W' H' s', Le W W' → Phi X W' H' s' → ∃ k, (k = Keeper.frame ∨ k = Keeper.machine ∨ k = Keeper.boundFrame) ∧ Looks (model X.prog X.w) s'.heap (keeperOf f) k

theorem Cal.builtin {X : Cx} {W : Wd} {id : String} : Cal X W (.builtin id) := fun _ _ _ _ _ => ⟨.machine, .inr (.inl rfl), Looks.of_pure rfl⟩
theorem Cal.type {X : Cx} {W : Wd} {T : String} : Cal X W (.type T) := fun _ _ _ _ _ => ⟨.machine, .inr (.inl rfl), Looks.of_pure rfl⟩
theorem Cal.func {X : Cx} {W : Wd} {a : Addr} {o : Obj} {fd : FuncData} (ho : X.T.get? a = some o) (ha : a ≠ X.PT) (hd : o.data = .func fd) : Cal X W (.ref a) := fun W' H' s' l p =>
  ⟨.frame, .inl rfl, (Looks.ld (part := none) (p.top a o ho ha)).andThen (by rw [hd]; exact .now)⟩
theorem FunAt.cal {X : Cx} {W : Wd} {a : Addr} {fd : FuncData} {sc : Scope} {body : List Stmt} {params : List Str} (F : FunAt X a fd sc body params) : Cal X W (.ref a) := by
  obtain ⟨o, c, oc, xs, t, ho, ha, hd, _, _, _, _, _, _, _, _, _, _, _⟩ := F
  exact Cal.func ho ha hd

section
variable {X : Cx} {n : Nat} {sc : Scope} {names : List Str} {A : Around} {W : Wd} {s : Shared} {H : Hp}

theorem callWith_all {M : Model} {E : Value → Shared → Prop} {f : Value} {first : List Value} {ps : List XE} {es : List Expr} {env : Env} {pos : Pos} {Q : Value → Shared → Prop} {P : Heap → Prop} (h : SimAll X n sc names ps es)
    (hk : ∀ h, P h → ∃ k, (k = Keeper.frame ∨ k = Keeper.machine ∨ k = Keeper.boundFrame) ∧ Looks M h (keeperOf f) k)
    (hq : wpAny M A (spliced (backTo pos (starEach es env))) (fun vs s' => P s'.heap ∧ wpAny M A (call f (first ++ vs)) Q E s') E s) : wpAny M A (callWith pos f first (backTo pos (starEach es env)) []) Q E s :=
  callWith_of (P := P) (by rw [h.plain env pos]; rfl) hk (evalArgs_all h hq)

theorem sim_callG {x : Str} {px pos : Pos} {v : Value} {G : List D → Hp → Option (D × Hp)} {ps : List XE} {es : List Expr} (hn : SimE X n sc names (xLit (.val v)) (.Name x px)) (h : SimAll X n sc names ps es) (hc : Ct X n v G)
    (hk : ∀ W, Cal X W v) : SimE X n sc names (xCall G ps) (.Call (.Name x px) es [] pos) := by
  intro env A W s vs H d H' hE hA hp ph hv
  unfold xCall at hp
  cases h1 : xAll ps vs H with
  | none => rw [h1] at hp; cases hp
  | some a =>
    rw [h1, Option.bind_some] at hp
    show wpS X A [] (eval (.Name x px) env >>= fun f => callWith pos f [] (backTo pos (starEach es env)) []) W s _
    refine wpS_bind (wpS_mono (hn env A W s vs H _ H hE hA rfl ph hv) fun f W1 s1 t1 ⟨r1, p1⟩ => ?_)
    have hv1 := hv.nil t1
    cases r1
    refine callWith_all (P := fun h => ∃ W' H' s', Le W1 W' ∧ Phi X W' H' s' ∧ s'.heap = h) h (fun h ⟨W', H', s', l, p', e⟩ => by subst e; exact hk W1 W' H' s' l p') ?_
    refine wpS_ans (h.items hE hA h1 p1 hv1) fun us W2 s2 t2 r2 p2 => ⟨⟨W2, _, s2, t2.grow.le, p2, rfl⟩, ?_⟩
    refine wpS_then (hc A W2 s2 a.2 a.1 us d H' hA hp r2 p2) fun r W3 s3 t3 q => ⟨W3, t2.trans t3, q⟩

/-- a method by its name -/
noncomputable def Mt (X : Cx) (n : Nat) (name : Str) (ok : D → Hp → Bool) (G : D → List D → Hp → Option (D × Hp)) : Prop :=
  ∀ (A : Around) (W : Wd) (s : Shared) (H : Hp) (o : D) (ov : Value) (pl : Sem Bool), Calm n A → ok o H = true → RV W o ov → Phi X W H s →
    wpAny (model X.prog X.w) A (getMethod ov name pl) (fun fx s1 => ∃ W1, Step X [] W s W1 s1 ∧ Phi X W1 H s1 ∧ Cal X W1 fx.1 ∧
      ∀ (A' : Around) (W' : Wd) (s' : Shared) (H' : Hp) (ds : List D) (us : List Value) (d : D) (H'' : Hp), Le W1 W' → Calm n A' → G o ds H' = some (d, H'') → RVs W' ds us → Phi X W' H' s' →
        wpS X A' [] (call fx.1 (fx.2 ++ us)) W' s' (Ans X d H'')) (fun _ _ => False) s

noncomputable def xMeth (ok : D → Hp → Bool) (G : D → List D → Hp → Option (D × Hp)) (p : XE) (ps : List XE) : XE := fun vs H => (p vs H).bind fun a => if ok a.1 a.2 then (xAll ps vs a.2).bind fun b => G a.1 b.1 b.2 else none

theorem sim_meth {name : Str} {o : Expr} {apos pos : Pos} {ok : D → Hp → Bool} {G : D → List D → Hp → Option (D × Hp)} {p : XE} {ps : List XE} {es : List Expr} {pl : Env → Sem Bool} (hn : SimE X n sc names p o) (h : SimAll X n sc names ps es) (hm : Mt X n name ok G)
    (he : ∀ env, eval (.Call (.Attribute o name apos) es [] pos) env = (do
      let ov ← eval o env
      standAt apos.atName
      let (f, first) ← holding [ov] (getMethod ov name (pl env))
      callWith pos f first (backTo pos (starEach es env)) (backToKw pos (keywordEach [] env))) := by intros; rfl) : SimE X n sc names (xMeth ok G p ps) (.Call (.Attribute o name apos) es [] pos) := by
  intro env A W s vs H d H' hE hA hp ph hv
  unfold xMeth at hp
  cases h0 : p vs H with
  | none => rw [h0] at hp; cases hp
  | some a =>
    rw [h0, Option.bind_some] at hp
    split at hp
    case isFalse => cases hp
    rename_i hok
    cases h1 : xAll ps vs a.2 with
    | none => rw [h1] at hp; cases hp
    | some b =>
      rw [h1, Option.bind_some] at hp
      refine methodCall_KW (pl := pl env) ?_ (he env)
      refine wpS_ans (hn env A W s vs H a.1 a.2 hE hA h0 ph hv) fun ov W1 s1 t1 r1 p1 => ?_
      refine wpAny_mono (hm A W1 s1 a.2 a.1 ov (pl env) hA hok r1 p1) (fun fx s2 ⟨W2, t2, p2, hc, hcall⟩ => ?_) fun _ _ e => e.elim
      refine callWith_all (P := fun h => ∃ W' H' s', Le W2 W' ∧ Phi X W' H' s' ∧ s'.heap = h) h (fun h ⟨W', H', s', l, p', e⟩ => by subst e; exact hc W' H' s' l p') ?_
      have t12 := t1.trans t2
      refine wpS_ans (h.items hE hA h1 p2 (hv.nil t12)) fun us W3 s3 t3 r3 p3 => ⟨⟨W3, _, s3, t3.grow.le, p3, rfl⟩, ?_⟩
      refine wpS_then (hcall A W3 s3 b.2 b.1 us d H' t3.grow.le hA hp r3 p3) fun r W4 s4 t4 q => ⟨W4, (t12.trans t3).trans t4, q⟩
end
end Mine
open PySem PySem.W PyProof.Rows
namespace Mine

theorem lookIn_of {h : Heap} {d : Addr} {g : Str → Option Value} {od : Obj} (x : h.Ns1 d g) (e : h.get? d = some od) (name : Str) : lookIn name od = some (g name) := by
  obtain ⟨o, es, ep, e', hd, hk, hu, hm⟩ := x
  rw [e] at e'; cases e'
  unfold lookIn
  rw [hd]
  have hr : es.toList.any (·.refKey) = false := by
    rw [Array.any_toList, Array.any_eq_false']; intro e he; obtain ⟨n, t, h⟩ := hk e he; simp [DictEntry.refKey, h]
  have hf := hm name
  unfold nsFind findBy at hf
  rw [← Array.find?_toList] at hf
  dsimp only
  cases q : es.toList.find? fun e => e.key.isStr name with
  | some en => rw [q] at hf; rw [← hf]; rfl
  | none => rw [q] at hf; rw [← hf]; simp only [hr, Bool.false_eq_true, if_false]; rfl

/-- the objects of the top that a lookup meets -/
noncomputable def Kn (X : Cx) (K : Frag) : Prop := ∀ a o, K.lookup a = some o → X.T.get? a = some o ∧ a ≠ X.PT
theorem Kn.in {X : Cx} {K : Frag} {W : Wd} {H : Hp} {s : Shared} (k : Kn X K) (p : Phi X W H s) : K.In s.heap := fun a o e => p.top a o (k a o e).1 (k a o e).2

/-- a plain class of the top -/
structure ClsOk (X : Cx) (K : Frag) (C : Addr) (ns : List Str) : Prop where
  kn : Kn X K
  ga : findIn K (.ref C) "__getattribute__" = some (some (.builtin "object.__getattribute__"))
  gt : findIn K (.ref C) "__getattr__" = some none
  sa : findIn K (.ref C) "__setattr__" = some (some (.builtin "object.__setattr__"))
  over : plainOver K C = true
  hasD : (clsIn K C).any (·.hasDict) = true
  free : ∀ y ∈ ns, findIn K (.ref C) y = some none
  short : ns.length ≤ 1000

noncomputable def okHand : D → Bool
  | .val v => handedIn v
  | _ => true
theorem okHand_of {W : Wd} {d : D} {v : Value} (h : okHand d = true) (r : RV W d v) : handedIn v = true := by
  induction r using RV.rec (motive_2 := fun _ _ _ => True) with
  | val v => exact h
  | nil => trivial
  | cons => trivial
  | _ => rfl

section
variable {X : Cx} {n : Nat} {sc : Scope} {names : List Str} {A : Around} {W : Wd} {s : Shared} {H : Hp} {K : Frag} {C : Addr} {ns : List Str}

theorem inst_at (p : Phi X W H s) {k kd : Nat} {a : Addr} {f : Str → Option D} (hk : H[k]? = some (.inst C kd)) (hkd : H[kd]? = some (.attrs ns f)) (ha : W.mu[k]? = some a) :
    ∃ d od g, W.mu[kd]? = some d ∧ d ≠ a ∧ s.heap.get? d = some od ∧ InstAt s.heap a (instObj C d) C (some od) ∧ s.heap.Ns1 d g ∧ PySem.Within g ns ∧ ∀ y, ROpt W (f y) (g y) := by
  obtain ⟨d, hd, hne, ho⟩ := p.own k _ a hk ha
  obtain ⟨g, h1, h2, h3⟩ := p.own kd _ d hkd hd
  obtain ⟨od, _, _, e, _⟩ := id h1
  exact ⟨d, od, g, hd, hne, e, ⟨ho, rfl, rfl, e⟩, h1, h2, h3⟩

theorem findObj_of {od : Obj} {name : Str} {v : Value} (ok : ClsOk X K C ns) (hn : name ∈ ns) (hl : lookIn name od = some (some v)) : findObj K C (some od) name = some (.value v) := by
  obtain ⟨cd, hc, hd⟩ := any_some ok.hasD
  unfold findObj
  rw [hc, ok.free name hn]
  simp only [Option.bind_some]
  unfold PySem.W.ownOf
  rw [hd]
  simp only [if_true]
  rw [hl]; rfl

/-- read a field of an object -/
noncomputable def gAttr (C : Addr) (ns : List Str) (name : Str) (o : D) (H : Hp) : Option D := match o with
  | .own k => match H[k]? with
    | some (.inst C' kd) => match H[kd]? with
      | some (.attrs ns' f) => if C' = C ∧ ns' = ns ∧ name ∈ ns then (f name).bind fun d => if okHand d then some d else none else none
      | _ => none
    | _ => none
  | _ => none
theorem iteI {α : Type} {c : Prop} [Decidable c] {o : Option α} {r : α} {P : Prop} (k : c → o = some r → P) (h : (if c then o else none) = some r) : P := by
  split at h
  · exact k ‹_› h
  · exact noneI h
theorem instI {β : Type} {k : Nat} {F : Addr → Nat → List Str → (Str → Option D) → Option β} {r : β} {P : Prop} (q : ∀ C' kd ns' f, H[k]? = some (.inst C' kd) → H[kd]? = some (.attrs ns' f) → F C' kd ns' f = some r → P)
    (h : (match H[k]? with | some (.inst C' kd) => (match H[kd]? with | some (.attrs ns' f) => F C' kd ns' f | _ => none) | _ => none) = some r) : P := by
  generalize hk : H[k]? = co at h
  rcases co with _ | co
  · exact noneI h
  · cases co with
    | inst C' kd =>
      dsimp only at h
      generalize hd : H[kd]? = cd at h
      rcases cd with _ | cd
      · exact noneI h
      · cases cd with
        | attrs ns' f => exact q C' kd ns' f hk hd h
        | _ => exact noneI h
    | _ => exact noneI h
theorem gAttrI {name : Str} {o d : D} {P : D → Prop} (q : ∀ k kd f, H[k]? = some (.inst C kd) → H[kd]? = some (.attrs ns f) → name ∈ ns → f name = some d → okHand d = true → P (.own k)) (h : gAttr C ns name o H = some d) : P o := by
  cases o with
  | own k => exact instI (F := fun C' kd ns' f => if C' = C ∧ ns' = ns ∧ name ∈ ns then (f name).bind fun d => if okHand d then some d else none else none) (fun C' kd ns' f hk hkd h => iteI (fun (hc : C' = C ∧ ns' = ns ∧ name ∈ ns) => bindI fun d' hf h => iteI (fun ho e => q k kd f (hc.1 ▸ hk) (hc.2.1 ▸ hkd) hc.2.2 (hf.trans e) (Option.some.inj e ▸ ho)) h) h) h
  | _ => exact noneI h

theorem get_attr (ok : ClsOk X K C ns) {name : Str} {o d : D} {ov : Value} {expr : Bool} (h : gAttr C ns name o H = some d) (r : RV W o ov) (p : Phi X W H s) {Q : Value → Shared → Prop} {E : Value → Shared → Prop}
    (hQ : ∀ v, RV W d v → Q v { s with toks := s.toks + 1 }) : wpAny (model X.prog X.w) A (getAttr ov name expr) Q E s := by
  refine gAttrI (P := fun o => RV W o ov → _) (fun k kd f hk hkd hn hf hh r => ?_) h r
  obtain ⟨a, rfl, ha⟩ := r.inv
  obtain ⟨dd, od, g, hd, hne, e, I, N, _, R⟩ := inst_at p hk hkd ha
  have hr := R name
  rw [hf] at hr
  cases q : g name with
  | none => rw [q] at hr; exact hr.elim
  | some v =>
    rw [q] at hr
    exact get_value (ok.kn.in p) I ok.ga (findObj_of ok hn (by rw [lookIn_of N e, q])) (okHand_of hh hr) (hQ v hr)

noncomputable def xAttr (C : Addr) (ns : List Str) (name : Str) (p : XE) : XE := fun vs H => (p vs H).bind fun a => (gAttr C ns name a.1 a.2).map fun d => (d, a.2)
theorem sim_attr (ok : ClsOk X K C ns) {name : Str} {o : Expr} {pos : Pos} {p : XE} (hn : SimE X n sc names p o) (hb : ∀ env w, attributeBase o name env w = w := by intros; rfl) : SimE X n sc names (xAttr C ns name p) (.Attribute o name pos) := by
  intro env A W s vs H d H' hE hA hp ph hv
  refine bindI (fun a h0 => mapI (P := fun x : D × Hp => wpS X A [] _ W s (Ans X x.1 x.2)) fun d' h1 => ?_) hp
  show wpS X A [] (attributeBase o name env (eval o env) >>= fun ov => standAt pos.atName >>= fun _ => holding [ov] (getAttr ov name true) >>= fun r => letTemporaryGo o ov r >>= fun _ => pure r) W s _
  rw [hb]
  refine wpAny_bind (wpS_ans (hn env A W s vs H a.1 a.2 hE hA h0 ph hv) fun ov W1 s1 t1 r1 p1 => wpAny_bind (wpAny_standAt (wpAny_bind (wpAny_holding (get_attr ok h1 r1 p1 fun v rv => ?_)))))
  exact wpAny_bind (wpAny_letTemporaryGo (wpAny_pure ⟨W1, t1.trans (.tok _), rv, p1.tok _⟩))

/-- o.x = v -/
noncomputable def gSet (C : Addr) (ns : List Str) (name : Str) (o d : D) (H : Hp) : Option Hp := match o with
  | .own k => match H[k]? with
    | some (.inst C' kd) => match H[kd]? with
      | some (.attrs ns' f) => if C' = C ∧ ns' = ns ∧ name ∈ ns then some (H.set kd (.attrs ns fun y => if y = name then some d else f y)) else none
      | _ => none
    | _ => none
  | _ => none
theorem gSetO {name : Str} {o d : D} {H' : Hp} {P : D → Hp → Prop} (q : ∀ k kd f, H[k]? = some (.inst C kd) → H[kd]? = some (.attrs ns f) → name ∈ ns → P (.own k) (H.set kd (.attrs ns fun y => if y = name then some d else f y))) (h : gSet C ns name o d H = some H') : P o H' := by
  cases o with
  | own k => exact instI (F := fun C' kd ns' f => if C' = C ∧ ns' = ns ∧ name ∈ ns then some (H.set kd (.attrs ns fun y => if y = name then some d else f y)) else none) (fun C' kd ns' f hk hkd h => ifI (fun (hc : C' = C ∧ ns' = ns ∧ name ∈ ns) => q k kd f (hc.1 ▸ hk) (hc.2.1 ▸ hkd) hc.2.2) h) h
  | _ => exact noneI h

theorem set_attr (ok : ClsOk X K C ns) {name : Str} {o d : D} {ov v : Value} {H' : Hp} (h : gSet C ns name o d H = some H') (r : RV W o ov) (rv : RV W d v) (p : Phi X W H s) {Q : Unit → Shared → Prop} {E : Value → Shared → Prop}
    (hQ : ∀ s', Step X [] W s W s' → Phi X W H' s' → Q () s') : wpAny (model X.prog X.w) A (setAttr ov name v) Q E s := by
  refine gSetO (P := fun o H' => RV W o ov → (∀ s', Step X [] W s W s' → Phi X W H' s' → Q () s') → _) (fun k kd f hk hkd hn r hQ => ?_) h r hQ
  obtain ⟨a, rfl, ha⟩ := r.inv
  clear r
  obtain ⟨dd, od, g, hd, hne, e, I, N, hw, R⟩ := inst_at p hk hkd ha
  have X1 := ok.kn.in p
  obtain ⟨cd, hc, hdict⟩ := any_some ok.hasD
  refine set_plain X1 I ok.sa (osa_open (s := { s with toks := s.toks + 1 }) X1 I ok.over (r := none) (by unfold takerIn; rw [ok.free name hn]; rfl) fun b => ?_)
  obtain ⟨hx, _, _, _⟩ := I
  refine wpAny_bind (wpAny_pure (wpAny_bind (wpAny_bind (wpAny_loadPart hx (wpAny_bind (looks_clsIn X1 hc _ _ _ _ (fun _ _ e => e) ?_))))))
  rw [hdict]
  refine wpAny_pure (a := some dd) (wpAny_bind (wpAny_pure (wpAny_bind (wpAny_nsSet1 (s := { s with toks := s.toks + 1 }) N fun h' hn' hs => ?_))))
  have hw' : PySem.Within (fun y => if y = name then some v else g y) ns := fun y hy => if q : y = name then q ▸ hn else hw y (by simpa [q] using hy)
  obtain ⟨oD, esD, epD, hoD, hdD, hcD⟩ := hn'.count hw'
  refine wpAny_bind (wpAny_lookBehind hoD (by rw [hdD]; exact pastItsLine_dict (Nat.le_trans hcD (by rw [sizeLine_eq]; have := ok.short; omega))) (wpAny_pure ?_))
  have hz := p.apart kd _ dd hkd hd (by intro q; cases q)
  have hm : dd ∈ W.mu := List.mem_of_getElem? hd
  have hs' : ∀ b o, b ≠ dd → s.heap.get? b = some o → h'.get? b = some o := fun b o hb q => (hs.2 b hb).trans q
  refine hQ _ ⟨⟨fun b o q nm => hs' b o (fun q => nm (.inr (.inl ⟨q ▸ hm, q ▸ hz⟩))) q, fun b o q => ?_, rfl, rfl, rfl⟩, .refl _ _⟩ (p.setOwn hd hz hs' ⟨_, hn', hw', fun y => ?_⟩)
  · exact if z : b = dd then ⟨oD, z ▸ hoD⟩ else ⟨o, hs' b o z q⟩
  · dsimp only
    by_cases q : y = name
    · rw [if_pos q, if_pos q]; exact rv
    · rw [if_neg q, if_neg q]; exact R y
end
end Mine
open PySem PySem.W PyProof.Rows
namespace Mine
section
variable {X : Cx} {n : Nat} {sc : Scope} {names : List Str} {A : Around} {W : Wd} {s : Shared} {H : Hp} {K : Frag} {C : Addr} {ns : List Str}

/-- o.name = value -/
noncomputable def xSetA (C : Addr) (ns : List Str) (name : Str) (po p : XE) : XS := fun vs H => (p vs H).bind fun a => (po vs a.2).bind fun o => (gSet C ns name o.1 a.1 o.2).map fun H' => (.next, vs, H')
theorem sim_setattr (ok : ClsOk X K C ns) {name : Str} {o e : Expr} {pos' pos : Pos} {po p : XE} (ho : SimE X n sc names po o) (h : SimE X n sc names p e) (hs : ∀ env, EnvOk sc env → swapsWith e (some (.Attribute o name pos')) pos.line env = pure false := by intros; rfl) :
    SimS X n sc names (xSetA C ns name po p) (.Assign [.Attribute o name pos'] e pos) := by
  intro env A W s vs H r vs' H' hE hA hp ph hv
  refine bindI (fun a h0 => bindI fun b h1 => mapI (P := fun x : Fl × Vs × Hp => wpS X A (frameOf names env) _ W s (AnsS X env names x.1 x.2.1 x.2.2)) fun H2 h2 => plainObj_wpAny_Assign_Attribute ?_ (hs env hE)) hp
  refine wpS_ans (h env A W s vs H a.1 a.2 hE hA h0 ph hv) fun v W1 s1 t1 r1 p1 => ?_
  refine wpS_ans (ho env A W1 s1 vs a.2 b.1 b.2 hE hA h1 p1 (hv.nil t1)) fun ov W2 s2 t2 r2 p2 => ?_
  refine set_attr ok h2 r2 (r1.grow t2.grow) p2 fun s3 t3 p3 => ?_
  have t := (t1.trans t2).trans t3
  exact ⟨W2, t.nil, .next', p3, hv.nil t⟩

/-- o.name += value, of ints -/
noncomputable def xAugA (C : Addr) (ns : List Str) (name : Str) (f : D → D → Hp → Option D) (po p : XE) : XS := fun vs H => (po vs H).bind fun o => (gAttr C ns name o.1 o.2).bind fun old => (p vs o.2).bind fun a => (f old a.1 a.2).bind fun new => (gSet C ns name o.1 new a.2).map fun H' => (.next, vs, H')
theorem sim_augattr (ok : ClsOk X K C ns) {name : Str} {o e : Expr} {op : Operator} {tpos pos : Pos} {f : D → D → Hp → Option D} {po p : XE} (ho : SimE X n sc names po o) (h : SimE X n sc names p e) (hf : Pr2 X n (inplaceOp op) f) :
    SimS X n sc names (xAugA C ns name f po p) (.AugAssign (.Attribute o name tpos) op e pos) := by
  intro env A W s vs H r vs' H' hE hA hp ph hv
  refine bindI (fun b h0 => bindI fun old h1 => bindI fun a h2 => bindI fun new h3 => mapI (P := fun x : Fl × Vs × Hp => wpS X A (frameOf names env) _ W s (AnsS X env names x.1 x.2.1 x.2.2)) fun H4 h4 => wpAny_AugAssign_AttributeAny ?_) hp
  refine wpS_ans (ho env A W s vs H b.1 b.2 hE hA h0 ph hv) fun ov W1 s1 t1 r1 p1 => ?_
  refine get_attr ok h1 r1 p1 fun ol rol => ?_
  have t1' : Step X [] W s W1 { s1 with toks := s1.toks + 1 } := t1.trans (.tok _)
  refine wpS_ans (h env A W1 _ vs b.2 a.1 a.2 hE hA h2 (p1.tok _) (hv.nil t1')) fun v W2 s2 t2 r2 p2 => ?_
  refine wpS_ans (hf A W2 s2 a.2 old a.1 ol v new hA h3 (rol.grow t2.grow) r2 p2) fun w W3 s3 t3 r3 p3 => ?_
  refine set_attr ok h4 ((r1.grow t2.grow).grow t3.grow) r3 p3 fun s4 t4 p4 => ?_
  have t := ((t1'.trans t2).trans t3).trans t4
  exact ⟨W3, t.nil, .next', p4, hv.nil t⟩

/-- a method of the class -/
noncomputable def isInst (C : Addr) (ns : List Str) (o : D) (H : Hp) : Bool := match o with
  | .own k => match H[k]? with
    | some (.inst C' kd) => match H[kd]? with
      | some (.attrs ns' _) => decide (C' = C ∧ ns' = ns)
      | _ => false
    | _ => false
  | _ => false
theorem isInst_some {o : D} (h : isInst C ns o H = true) : ∃ k kd f, o = .own k ∧ H[k]? = some (.inst C kd) ∧ H[kd]? = some (.attrs ns f) := by
  cases o with
  | own k =>
    dsimp only [isInst] at h
    generalize hk : H[k]? = co at h
    rcases co with _ | co
    · exact nomatch h
    · cases co with
      | inst C' kd =>
        dsimp only at h
        generalize hd : H[kd]? = cd at h
        rcases cd with _ | cd
        · exact nomatch h
        · cases cd with
          | attrs ns' f =>
            have q := of_decide_eq_true h
            exact ⟨k, kd, f, rfl, q.1 ▸ hk, q.2 ▸ hd⟩
          | _ => exact nomatch h
      | _ => exact nomatch h
  | _ => exact nomatch h
theorem mt_method (ok : ClsOk X K C ns) {name : Str} {f : Addr} {G : List D → Hp → Option (D × Hp)} (hf : findIn K (.ref C) name = some (some (.ref f))) (ht : typeIn K (.ref f) = some (.type "function")) (hn : name ∉ ns) (hc : Ct X n (.ref f) G) (hcal : ∀ W, Cal X W (.ref f)) :
    Mt X n name (isInst C ns) (fun o ds H => G (o :: ds) H) := by
  intro A W s H o ov pl hA hok r p
  obtain ⟨k, kd, g, rfl, hk, hkd⟩ := isInst_some hok
  obtain ⟨x, rfl, ha⟩ := r.inv
  clear hok r
  obtain ⟨dd, od, q, hd, hne, e, I, N, hw, R⟩ := inst_at p hk hkd ha
  have hq : q name = none := Option.eq_none_iff_forall_ne_some.mpr fun v z => hn (hw name (by rw [z]; nofun))
  refine method_fn (ok.kn.in p) I ok.ga ok.gt hf ht (by show (lookIn name od).map _ = _; rw [lookIn_of N e, hq]; rfl) ⟨W, .refl, p, hcal W, ?_⟩
  intro A' W' s' H' ds us d H'' l hA' hG rs ph
  exact hc A' W' s' H' (.own k :: ds) (.ref x :: us) d H'' hA' hG (.cons (.own (l.mu _ _ ha)) rs) ph

theorem calm_make {C : Addr} {us : List Value} (hA : Calm (n + 1) A) : Calm n (A.under (.builtin "type.__call__" ⟨.ref C :: us, []⟩)) := by
  have hw : (Code.builtin "type.__call__" ⟨.ref C :: us, []⟩).weight = 1 := by with_unfolding_all rfl
  have hu : (Code.builtin "type.__call__" ⟨.ref C :: us, []⟩).cUnits = 1 := by with_unfolding_all rfl
  have h1 := hA.dp
  have h2 := hA.un
  refine ⟨hA.hd, ?_, ?_⟩
  · show A.depth + (Code.builtin "type.__call__" ⟨.ref C :: us, []⟩).weight + n ≤ 900
    rw [hw]; omega
  · show A.units + (Code.builtin "type.__call__" ⟨.ref C :: us, []⟩).cUnits + 8 * n ≤ 9000
    rw [hu]; omega
/-- a new object -/
noncomputable def gNew (C : Addr) (ns : List Str) (G : List D → Hp → Option (D × Hp)) (ds : List D) (H : Hp) : Option (D × Hp) :=
  (G (.own (H.length + 1) :: ds) (H ++ [.attrs ns fun _ => none] ++ [.inst C H.length])).bind fun a => match a.1 with
    | .none => some (.own (H.length + 1), a.2)
    | _ => none
theorem ct_class (T : TopOk X) (ok : ClsOk X K C ns) {fI : Addr} {fd : FuncData} {body : List Stmt} {params : List Str} {q : XS} (hm : makesIn K C = true) (hi : findIn K (.ref C) "__init__" = some (some (.ref fI))) (hf : typeIn K (.ref fI) = some (.type "function"))
    (F : FunAt X fI fd sc body params) (hS : FnScope sc names params) (h : SimF X n sc names (EnvFd fd) q body) : Ct X (n + 2) (.ref C) (gNew C ns (xFun q params.length names.length)) := by
  intro A W s H ds us d H' hA hp r p
  revert hp
  refine bindI2 fun a H1 h0 hp => ?_
  cases a with
  | none =>
    refine some2I (P := fun d H' => wpS X A [] (call (.ref C) us) W s (Ans X d H')) ?_ hp
    clear hp
    have X1 := ok.kn.in p
    refine wpAny_call ?_
    obtain ⟨hh, gg, dd, tt, os⟩ := s
    refine make_core (makes_of X1 hm) (looks_findIn X1 hi) (fun self => bind_fn X1 self hf) (.inl rfl) ?_
    have hn0 := get?_size_none hh
    have e0 : (hh.push emptyDict).get? hh.objs.size = some emptyDict := Heap.get?_push_size _ rfl
    have k0 : ∀ b o, hh.get? b = some o → (hh.push emptyDict).get? b = some o := fun b o e => Heap.get?_push_of_some _ e
    have N0 : (hh.push emptyDict).Ns1 hh.objs.size fun _ => none := Heap.Ns1.of_empty (Heap.Ns.new hh (.type "dict"))
    have p1 : Phi X (W.more hh.objs.size) (H ++ [.attrs ns fun _ => none]) ⟨hh.push emptyDict, gg, dd, tt, os⟩ := p.more hn0 k0 ⟨_, N0, fun y hy => absurd rfl hy, fun y => trivial⟩
    have hsz : (hh.push emptyDict).objs.size = hh.objs.size + 1 := Heap.size_push ..
    have hn1 : (hh.push emptyDict).get? (hh.objs.size + 1) = none := by rw [← hsz]; exact get?_size_none _
    have e1 : ((hh.push emptyDict).push (instObj C hh.objs.size)).get? (hh.objs.size + 1) = some (instObj C hh.objs.size) := by rw [← hsz]; exact Heap.get?_push_size _ rfl
    have k1 : ∀ b o, (hh.push emptyDict).get? b = some o → ((hh.push emptyDict).push (instObj C hh.objs.size)).get? b = some o := fun b o e => Heap.get?_push_of_some _ e
    have hmu : ((W.more hh.objs.size).more (hh.objs.size + 1)).mu[H.length]? = some hh.objs.size := by
      show (((W.mu ++ [hh.objs.size]) ++ [hh.objs.size + 1]) : List Addr)[H.length]? = _
      rw [List.getElem?_append_left (by simp [p.len]), p.len, List.getElem?_append_right (Nat.le_refl _)]; simp
    have p2 : Phi X ((W.more hh.objs.size).more (hh.objs.size + 1)) (H ++ [.attrs ns fun _ => none] ++ [.inst C H.length]) ⟨(hh.push emptyDict).push (instObj C hh.objs.size), gg, dd, tt, os⟩ :=
      p1.more hn1 k1 ⟨_, hmu, Nat.ne_of_lt (Nat.lt_succ_self _), e1⟩
    have g1 : Grow ⟨hh, gg, dd, tt, os⟩ W (W.more hh.objs.size) := .more hn0
    have g2 : Grow ⟨hh.push emptyDict, gg, dd, tt, os⟩ (W.more hh.objs.size) ((W.more hh.objs.size).more (hh.objs.size + 1)) := .more hn1
    have st : Step X [] W ⟨hh, gg, dd, tt, os⟩ ((W.more hh.objs.size).more (hh.objs.size + 1)) ⟨(hh.push emptyDict).push (instObj C hh.objs.size), gg, dd, tt, os⟩ :=
      ⟨⟨fun b o e _ => k1 b o (k0 b o e), fun b o e => ⟨o, k1 b o (k0 b o e)⟩, rfl, rfl, rfl⟩, g1.trans g2 fun b o e => ⟨o, k0 b o e⟩⟩
    have hx : ((W.more hh.objs.size).more (hh.objs.size + 1)).mu[H.length + 1]? = some (hh.objs.size + 1) := by
      have := more_get p1 (hh.objs.size + 1)
      simpa using this
    refine fun_core T F hS h (calm_make (n := n + 1) hA) h0 (.cons (.own hx) (r.grow st.grow)) p2 fun v W3 s3 t3 rv p3 => ?_
    cases rv
    exact ⟨rfl, W3, st.trans t3, .own (t3.grow.mu_get hx), p3⟩
  | _ => exact noneI hp
end
end Mine
open PySem PySem.W PyProof.Rows
namespace Mine
section
variable {X : Cx} {n : Nat} {sc : Scope} {names : List Str} {A : Around} {W : Wd} {s : Shared} {H : Hp}

noncomputable def fInt (f : Int → Int → Option D) (a b : D) (_ : Hp) : Option D := match a, b with
  | .int i, .int j => f i j
  | _, _ => none
theorem pr2_int {t : Value → Value → Sem Value} {f : Int → Int → Option D}
    (h : ∀ (A : Around) (s : Shared) (i j : Int) (ti tj : Tok) (d : D) (Q : Value → Shared → Prop) (E : Value → Shared → Prop), f i j = some d → (∀ v tk, (∀ W, RV W d v) → Q v { s with toks := tk }) → wpAny (model X.prog X.w) A (t (.int i ti) (.int j tj)) Q E s) : Pr2 X n t (fInt f) := by
  intro A W s H a b u v d hA hf ra rb ph
  unfold fInt at hf
  split at hf
  · cases ra; cases rb
    exact h A s _ _ _ _ d _ _ hf fun v tk r => ⟨W, .tok _, r W, ph.tok _⟩
  · cases hf

noncomputable def iAdd (i j : Int) : Option D := some (.int (i + j))
noncomputable def iSub (i j : Int) : Option D := some (.int (i - j))
noncomputable def iMul (i j : Int) : Option D := if i.natAbs < 2 ^ 60 ∧ j.natAbs < 2 ^ 60 then some (.int (i * j)) else none
noncomputable def iDiv (i j : Int) : Option D := if 0 < j ∧ j.natAbs < 2 ^ 30 then some (.int (i.fdiv j)) else none
noncomputable def iMod (i j : Int) : Option D := if 0 < j then some (.int (i.fmod j)) else none
noncomputable def iPow (i j : Int) : Option D := if 0 ≤ j ∧ j ≤ 64 ∧ 0 ≤ i ∧ i ≤ 64 then some (.int (i ^ j.toNat)) else none
noncomputable def iAnd (i j : Int) : Option D := some (.int (Builtin.bitAnd i j))
noncomputable def iEq (i j : Int) : Option D := some (.bool (i == j))
noncomputable def iLt (i j : Int) : Option D := some (.bool (decide (i < j)))
noncomputable def iLe (i j : Int) : Option D := some (.bool (decide (i ≤ j)))
theorem intBits_small {i : Int} (h : i.natAbs < 2 ^ 60) : Builtin.Int.intBits i ≤ 64 := by
  unfold Builtin.Int.intBits
  split
  · omega
  · rename_i h0
    have : i.natAbs ≠ 0 := by simpa using h0
    have := (Nat.log2_lt this).mpr h
    omega
theorem pr_iadd : Pr2 X n (inplaceOp .Add) (fInt iAdd) := pr2_int fun A s i j ti tj d Q E hf h => by cases hf; exact wpAny_iadd_int (h _ _ fun _ => .int _ _)
theorem pr_sub : Pr2 X n (binaryOp .Sub) (fInt iSub) := pr2_int fun A s i j ti tj d Q E hf h => by cases hf; exact sub_int (h _ _ fun _ => .int _ _)
theorem pr_mul : Pr2 X n (binaryOp .Mult) (fInt iMul) := pr2_int fun A s i j ti tj d Q E hf h => by
  unfold iMul at hf
  split at hf
  · rename_i hs; cases hf
    exact mul_int (h _ _ fun _ => .int _ _) (.of_left (intBits_small hs.1))
  · cases hf
theorem pr_div : Pr2 X n (binaryOp .FloorDiv) (fInt iDiv) := pr2_int fun A s i j ti tj d Q E hf h => by
  unfold iDiv at hf
  split at hf
  · rename_i hs; cases hf
    exact floordiv_int (by omega) (h _ _ fun _ => .int _ _) (.inl (PyProof.noPylong_small (by omega)))
  · cases hf
theorem pr_mod : Pr2 X n (binaryOp .Mod) (fInt iMod) := pr2_int fun A s i j ti tj d Q E hf h => by
  unfold iMod at hf
  split at hf
  · rename_i hs; cases hf
    exact mod_int' (by omega) (h _ _ fun _ => .int _ _)
  · cases hf
theorem pr_pow : Pr2 X n (binaryOp .Pow) (fInt iPow) := pr2_int fun A s i j ti tj d Q E hf h => by
  unfold iPow at hf
  split at hf
  · rename_i hs; cases hf
    refine pow_int hs.1 ?_ (h _ _ fun _ => .int _ _)
    have hb : (Builtin.Int.intBits i : Int) ≤ 64 := by
      obtain ⟨_, _, h3, h4⟩ := hs
      have : ∀ k : Nat, k ≤ 64 → (Builtin.Int.intBits (k : Int) : Int) ≤ 64 := by decide +kernel
      have := this i.toNat (by omega)
      rwa [Int.toNat_of_nonneg h3] at this
    have : (Builtin.Int.intBits i : Int) * j ≤ 64 * 64 := Int.mul_le_mul hb hs.2.1 hs.1 (by omega)
    omega
  · cases hf
theorem pr_and : Pr2 X n (binaryOp .BitAnd) (fInt iAnd) := pr2_int fun A s i j ti tj d Q E hf h => by cases hf; exact and_int (h _ _ fun _ => .int _ _)
theorem pr_eqI : Pr2 X n (compareOp .Eq) (fInt iEq) := pr2_int fun A s i j ti tj d Q E hf h => by cases hf; exact eq_int (h _ _ fun _ => .bool _)
theorem pr_lt : Pr2 X n (compareOp .Lt) (fInt iLt) := pr2_int fun A s i j ti tj d Q E hf h => by cases hf; exact lt_int (h _ _ fun _ => .bool _)
theorem pr_le : Pr2 X n (compareOp .LtE) (fInt iLe) := pr2_int fun A s i j ti tj d Q E hf h => by cases hf; exact le_int (h _ _ fun _ => .bool _)
end
end Mine
open PySem PySem.W PyProof.Rows
namespace Mine
section
variable {X : Cx} {n : Nat} {sc : Scope} {names : List Str} {A : Around} {W : Wd} {s : Shared} {H : Hp}

/-- the items of a list, frozen or own -/
noncomputable def itsOf (d : D) (H : Hp) : Option (List D) := match d with
  | .lst xs => some xs
  | .own k => match H[k]? with
    | some (.list xs) => some xs
    | _ => none
  | _ => none
theorem its_own {k : Nat} {xs : List D} (h : itsOf (.own k) H = some xs) : H[k]? = some (.list xs) := by
  dsimp only [itsOf] at h
  generalize H[k]? = co at h
  rcases co with _ | co
  · exact noneI h
  · cases co with
    | list ys => exact congrArg (fun x => some (CO.list x)) (Option.some.inj h)
    | _ => exact noneI h
theorem its_at {d : D} {v : Value} {xs : List D} (r : RV W d v) (p : Phi X W H s) (h : itsOf d H = some xs) : ∃ a vs m, v = .ref a ∧ s.heap.get? a = some (seqObj "list" vs m) ∧ RVs W xs vs := by
  cases d with
  | lst ys =>
    obtain ⟨a, vs, m, e, z, rs⟩ := r.inv
    exact ⟨a, vs, m, e, p.frz _ _ z, Option.some.inj h ▸ rs⟩
  | own k =>
    obtain ⟨a, e, ha⟩ := r.inv
    obtain ⟨vs, m, e', r⟩ := p.own _ _ _ (its_own h) ha
    exact ⟨a, vs, m, e, e', r⟩
  | _ => exact noneI h

/-- an own list changed in the model -/
theorem own_update {k : Nat} {a : Addr} {xs ys : List D} {us : List Value} {m' t : Nat} {h' : Heap} (p : Phi X W H s) (hk : H[k]? = some (.list xs)) (ha : W.mu[k]? = some a) (hs : Heap.SameBut a s.heap h') (e : h'.get? a = some (seqObj "list" us m')) (r : RVs W ys us) :
    Step X [] W s W { s with heap := h', toks := t } ∧ Phi X W (H.set k (.list ys)) { s with heap := h', toks := t } := by
  have hz := p.apart k _ a hk ha (by intro q; cases q)
  have hm : a ∈ W.mu := List.mem_of_getElem? ha
  refine ⟨⟨.same hs (.inr (.inl ⟨hm, hz⟩)) ⟨_, e⟩, .refl _ _⟩, p.setOwn ha hz (fun b o hb q => (hs.2 b hb).trans q) ⟨us, m', e, r⟩⟩

noncomputable def isOwnL (o : D) (H : Hp) : Bool := match o with
  | .own k => match H[k]? with
    | some (.list _) => true
    | _ => false
  | _ => false
theorem isOwnL_some {o : D} (h : isOwnL o H = true) : ∃ k xs, o = .own k ∧ H[k]? = some (.list xs) := by
  cases o with
  | own k =>
    dsimp only [isOwnL] at h
    refine ⟨k, ?_⟩
    generalize H[k]? = co at h
    rcases co with _ | co
    · exact nomatch h
    · cases co with
      | list ys => exact ⟨ys, rfl, rfl⟩
      | _ => exact nomatch h
  | _ => exact nomatch h

/-- xs.append(x) -/
noncomputable def gAppend (o : D) (ds : List D) (H : Hp) : Option (D × Hp) := match o, ds with
  | .own k, [d] => match H[k]? with
    | some (.list xs) => if xs.length < 100000 then some (.none, H.set k (.list (xs ++ [d]))) else none
    | _ => none
  | _, _ => none
theorem gAppendI {k : Nat} {d : D} {ds : List D} {H' : Hp} {P : D → Hp → Prop} (q : ∀ x xs, ds = [x] → H[k]? = some (.list xs) → xs.length < 100000 → P .none (H.set k (.list (xs ++ [x])))) (h : gAppend (.own k) ds H = some (d, H')) : P d H' := by
  rcases ds with _ | ⟨x, _ | _⟩
  · exact noneI h
  · dsimp only [gAppend] at h
    generalize hk : H[k]? = co at h
    rcases co with _ | co
    · exact noneI h
    · cases co with
      | list ys => exact ifI (P := fun x : D × Hp => P x.1 x.2) (q x ys rfl hk) h
      | _ => exact noneI h
  · exact noneI h
theorem mt_append : Mt X n "append" isOwnL gAppend := by
  intro A W s H o ov pl hA hok r p
  obtain ⟨k, xs, rfl, hk⟩ := isOwnL_some hok
  obtain ⟨a, rfl, ha⟩ := r.inv
  obtain ⟨vs, m, e, rs⟩ := p.own _ _ _ hk ha
  refine PySem.Calls.getMethod_list_append e rfl rfl ⟨W, .refl, p, .builtin, ?_⟩
  clear e rs hok hk hA p r
  intro A' W' s' H' ds us d H'' l hA' hG rus ph
  have ha' := l.mu _ _ ha
  clear l ha hA'
  refine gAppendI (P := fun d H'' => wpS X A' [] _ W' s' (Ans X d H'')) (fun x ys ed hk hlen => ?_) hG
  clear hG
  obtain ⟨u, rfl, rx⟩ := (ed ▸ rus : RVs W' [x] us).inv1
  obtain ⟨vs', m', e', rs'⟩ := ph.own _ _ _ hk ha'
  refine append_at (s := s') (D := a) (its := vs'.toArray) (n := m') (hsz := by rw [List.size_toArray, ← rs'.length, sizeLine_eq]; omega) e' fun h' hs he => ?_
  have := own_update (t := s'.toks) ph hk ha' hs (show h'.get? a = some (seqObj "list" (vs' ++ [u]) (m' + 1)) by rw [he]; simp [seqObj]) (rs'.append (.one rx))
  exact ⟨W', this.1, .none, this.2⟩

/-- xs.pop(0) -/
noncomputable def gPop (o : D) (ds : List D) (H : Hp) : Option (D × Hp) := match o, ds with
  | .own k, [.int 0] => match H[k]? with
    | some (.list (x :: xs)) => if xs.length < 100000 then some (x, H.set k (.list xs)) else none
    | _ => none
  | _, _ => none
theorem gPopI {k : Nat} {d : D} {ds : List D} {H' : Hp} {P : D → Hp → Prop} (q : ∀ x xs, ds = [.int 0] → H[k]? = some (.list (x :: xs)) → xs.length < 100000 → P x (H.set k (.list xs))) (h : gPop (.own k) ds H = some (d, H')) : P d H' := by
  unfold gPop at h
  split at h
  · rename_i k' e
    cases e
    generalize hk : H[k]? = co at h
    rcases co with _ | co
    · exact noneI h
    · cases co with
      | list ys => cases ys with
        | nil => exact noneI h
        | cons x xs => exact ifI (P := fun x : D × Hp => P x.1 x.2) (q x xs rfl hk) h
      | _ => exact noneI h
  · exact noneI h
theorem mt_pop : Mt X n "pop" isOwnL gPop := by
  intro A W s H o ov pl hA hok r p
  obtain ⟨k, xs, rfl, hk⟩ := isOwnL_some hok
  obtain ⟨a, rfl, ha⟩ := r.inv
  obtain ⟨vs, m, e, rs⟩ := p.own _ _ _ hk ha
  refine getMethod_builtin (T := "list") ⟨_, e, rfl⟩ PySem.F.plainAttrs_list PySem.F.slot_list_pop PySem.F.type_list_pop (fun b q => Value.ref.inj q ▸ ⟨_, e, rfl⟩) ⟨W, .refl, p, .builtin, ?_⟩
  clear e rs hok hk hA p r
  intro A' W' s' H' ds us d H'' l hA' hG rus ph
  have ha' := l.mu _ _ ha
  clear l ha hA'
  refine gPopI (P := fun d H'' => wpS X A' [] _ W' s' (Ans X d H'')) (fun x ys ed hk hlen => ?_) hG
  clear hG
  obtain ⟨u, rfl, rx⟩ := (ed ▸ rus : RVs W' [.int 0] us).inv1
  obtain ⟨t, rfl⟩ := rx.inv
  obtain ⟨vs', m', e', rs'⟩ := ph.own _ _ _ hk ha'
  obtain ⟨y, us', rfl, rd, rr⟩ := rs'.inv
  clear rs' rx rus
  refine call_meets PySem.F.slot_list_pop ⟨_, e', rfl⟩ PySem.F.entry_list_pop (PySem.F.args_list_pop_2 _ _) (PySem.MeetsSeq.list_pop_at a (y :: us').toArray m' 0 t 0 y (by decide +kernel) (by unfold seqIndex?; simp) (by simp) (by rw [List.size_toArray, List.length_cons, ← rr.length, sizeLine_eq]; omega)) ⟨e', ?_⟩
  have q : Obj.mapSeq (fun xs => xs.eraseIdxIfInBounds 0) (seqObj "list" (y :: us') m') = seqObj "list" us' (m' + 1) := by
    simp [Obj.mapSeq, seqObj, Array.eraseIdxIfInBounds]
  have := own_update (t := s'.toks) ph hk ha' (Heap.SameBut.update ..) ((Heap.get?_update_self _ e' (by rw [q]; rfl)).trans (congrArg some q)) rr
  exact ⟨W', this.1, rd, this.2⟩
end
end Mine
open PySem PySem.W PyProof.Rows
namespace Mine

theorem valueAt_stored (kvs : List (Str × Value)) (k : Str) (v : Value) (x : Str) : valueAt (PySem.stored kvs k v) x = if x = k then some v else valueAt kvs x := by
  unfold valueAt PySem.stored
  split
  · rename_i h
    induction kvs with
    | nil => simp at h
    | cons a r ih =>
      by_cases hx : x = k
      · subst hx
        by_cases ha : a.1 = x
        · simp [ha]
        · have h' : r.any (fun kv => decide (kv.1 = x)) = true := by simpa [ha] using h
          have := ih h'
          simp only [if_true] at this
          simp only [List.map_cons, if_neg ha, if_true]
          rw [List.find?_cons_of_neg (by simpa using ha)]
          exact this
      · by_cases ha : a.1 = x
        · have hk : a.1 ≠ k := fun q => hx (ha.symm.trans q)
          simp [ha, hx]
        · by_cases hk : a.1 = k
          · simp only [List.map_cons, hk, if_true]
            rw [List.find?_cons_of_neg (by simpa using Ne.symm hx), List.find?_cons_of_neg (by simpa using ha)]
            simp only [if_neg hx]
            by_cases h' : r.any (fun kv => decide (kv.1 = k)) = true
            · have := ih h'; simpa [hx] using this
            · have : r.map (fun kv => if kv.1 = k then (kv.1, v) else kv) = r := by
                conv => rhs; rw [← List.map_id r]
                refine List.map_congr_left fun b hb => ?_
                have : b.1 ≠ k := fun q => h' (List.any_eq_true.mpr ⟨b, hb, by simpa using q⟩)
                simp [this]
              rw [this]
          · have h' : r.any (fun kv => decide (kv.1 = k)) = true := by simpa [hk] using h
            have := ih h'
            simp only [List.map_cons, if_neg hk]
            rw [List.find?_cons_of_neg (by simpa using ha), List.find?_cons_of_neg (by simpa using ha)]
            exact this
  · rename_i h
    rw [List.find?_append]
    by_cases hx : x = k
    · subst hx
      have : kvs.find? (fun kv => decide (kv.1 = x)) = none := List.find?_eq_none.mpr fun b hb q => h (List.any_eq_true.mpr ⟨b, hb, q⟩)
      simp [this]
    · have hk : ¬ k = x := Ne.symm hx
      simp [hx, hk]

section
variable {X : Cx} {n : Nat} {sc : Scope} {names : List Str} {A : Around} {W : Wd} {s : Shared} {H : Hp}

noncomputable def smallIx (i : Int) : Bool := decide (i.natAbs < 2 ^ 40)
/-- o[i] -/
noncomputable def fItem (o i : D) (H : Hp) : Option D := match o, i with
  | .str x, .int i => if smallIx i then ((seqIndex? i x.length).bind (x.cps[·]?)).map fun c => D.str ⟨#[c]⟩ else none
  | .tup xs, .int i => if smallIx i then (seqIndex? i xs.length).bind (xs[·]?) else none
  | .lst xs, .int i => if smallIx i then (seqIndex? i xs.length).bind (xs[·]?) else none
  | .own k, .int i => match H[k]? with
    | some (.list xs) => if smallIx i then (seqIndex? i xs.length).bind (xs[·]?) else none
    | _ => none
  | .own k, .str x => match H[k]? with
    | some (.dict _ f) => f x
    | _ => none
  | _, _ => none

theorem small_of {i : Int} (h : smallIx i = true) : -(2 ^ 63 : Int) ≤ i ∧ i < 2 ^ 63 := by
  have := of_decide_eq_true h
  omega
theorem small_or {i : Int} (h : -(2 ^ 63 : Int) ≤ i ∧ i < 2 ^ 63) : (decide (i < -(2 ^ 63 : Int)) || decide (i ≥ 2 ^ 63)) = false := by
  rw [decide_eq_false (Int.not_lt.mpr h.1), decide_eq_false (Int.not_le.mpr h.2)]; rfl
theorem seqIx_some {i : Int} {m j : Nat} (h : seqIndex? i m = some j) : (0 ≤ i → i.toNat = j) ∧ (i < 0 → -(m : Int) ≤ i ∧ (i + m).toNat = j) := by
  unfold seqIndex? at h
  by_cases h0 : i < 0
  · rw [if_pos h0] at h
    refine ⟨fun q => absurd h0 (Int.not_lt.mpr q), fun _ => ?_⟩
    dsimp only at h
    split at h
    · rename_i hc
      have := of_decide_eq_true (Bool.and_eq_true_iff.mp hc).1
      exact ⟨by omega, Option.some.inj h⟩
    · exact noneI h
  · rw [if_neg h0] at h
    refine ⟨fun q => ?_, fun q => absurd q h0⟩
    dsimp only at h
    split at h
    · exact Option.some.inj h
    · exact noneI h

theorem list_item {a : Addr} {vs : List Value} {m : Nat} {xs : List D} {i : Int} {t : Tok} {d : D} (e : s.heap.get? a = some (seqObj "list" vs m)) (r : RVs W xs vs) (hi : smallIx i = true) (h : (seqIndex? i xs.length).bind (xs[·]?) = some d) {Q : Value → Shared → Prop} {E : Value → Shared → Prop} (hQ : ∀ v, RV W d v → Q v s) :
    wpAny (model X.prog X.w) A (getItem (.ref a) (.int i t)) Q E s := by
  revert h
  refine bindI fun j hj hd => ?_
  obtain ⟨v, hv, rv⟩ := r.get hd
  have hs := small_of hi
  by_cases h0 : 0 ≤ i
  · exact wpAny_getItem_list (isList_of e) h0 hs.2 (by rw [(seqIx_some hj).1 h0, List.getElem?_toArray]; exact hv) (hQ v rv)
  · have h34 := (seqIx_some hj).2 (Int.not_le.mp h0)
    have hsz : vs.toArray.size = xs.length := by rw [List.size_toArray, r.length]
    exact wpAny_getItem_list_neg (isList_of e) (Int.not_le.mp h0) (by rw [hsz]; exact h34.1) hs.1 (by rw [hsz, h34.2, List.getElem?_toArray]; exact hv) (hQ v rv)

theorem itI'' {α : Type} {i : Int} {a : Option α} {b : α} {P : Prop} (k : smallIx i = true → a = some b → P) (h : (if smallIx i then a else none) = some b) : P := by
  split at h
  · exact k ‹_› h
  · exact noneI h
theorem itI' {α : Type} {i : Int} {a : Option α} {b : α} {P : Prop} (k : -(2 ^ 63 : Int) ≤ i ∧ i < 2 ^ 63 → a = some b → P) (h : (if smallIx i then a else none) = some b) : P := itI'' (fun h => k (small_of h)) h
theorem itI {α : Type} {i : Int} {a : Option α} {b : α} {P : α → Prop} (k : -(2 ^ 63 : Int) ≤ i ∧ i < 2 ^ 63 → a = some b → P b) (h : (if smallIx i then a else none) = some b) : P b := itI' k h
theorem item_ok {o i d : D} {u v : Value} (h : fItem o i H = some d) (ro : RV W o u) (ri : RV W i v) (p : Phi X W H s) : (∃ T id, s.TypeIs u T ∧ typeLookup (.type T) "__getitem__" = pure (some (.builtin id))) ∧
    ∀ (A : Around) (Q : Value → Shared → Prop) (E : Value → Shared → Prop), (∀ v tk, RV W d v → Q v { s with toks := tk }) → wpAny (model X.prog X.w) A (getItem u v) Q E s := by
  cases o with
  | str x =>
    cases i with
    | int k =>
      obtain ⟨t, rfl⟩ := ro.inv
      obtain ⟨tk, rfl⟩ := ri.inv
      refine ⟨⟨"str", _, typeIs_str s x t, PyProof.Rows.slot_str_getitem.lookup⟩, fun A Q E => ?_⟩
      refine itI (P := fun d => (∀ v tk, RV W d v → Q v { s with toks := tk }) → _) (fun hs hm => ?_) h
      refine mapI (P := fun d => (∀ v tk, RV W d v → Q v { s with toks := tk }) → _) (fun c hc hQ => ?_) hm
      exact getItem_str (small_or hs) hc (hQ _ _ (.str _ _))
    | _ => exact noneI h
  | tup xs =>
    cases i with
    | int k =>
      obtain ⟨a, ws, n, rfl, z, rs⟩ := ro.inv
      obtain ⟨tk, rfl⟩ := ri.inv
      refine ⟨⟨"tuple", _, ⟨_, p.frz _ _ z, rfl⟩, slot_tuple_getitem.lookup⟩, fun A Q E hQ => ?_⟩
      revert h
      refine itI' fun hs => bindI fun j hj hd => ?_
      obtain ⟨v, hv, rv⟩ := rs.get hd
      exact getItem_tuple (isTuple_of (p.frz _ _ z)) hs.1 hs.2 (by rw [List.size_toArray, ← rs.length]; exact hj) (by rw [List.getElem?_toArray]; exact hv) (hQ _ s.toks rv)
    | _ => exact noneI h
  | lst xs =>
    cases i with
    | int k =>
      obtain ⟨a, ws, n, rfl, z, rs⟩ := ro.inv
      obtain ⟨tk, rfl⟩ := ri.inv
      have e := p.frz _ _ z
      exact ⟨⟨"list", _, ⟨_, e, rfl⟩, slot_list_getitem.lookup⟩, fun A Q E hQ => itI'' (fun hs h => list_item e rs hs h fun v rv => hQ v s.toks rv) h⟩
    | _ => exact noneI h
  | own a =>
    cases i with
    | int k =>
      obtain ⟨l, rfl, ha⟩ := ro.inv
      obtain ⟨tk, rfl⟩ := ri.inv
      dsimp only [fItem] at h
      split at h
      case h_2 => exact noneI h
      rename_i xs hk
      obtain ⟨vs, m, e, rs⟩ := p.own _ _ _ hk ha
      exact ⟨⟨"list", _, ⟨_, e, rfl⟩, slot_list_getitem.lookup⟩, fun A Q E hQ => itI'' (fun hs h => list_item e rs hs h fun v rv => hQ v s.toks rv) h⟩
    | str x =>
      obtain ⟨l, rfl, ha⟩ := ro.inv
      obtain ⟨tk, rfl⟩ := ri.inv
      dsimp only [fItem] at h
      split at h
      case h_2 => exact noneI h
      rename_i m f hk
      obtain ⟨kvs, hd, _, hr⟩ := p.own _ _ _ hk ha
      refine ⟨⟨"dict", _, hd.typeIs, PySem.slot_dict_getitem.lookup⟩, fun A Q E hQ => ?_⟩
      have := h ▸ hr x
      cases q : valueAt kvs x with
      | none => rw [q] at this; exact this.elim
      | some v =>
        rw [q] at this
        exact wpAny_getItem_of (knd := PySem.strKind X.prog X.w) (k := x) (by simp [PySem.strKind, Value.isStrOf]) hd.mapOf q (hQ v _ this)
    | _ => exact noneI h
  | _ => exact noneI h

theorem sim_sub {p q : XE} {o i : Expr} {pos : Pos} (h1 : SimE X n sc names p o) (h2 : SimE X n sc names q i) (hs : ∀ ov iv, subscripted i false ov iv = operate [ov, iv] (getItem ov iv) := by intros; with_unfolding_all rfl) : SimE X n sc names (xOp2 fItem p q) (.Subscript o i pos) := by
  intro env A W s vs H d H' hE hA hp ph hv
  refine xOp2I (P := fun d H' => wpS X A [] (eval (.Subscript o i pos) env) W s (Ans X d H')) (fun a H1 b H2 d e1 e2 e3 => Subscript_ ?_) hp
  refine wpS_ans (h1 env A W s vs H a H1 hE hA e1 ph hv) fun va W1 s1 t1 r1 p1 => ?_
  refine wpS_ans (h2 env A W1 s1 vs H1 b H2 hE hA e2 p1 (hv.nil t1)) fun vb W2 s2 t2 r2 p2 => ?_
  obtain ⟨⟨T, id, hT, hl⟩, hg⟩ := item_ok e3 (r1.grow t2.grow) r2 p2
  exact tail_any hT hl (hg _ _ _ fun v tk rv => ⟨W2, (t1.trans t2).trans (.tok _), rv, p2.tok _⟩) (hs va vb)
end
end Mine
open PySem PySem.W PyProof.Rows
namespace Mine
section
variable {X : Cx} {n : Nat} {sc : Scope} {names : List Str} {A : Around} {W : Wd} {s : Shared} {H : Hp}

/-- the data that a value spells -/
noncomputable def toPy : Nat → Hp → D → Option PyData
  | 0, _, _ => none
  | n + 1, H, d => match d with
    | .none => some .none
    | .bool b => some (.bool b)
    | .int i => some (.int i)
    | .str x => some (.str x)
    | .tup xs => (xs.mapM (toPy n H)).map .tuple
    | .lst xs => (xs.mapM (toPy n H)).map .list
    | .own k => match H[k]? with
      | some (.list xs) => (xs.mapM (toPy n H)).map .list
      | _ => none
    | .val _ => none

theorem reads_all {f : D → Option PyData} (hf : ∀ d x v, f d = some x → RV W d v → ∃ as, Reads s.heap v x as) : ∀ {xs : List D} {vs : List Value} {ys : List PyData}, xs.mapM f = some ys → RVs W xs vs → ∃ as, ReadsAll s.heap vs ys as := by
  intro xs
  induction xs with
  | nil =>
    intro vs ys h r
    rw [List.mapM_nil] at h
    exact someI (P := fun ys => ∃ as, ReadsAll s.heap vs ys as) ((show vs = [] from r.inv).symm ▸ ⟨_, .nil⟩) h
  | cons d xs ih =>
    intro vs ys h r
    rw [List.mapM_cons] at h
    revert h
    refine bindI fun y h1 => bindI fun ys' h2 h => ?_
    obtain ⟨u, us, e, r, rs⟩ := r.inv
    obtain ⟨as, ra⟩ := hf d y _ h1 r
    obtain ⟨bs, rb⟩ := ih h2 rs
    exact someI (P := fun ys => ∃ as, ReadsAll s.heap vs ys as) (e.symm ▸ ⟨_, .cons ra rb⟩) h
theorem reads_of (p : Phi X W H s) (k : Nat) : ∀ (d : D) (x : PyData) (v : Value), toPy k H d = some x → RV W d v → ∃ as, Reads s.heap v x as := by
  induction k with
  | zero => intro _ _ _ h; exact noneI h
  | succ k ih =>
    intro d x v h r
    cases d with
    | none => exact someI (P := fun x => ∃ as, Reads s.heap v x as) ((show v = _ from r.inv).symm ▸ ⟨_, .none⟩) h
    | bool b => exact someI (P := fun x => ∃ as, Reads s.heap v x as) ((show v = _ from r.inv).symm ▸ ⟨_, .bool b⟩) h
    | int i => obtain ⟨t, e⟩ := r.inv; exact someI (P := fun x => ∃ as, Reads s.heap v x as) (e.symm ▸ ⟨_, .int i t⟩) h
    | str y => obtain ⟨t, e⟩ := r.inv; exact someI (P := fun x => ∃ as, Reads s.heap v x as) (e.symm ▸ ⟨_, .str y t⟩) h
    | tup xs =>
      obtain ⟨a, vs, n, e, z, rs⟩ := r.inv
      exact mapI (o := xs.mapM (toPy k H)) (P := fun x => ∃ as, Reads s.heap v x as) (fun ys h1 => (reads_all ih h1 rs).elim fun as ra => e.symm ▸ ⟨_, .tuple (p.frz _ _ z) rfl rfl ra⟩) h
    | lst xs =>
      obtain ⟨a, vs, n, e, z, rs⟩ := r.inv
      exact mapI (o := xs.mapM (toPy k H)) (P := fun x => ∃ as, Reads s.heap v x as) (fun ys h1 => (reads_all ih h1 rs).elim fun as ra => e.symm ▸ ⟨_, .list (p.frz _ _ z) rfl rfl ra⟩) h
    | own j =>
      obtain ⟨a, e, ha⟩ := r.inv
      have h : (match H[j]? with | some (.list xs) => (xs.mapM (toPy k H)).map PyData.list | _ => none) = some x := h
      generalize hk : H[j]? = co at h
      rcases co with _ | co
      · exact noneI h
      · cases co with
        | list xs =>
          obtain ⟨vs, m, e', rs⟩ := p.own _ _ _ hk ha
          exact mapI (o := xs.mapM (toPy k H)) (P := fun x => ∃ as, Reads s.heap v x as) (fun ys h1 => (reads_all ih h1 rs).elim fun as ra => e.symm ▸ ⟨_, .list e' rfl rfl ra⟩) h
        | _ => exact noneI h
    | val v => exact noneI h

noncomputable def fEq (a b : D) (H : Hp) : Option D := (toPy 8 H a).bind fun x => (toPy 8 H b).bind fun y => if SeqAt.shaped x && SeqAt.shaped y then some (.bool (PyData.eqv x y)) else none
noncomputable def fNe (a b : D) (H : Hp) : Option D := (toPy 8 H a).bind fun x => (toPy 8 H b).bind fun y => if SeqAt.shaped x && SeqAt.shaped y then some (.bool (!PyData.eqv x y)) else none
theorem eqI {g : Bool → Bool} {a b d : D} {P : D → Prop} (k : ∀ x y, toPy 8 H a = some x → toPy 8 H b = some y → SeqAt.shaped x = true → SeqAt.shaped y = true → P (.bool (g (PyData.eqv x y))))
    (h : ((toPy 8 H a).bind fun x => (toPy 8 H b).bind fun y => if SeqAt.shaped x && SeqAt.shaped y then some (D.bool (g (PyData.eqv x y))) else none) = some d) : P d := by
  revert h
  exact bindI fun x hx => bindI fun y hy => ifI fun hs => k x y hx hy (Bool.and_eq_true_iff.mp hs).1 (Bool.and_eq_true_iff.mp hs).2
theorem calm_64 (hA : Calm n A) : A.units + 64 < cLine := by have := hA.un; have : cLine = 9900 := rfl; omega
theorem calm_65 (hA : Calm n A) : A.units + 1 + 64 < cLine := by have := hA.un; have : cLine = 9900 := rfl; omega
theorem pr_eq : Pr2 X n (compareOp .Eq) fEq := by
  intro A W s H a b u v d hA hf ra rb ph
  refine eqI (g := id) (P := fun d => wpS X A [] _ W s (Ans X d H)) (fun x y hx hy sx sy => ?_) hf
  obtain ⟨as, r1⟩ := reads_of ph 8 a x u hx ra
  obtain ⟨bs, r2⟩ := reads_of ph 8 b y v hy rb
  exact eq_dataH r1 r2 sx sy (calm_64 hA) ⟨W, .refl, .bool _, ph⟩
theorem pr_ne : Pr2 X n (compareOp .NotEq) fNe := by
  intro A W s H a b u v d hA hf ra rb ph
  refine eqI (g := not) (P := fun d => wpS X A [] _ W s (Ans X d H)) (fun x y hx hy sx sy => ?_) hf
  obtain ⟨as, r1⟩ := reads_of ph 8 a x u hx ra
  obtain ⟨bs, r2⟩ := reads_of ph 8 b y v hy rb
  exact ne_dataH r1 r2 sx sy (calm_64 hA) ⟨W, .refl, .bool _, ph⟩

/-- x in o -/
noncomputable def hasSign : List Nat → List Nat → Option Bool
  | [c], y => some (decide (c ∈ y))
  | _, _ => none
noncomputable def inL (x : D) (xs : List D) (H : Hp) : Option Bool := (toPy 8 H x).bind fun p => (xs.mapM (toPy 7 H)).bind fun ys => if p.canLay0 && PyData.canLayAll0 ys && decide (p.depth ≤ 64) then some (ys.any fun y => PyData.eqv y p) else none
noncomputable def strOf : D → Option Str
  | .str x => some x
  | _ => none
noncomputable def bIn (x o : D) (H : Hp) : Option Bool := match o with
  | .str y => (strOf x).bind fun x => hasSign x.cps.toList y.cps.toList
  | .own k => match H[k]? with
    | some (.dict _ f) => (strOf x).map fun x => (f x).isSome
    | some (.list xs) => inL x xs H
    | _ => none
  | .lst xs => inL x xs H
  | _ => none
noncomputable def fIn (x o : D) (H : Hp) : Option D := (bIn x o H).map D.bool
noncomputable def fNotIn (x o : D) (H : Hp) : Option D := (bIn x o H).map fun b => D.bool (!b)

theorem ROpt.some_iff {d : Option D} {v : Option Value} (h : ROpt W d v) : d.isSome = v.isSome := by
  cases d <;> cases v <;> first | rfl | exact h.elim

theorem strI {x : D} {P : D → Prop} (y : Str) (k : P (.str y)) (h : strOf x = some y) : P x := by
  cases x with
  | str z => exact (Option.some.inj h).symm ▸ k
  | _ => exact noneI h
theorem in_list {x : D} {u : Value} {b : Bool} {a : Addr} {vs : List Value} {m : Nat} {xs : List D} (hA : Calm n A) (rx : RV W x u) (p : Phi X W H s) {g : Bool → Bool} {op : CmpOp} (hg : (g = id ∧ op = .In) ∨ (g = not ∧ op = .NotIn)) (e : s.heap.get? a = some (seqObj "list" vs m)) (rs : RVs W xs vs) (h : inL x xs H = some b) {Q : Value → Shared → Prop} {E : Value → Shared → Prop}
    (hQ : ∀ tk, Q (.bool (g b)) { s with toks := tk }) : wpAny (model X.prog X.w) A (compareOp op u (.ref a)) Q E s := by
  revert hQ
  refine bindI (P := (∀ tk, Q (.bool (g b)) { s with toks := tk }) → _) (fun y hy => bindI fun ys hys => ifI (P := fun b => (∀ tk, Q (.bool (g b)) { s with toks := tk }) → _) fun hc hQ => ?_) h
  have hc := Bool.and_eq_true_iff.mp hc
  have hc1 := Bool.and_eq_true_iff.mp hc.1
  obtain ⟨as, r1⟩ := reads_of p 8 x y u hy rx
  obtain ⟨bs, r2⟩ := reads_all (reads_of p 7) hys rs
  clear hy hys h
  have rl : Reads s.heap (.ref a) (.list ys) (a :: bs) := .list e rfl rfl r2
  have hu : A.units + 1 + min (PyData.depthAll ys) y.depth < cLine := Nat.lt_of_le_of_lt (Nat.add_le_add_left (Nat.le_trans (Nat.min_le_right _ _) (of_decide_eq_true hc.2)) _) (calm_65 hA)
  rcases hg with hg | hg
  · rw [hg.1] at hQ; rw [hg.2]
    exact SeqAt.in_list_reads rl r1 hc1.2 hc1.1 hu (hQ s.toks)
  · rw [hg.1] at hQ; rw [hg.2]
    exact SeqAt.notIn_list_reads rl r1 hc1.2 hc1.1 hu (hQ s.toks)
theorem bIn_ok (T : TopOk X) {x o : D} {u v : Value} {b : Bool} (h : bIn x o H = some b) (hA : Calm n A) (rx : RV W x u) (ro : RV W o v) (p : Phi X W H s) (g : Bool → Bool) (op : CmpOp) (hg : (g = id ∧ op = .In) ∨ (g = not ∧ op = .NotIn)) {Q : Value → Shared → Prop} {E : Value → Shared → Prop}
    (hQ : ∀ tk, Q (.bool (g b)) { s with toks := tk }) : wpAny (model X.prog X.w) A (compareOp op u v) Q E s := by
  cases o with
  | str y =>
    revert h
    refine bindI fun z hz h => strI (P := fun x => RV W x u → _) z (fun rx => ?_) hz rx
    clear hz
    obtain ⟨t, rfl⟩ := rx.inv
    obtain ⟨t', rfl⟩ := ro.inv
    clear rx ro
    obtain ⟨⟨l⟩⟩ := z
    rcases l with _ | ⟨c, _ | _⟩
    · exact noneI h
    · have hQ := Option.some.inj h ▸ hQ s.toks
      rcases hg with hg | hg
      · rw [hg.1, ← PySem.StrLaws.found_one] at hQ; rw [hg.2]
        exact in_str hQ
      · rw [hg.1, ← PySem.StrLaws.found_one] at hQ; rw [hg.2]
        exact notIn_str hQ
    · exact noneI h
  | own k =>
    obtain ⟨a, rfl, ha⟩ := ro.inv
    dsimp only [bIn] at h
    generalize hk : H[k]? = co at h
    rcases co with _ | co
    · exact noneI h
    · cases co with
      | dict m f =>
        refine mapI (P := fun b => (∀ tk, Q (.bool (g b)) { s with toks := tk }) → _) (fun z hz hQ => ?_) h hQ
        refine strI (P := fun x => RV W x u → _) z (fun rx => ?_) hz rx
        clear hz
        obtain ⟨t, rfl⟩ := rx.inv
        obtain ⟨kvs, hd, _, hr⟩ := p.own _ _ _ hk ha
        have hne : (a == sysModules) = false := beq_eq_false_iff_ne.mpr fun q => T.sm.elim fun o e => nomatch (p.off a (List.mem_of_getElem? ha)).1.symm.trans ((congrArg (fun b => X.T.get? b) q).trans e)
        have hs := (hr z).some_iff
        rcases hg with hg | hg
        · rw [hg.1, hs] at hQ; rw [hg.2]
          exact wpAny_in_of (knd := PySem.strKind X.prog X.w) (k := z) (by simp [PySem.strKind, Value.isStrOf]) hne hd.mapOf (hQ _)
        · rw [hg.1, hs] at hQ; rw [hg.2]
          exact wpAny_notIn_of (knd := PySem.strKind X.prog X.w) (k := z) (by simp [PySem.strKind, Value.isStrOf]) hne hd.mapOf (hQ _)
      | list xs =>
        obtain ⟨vs, m, e, rs⟩ := p.own _ _ _ hk ha
        exact in_list hA rx p hg e rs h hQ
      | _ => exact noneI h
  | lst xs =>
    obtain ⟨a, vs, n, rfl, z, rs⟩ := ro.inv
    exact in_list hA rx p hg (p.frz _ _ z) rs h hQ
  | _ => exact noneI h
theorem pr_in (T : TopOk X) : Pr2 X n (compareOp .In) fIn := by
  intro A W s H a b u v d hA hf ra rb ph
  exact mapI (P := fun d => wpS X A [] _ W s (Ans X d H)) (fun x hx => bIn_ok T hx hA ra rb ph id .In (.inl ⟨rfl, rfl⟩) fun tk => ⟨W, .tok _, .bool _, ph.tok _⟩) hf
theorem pr_notIn (T : TopOk X) : Pr2 X n (compareOp .NotIn) fNotIn := by
  intro A W s H a b u v d hA hf ra rb ph
  exact mapI (P := fun d => wpS X A [] _ W s (Ans X d H)) (fun x hx => bIn_ok T hx hA ra rb ph not .NotIn (.inr ⟨rfl, rfl⟩) fun tk => ⟨W, .tok _, .bool _, ph.tok _⟩) hf
end
end Mine
open PySem PySem.W PyProof.Rows
namespace Mine
section
variable {X : Cx} {n : Nat} {sc : Scope} {names : List Str} {A : Around} {W : Wd} {s : Shared} {H : Hp}

/-- the items that a slice picks -/
noncomputable def pick {α : Type} (xs : List α) (lo hi st : Option Int) : List α :=
  (sliceRange (sliceBounds lo hi st xs.length).1 (sliceBounds lo hi st xs.length).2.1 (sliceBounds lo hi st xs.length).2.2).filterMap (xs[·]?)
theorem RVs.filterMap {xs : List D} {vs : List Value} (r : RVs W xs vs) : ∀ l : List Nat, RVs W (l.filterMap (xs[·]?)) (l.filterMap (vs[·]?))
  | [] => .nil
  | i :: l => by
    have ih := r.filterMap l
    have hl := r.length
    by_cases hi : i < xs.length
    · have h1 : xs[i]? = some xs[i] := List.getElem?_eq_getElem hi
      obtain ⟨v, hv, rv⟩ := r.get h1
      rw [List.filterMap_cons_some h1, List.filterMap_cons_some hv]
      exact .cons rv ih
    · have h1 : xs[i]? = none := List.getElem?_eq_none (by omega)
      have h2 : vs[i]? = none := List.getElem?_eq_none (by omega)
      rw [List.filterMap_cons_none h1, List.filterMap_cons_none h2]
      exact ih
theorem RVs.pick {xs : List D} {vs : List Value} (r : RVs W xs vs) (lo hi st : Option Int) : RVs W (pick xs lo hi st) (pick vs lo hi st) := by
  unfold Mine.pick; rw [r.length]; exact r.filterMap _

noncomputable def fSlice (o : D) (lo hi st : Option Int) (H : Hp) : Option D := match o with
  | .str x => if st = none ∧ x.length ≤ 1000000 then some (.str ⟨(pick x.cps.toList lo hi none).toArray⟩) else none
  | o => (itsOf o H).bind fun xs => if xs.length ≤ 1000000 ∧ st ≠ some 0 then some (.lst (pick xs lo hi st)) else none

noncomputable def xPart : Option XE → Vs → Hp → Option (Option Int × Hp)
  | none, _, H => some (none, H)
  | some q, vs, H => (q vs H).bind fun a => match a.1 with
    | .int i => some (some i, a.2)
    | _ => none
noncomputable def SimP (X : Cx) (n : Nat) (sc : Scope) (names : List Str) : Option XE → Option Expr → Prop
  | none, none => True
  | some q, some e => SimE X n sc names q e
  | _, _ => False

theorem part_ok {q : Option XE} {e : Option Expr} {env : Env} {vs : Vs} {H H' : Hp} {i : Option Int} {E : Value → Shared → Prop} {Q : Value → Shared → Prop} (h : SimP X n sc names q e) (hE : EnvOk sc env) (hA : Calm n A) (hp : xPart q vs H = some (i, H')) (ph : Phi X W H s) (hv : Vars X env names W vs s)
    (hQ : ∀ (p : Option (Int × Tok)) W' s', Step X [] W s W' s' → p.map (·.1) = i → Phi X W' H' s' → Q (partValue p) s') : wpAny (model X.prog X.w) A (evalPart e env) Q E s := by
  cases q with
  | none =>
    cases e with
    | none =>
      rw [evalPart_none]
      refine wpAny_pure (some2I (P := fun i H' => (∀ (p : Option (Int × Tok)) W' s', Step X [] W s W' s' → p.map (·.1) = i → Phi X W' H' s' → Q (partValue p) s') → Q .none s) (fun hQ => hQ none W s .refl rfl ph) hp hQ)
    | some _ => exact h.elim
  | some q =>
    cases e with
    | none => exact h.elim
    | some e =>
      rw [evalPart_some]
      revert hp
      refine bindI2 fun a H1 h0 hp => ?_
      cases a with
      | int k =>
        refine wpS_ans (h env A W s vs H _ _ hE hA h0 ph hv) fun v W1 s1 t1 r1 p1 => ?_
        cases r1
        exact some2I (P := fun i H' => (∀ (p : Option (Int × Tok)) W' s', Step X [] W s W' s' → p.map (·.1) = i → Phi X W' H' s' → Q (partValue p) s') → Q _ s1) (fun hQ => hQ (some (k, _)) W1 s1 t1 rfl p1) hp hQ
      | _ => cases hp

theorem isPart_of (p : Option (Int × Tok)) : IsPart (partValue p) (p.map (·.1)) := by
  cases p with
  | none => exact .none
  | some a => exact .int _ _

theorem pick_str_le (x : Str) (lo hi : Option Int) : (pick x.cps.toList lo hi none).length ≤ x.length := by
  unfold pick
  refine Nat.le_trans (List.length_filterMap_le _ _) ?_
  exact indices_len_le lo hi x.length
theorem pick_str (x : Str) (l u : Option (Int × Tok)) : (slicePicked x l u none).filterMap (x.cps[·]?) = pick x.cps.toList (l.map (·.1)) (u.map (·.1)) none := by
  unfold pick
  have : x.cps.toList.length = x.length := by simp [Str.length]
  rw [this]
  show (Builtin.Str.strSliceIndices (l.map (·.1)) (u.map (·.1)) 1 x.length).filterMap _ = _
  refine congrArg (fun f => List.filterMap f _) ?_
  funext i
  exact Array.getElem?_toList.symm

theorem pick_plain {α : Type} (xs : List α) (lo hi : Option Int) : pick xs lo hi none = (xs.drop (lo.elim 0 (clipAt xs.length))).take (hi.elim xs.length (clipAt xs.length) - lo.elim 0 (clipAt xs.length)) := by
  unfold pick
  rw [sliceBounds_plain]
  simp only [sliceRange_one]
  have := pick_run xs.toArray (lo.elim 0 (clipAt xs.length)) (hi.elim xs.length (clipAt xs.length) - lo.elim 0 (clipAt xs.length))
  simpa using this
theorem pick_full {x : Str} {l u : Option (Int × Tok)} (h : (slicePicked x l u none).length = x.length) : pick x.cps.toList (l.map (·.1)) (u.map (·.1)) none = x.cps.toList := by
  have hl : x.cps.toList.length = x.length := by simp [Str.length]
  have e : slicePicked x l u none = sliceRange (sliceBounds (l.map (·.1)) (u.map (·.1)) none x.length).1 (sliceBounds (l.map (·.1)) (u.map (·.1)) none x.length).2.1 (sliceBounds (l.map (·.1)) (u.map (·.1)) none x.length).2.2 := rfl
  rw [e, sliceBounds_plain] at h
  simp only [sliceRange_one, List.length_map, List.length_range] at h
  rw [pick_plain, hl, h]
  have hb : (u.map (·.1)).elim x.length (clipAt x.length) ≤ x.length := by
    cases u with
    | none => exact Nat.le_refl _
    | some z =>
      have := clipAt_cast x.length z.1
      show clipAt x.length z.1 ≤ x.length
      omega
  by_cases hx : x.length = 0
  · have : x.cps.toList = [] := List.length_eq_zero_iff.mp (hl.trans hx)
    rw [this]; simp
  · have h0 : (l.map (·.1)).elim 0 (clipAt x.length) = 0 := by omega
    rw [h0, List.drop_zero, ← hl, List.take_length]

noncomputable def xSlice (p : XE) (lo hi st : Option XE) : XE := fun vs H => (p vs H).bind fun o => (xPart lo vs o.2).bind fun a => (xPart hi vs a.2).bind fun b => (xPart st vs b.2).bind fun c => (fSlice o.1 a.1 b.1 c.1 c.2).map fun d => (d, c.2)
theorem slice_lists {ov : Value} {od : D} {xs : List D} {q1 q2 q3 : Option (Int × Tok)} {S : Addr} {ops : List Value} {o : Expr} {sl : Expr} (rO : RV W od ov) (p4 : Phi X W H s) (hx : itsOf od H = some xs) (hc : xs.length ≤ 1000000 ∧ q3.map (·.1) ≠ some 0) (hsl : s.heap.IsSliceOf S (partValue q1) (partValue q2) (partValue q3))
    (hops : subscripted sl false ov (.ref S) = operate ops (getItem ov (.ref S))) {Q : Value → Shared → Prop} {E : Value → Shared → Prop} (hQ : ∀ v W' s', Step X [] W s W' s' → RV W' (.lst (pick xs (q1.map (·.1)) (q2.map (·.1)) (q3.map (·.1)))) v → Phi X W' H s' → Q v s') : wpAny (model X.prog X.w) A (subscriptTail o sl ov (.ref S)) Q E s := by
  obtain ⟨ad, ws, m, rfl, e, rs⟩ := its_at rO p4 hx
  clear hx rO
  refine tail_any (T := "list") ⟨_, e, rfl⟩ slot_list_getitem.lookup ?_ hops
  have hz : ws.toArray.size = xs.length := by rw [List.size_toArray, rs.length]
  refine wpAny_getItem_list_slice (isList_of e) hsl (isPart_of q1) (isPart_of q2) (isPart_of q3) hc.2 ?_ (by rw [hz, sizeLine_eq]; omega)
  clear hc
  rw [show slicePick ws.toArray (q1.map (·.1)) (q2.map (·.1)) (q3.map (·.1)) = (pick ws (q1.map (·.1)) (q2.map (·.1)) (q3.map (·.1))).toArray by unfold slicePick Mine.pick; rw [List.size_toArray]; simp]
  refine hQ _ _ _ ⟨.push _, .frz (get?_size_none _) (p4.z_none (get?_size_none _))⟩ (.lst (Wd.frz_self ..) ((rs.pick _ _ _).grow (.frz (get?_size_none _) (p4.z_none (get?_size_none _))))) (p4.frozen (get?_size_none _) (fun b q e => Heap.get?_push_of_some _ e) (Heap.get?_push_size _ rfl))
theorem slice_str {x : Str} {tk : Tok} {q1 q2 : Option (Int × Tok)} {S : Addr} {ops : List Value} {o : Expr} {sl : Expr} (p4 : Phi X W H s) (hlen : x.length ≤ 1000000) (hsl : s.heap.IsSlice S q1 q2 none)
    (hops : subscripted sl false (.str x tk) (.ref S) = operate ops (getItem (.str x tk) (.ref S))) {Q : Value → Shared → Prop} {E : Value → Shared → Prop} (hQ : ∀ v s', Step X [] W s W s' → RV W (.str ⟨(pick x.cps.toList (q1.map (·.1)) (q2.map (·.1)) none).toArray⟩) v → Phi X W H s' → Q v s') : wpAny (model X.prog X.w) A (subscriptTail o sl (.str x tk) (.ref S)) Q E s := by
  refine tail_any (T := "str") (typeIs_str _ x tk) PyProof.Rows.slot_str_getitem.lookup (wpAny_getItem_str_slice hsl rfl ?_) hops
  unfold sliceMade
  split
  · rename_i hfull
    have := pick_full (l := q1) (u := q2) (x := x) (by simpa using hfull)
    exact hQ _ _ .refl (by rw [this]; exact .str _ _) p4
  · refine ⟨?_, ?_⟩
    · show ((slicePicked x q1 q2 none).filterMap (x.cps[·]?)).toArray.size ≤ sizeLine
      rw [pick_str, List.size_toArray, sizeLine_eq]
      exact Nat.le_trans (pick_str_le x _ _) (Nat.le_trans hlen (by decide))
    · rw [pick_str]
      exact hQ _ _ (.tok _) (.str _ _) (p4.tok _)
theorem fSlice_of {o : D} {a b c : Option Int} {d : D} {P : D → D → Prop} (k1 : ∀ x, c = none → x.length ≤ 1000000 → P (.str x) (.str ⟨(pick x.cps.toList a b none).toArray⟩))
    (k2 : ∀ xs, itsOf o H = some xs → xs.length ≤ 1000000 ∧ c ≠ some 0 → P o (.lst (pick xs a b c))) (h : fSlice o a b c H = some d) : P o d := by
  unfold fSlice at h
  cases o with
  | str x => exact ifI (fun h => k1 x h.1 h.2) h
  | _ => exact bindI (fun xs h => ifI (fun hc => k2 xs h hc)) h
theorem RV.strI {x : Str} {v : Value} (h : RV W (.str x) v) : ∃ tk, v = .str x tk := by cases h; exact ⟨_, rfl⟩
theorem sim_slice {p : XE} {lo hi st : Option XE} {o : Expr} {lower upper step : Option Expr} {ps pos : Pos} (h : SimE X n sc names p o) (h1 : SimP X n sc names lo lower) (h2 : SimP X n sc names hi upper) (h3 : SimP X n sc names st step)
    (hs : ∀ ov iv, ∃ ops, subscripted (.Slice lower upper step ps) false ov iv = operate ops (getItem ov iv) := by intros; exact ⟨_, by with_unfolding_all rfl⟩) : SimE X n sc names (xSlice p lo hi st) (.Subscript o (.Slice lower upper step ps) pos) := by
  intro env A W s vs H d H' hE hA hp ph hv
  revert hp
  refine bindI2 fun od H0 h0 => bindI2 fun a H1 ha => bindI2 fun b H2 hb => bindI2 fun c H3 hc => ?_
  refine mapP (g := fun d => d) (P := fun d H' => wpS X A [] (eval (o.Subscript (Expr.Slice lower upper step ps) pos) env) W s (Ans X d H')) (fun d hd => ?_)
  refine Subscript_ ?_
  refine wpS_ans (h env A W s vs H od H0 hE hA h0 ph hv) fun ov W0 s0 t0 r0 p0 => ?_
  clear h0 ph
  refine wpAny_Slice ?_
  refine part_ok h1 hE hA ha p0 (hv.nil t0) fun q1 W1 s1 t1 e1 p1 => ?_
  refine part_ok h2 hE hA hb p1 (hv.nil (t0.trans t1)) fun q2 W2 s2 t2 e2 p2 => ?_
  refine part_ok h3 hE hA hc p2 (hv.nil ((t0.trans t1).trans t2)) fun q3 W3 s3 t3 e3 p3 => ?_
  clear ha hb hc hv p0 p1 p2
  have t := ((t0.trans t1).trans t2).trans t3
  replace r0 : RV W3 od ov := ((r0.grow t1.grow).grow t2.grow).grow t3.grow
  clear t0 t1 t2 t3
  subst e1 e2 e3
  obtain ⟨ops, hops⟩ := hs ov (.ref s3.heap.objs.size)
  have hsl : (s3.heap.push { cls := .type "slice", data := .fields #[partValue q1, partValue q2, partValue q3] }).IsSliceOf s3.heap.objs.size (partValue q1) (partValue q2) (partValue q3) := ⟨_, Heap.get?_push_size _ rfl, rfl, rfl⟩
  refine fSlice_of (P := fun od d => RV W3 od ov → wpAny (model X.prog X.w) A (subscriptTail o (.Slice lower upper step ps) ov (.ref s3.heap.objs.size)) (After X [] W s (Ans X d H3)) (fun _ _ => False) { s3 with heap := s3.heap.push _ }) (fun x hc hlen r0 => ?_) (fun xs hx hc r0 => ?_) hd r0
  · obtain ⟨tk, rfl⟩ := r0.strI
    cases q3 with
    | some z => cases hc
    | none => exact slice_str (p3.push _) hlen hsl hops fun v s' t' r p => ⟨_, t.trans (.trans ⟨.push _, .refl _ _⟩ t'), r, p⟩
  · exact slice_lists r0 (p3.push _) hx hc hsl hops fun v W' s' t' r p => ⟨_, t.trans (.trans ⟨.push _, .refl _ _⟩ t'), r, p⟩
end
end Mine
open PySem PySem.W PyProof.Rows
namespace Mine
section
variable {X : Cx} {n : Nat} {sc : Scope} {names : List Str} {A : Around} {W : Wd} {s : Shared} {H : Hp}

/-- a + b -/
noncomputable def fAdd (a b : D) (H : Hp) : Option D := match a, b with
  | .int i, .int j => some (.int (i + j))
  | .str x, .str y => if x.length + y.length ≤ 1000000 then some (.str (x ++ y)) else none
  | a, b => (itsOf a H).bind fun xs => (itsOf b H).bind fun ys => if xs.length + ys.length ≤ 1000000 then some (.lst (xs ++ ys)) else none

theorem add_lists_at {a b : Addr} {vs us : List Value} {m k : Nat} {Q : Value → Shared → Prop} {E : Value → Shared → Prop} (ea : s.heap.get? a = some (seqObj "list" vs m)) (eb : s.heap.get? b = some (seqObj "list" us k)) (hsz : vs.length + us.length ≤ 1000000)
    (hQ : Q (.ref s.heap.objs.size) { s with heap := s.heap.push (seqObj "list" (vs ++ us) 0) }) : wpAny (model X.prog X.w) A (binaryOp .Add (.ref a) (.ref b)) Q E s := by
  have e : vs.toArray ++ us.toArray = (vs ++ us).toArray := by simp
  refine concat_meets ⟨_, ea, rfl⟩ ⟨_, eb, rfl⟩ noFill_list_add seq_list_add PySem.F.slot_list_add PySem.F.entry_list_add (PySem.F.args_list_add_2 _ _) (list_addW a b vs.toArray us.toArray m k none none #[] #[] (by rw [List.size_toArray, List.size_toArray, sizeLine_eq]; omega)) ⟨ea, eb, ?_⟩
  rw [e]; exact hQ

/-- a new frozen list in the heap -/
theorem frozen_new {us : List Value} {ys : List D} {T : String} (p : Phi X W H s) (r : RVs W ys us) : ∃ W', Step X [] W s W' { s with heap := s.heap.push (seqObj T us 0) } ∧ W'.Z s.heap.objs.size = some (seqObj T us 0) ∧ RVs W' ys us ∧ Phi X W' H { s with heap := s.heap.push (seqObj T us 0) } := by
  have hn := get?_size_none s.heap
  have g : Grow s W (W.frz s.heap.objs.size (seqObj T us 0)) := .frz hn (p.z_none hn)
  exact ⟨_, ⟨.push _, g⟩, Wd.frz_self .., r.grow g, p.frozen (s' := { s with heap := s.heap.push (seqObj T us 0) }) hn (fun b q e => Heap.get?_push_of_some _ e) (Heap.get?_push_size _ rfl)⟩

theorem pr_addA : Pr2 X n (binaryOp .Add) fAdd := by
  intro A W s H a b u v d hA hf ra rb ph
  unfold fAdd at hf
  split at hf
  · cases hf; cases ra; cases rb
    exact wpAny_add_int ⟨W, .tok _, .int _ _, ph.tok _⟩
  · split at hf
    case isFalse => cases hf
    rename_i hl
    cases hf; cases ra; cases rb
    exact add_str (fun t' tk => ⟨W, .tok _, .str _ _, ph.tok _⟩) (by rw [sizeLine_eq]; omega)
  · obtain ⟨xs, hx, hf⟩ := Option.bind_eq_some_iff.mp hf
    obtain ⟨ys, hy, hf⟩ := Option.bind_eq_some_iff.mp hf
    split at hf
    case isFalse => cases hf
    rename_i hl
    cases hf
    obtain ⟨aa, vs, m, rfl, ea, rs⟩ := its_at ra ph hx
    obtain ⟨bb, us, k, rfl, eb, rt⟩ := its_at rb ph hy
    refine add_lists_at ea eb (by rw [← rs.length, ← rt.length]; exact hl) ?_
    obtain ⟨W', t, z, r, p'⟩ := frozen_new (T := "list") ph (rs.append rt)
    exact ⟨W', t, .lst z r, p'⟩
theorem pr_iaddS : Pr2 X n (inplaceOp .Add) (fun a b H => match a, b with
  | .int i, .int j => some (.int (i + j))
  | .str x, .str y => if x.length + y.length ≤ 1000000 then some (.str (x ++ y)) else none
  | _, _ => none) := by
  intro A W s H a b u v d hA hf ra rb ph
  dsimp only at hf
  split at hf
  · cases hf; cases ra; cases rb
    exact wpAny_iadd_int ⟨W, .tok _, .int _ _, ph.tok _⟩
  · split at hf
    case isFalse => cases hf
    rename_i hl
    cases hf; cases ra; cases rb
    exact iadd_str (fun t' tk => ⟨W, .tok _, .str _ _, ph.tok _⟩) (by rw [sizeLine_eq]; omega)
  · cases hf
end
end Mine
open PySem PySem.W PyProof.Rows
namespace Mine
section
variable {X : Cx} {n : Nat} {sc : Scope} {names : List Str} {A : Around} {W : Wd} {s : Shared} {H : Hp}

noncomputable def asInt : D → Option Int
  | .int i => some i
  | _ => none
noncomputable def asStr : D → Option Str
  | .str x => some x
  | _ => none
theorem intI {d : D} {i : Int} (r : asInt d = some i) : d = .int i := by
  cases d with
  | int j => exact congrArg D.int (Option.some.inj r)
  | _ => exact noneI r
theorem asStrI {d : D} {i : Str} (r : asStr d = some i) : d = .str i := by
  cases d with
  | str j => exact congrArg D.str (Option.some.inj r)
  | _ => exact noneI r
theorem ints_are : ∀ {ds : List D} {vs : List Value} {ns : List Int}, ds.mapM asInt = some ns → RVs W ds vs → IntsAre vs ns := by
  intro xs
  induction xs with
  | nil =>
    intro vs ys h r
    rw [List.mapM_nil] at h
    exact someI (P := fun ys => IntsAre vs ys) ((show vs = [] from r.inv).symm ▸ .nil) h
  | cons d xs ih =>
    intro vs ys h r
    rw [List.mapM_cons] at h
    revert h
    refine bindI fun y h1 => bindI fun ys' h2 h => ?_
    obtain ⟨u, us, e, r, rs⟩ := r.inv
    rw [intI h1] at r
    obtain ⟨t, e'⟩ := r.inv
    exact someI (P := fun ys => IntsAre vs ys) (e.symm ▸ e'.symm ▸ .cons _ _ (ih h2 rs)) h
theorem strs_are : ∀ {ds : List D} {vs : List Value} {ns : List Str}, ds.mapM asStr = some ns → RVs W ds vs → ∃ l : List (Str × Tok), vs = strValues l ∧ l.map (·.1) = ns := by
  intro xs
  induction xs with
  | nil =>
    intro vs ys h r
    rw [List.mapM_nil] at h
    exact ⟨[], r.inv, Option.some.inj h⟩
  | cons d xs ih =>
    intro vs ys h r
    rw [List.mapM_cons] at h
    revert h
    refine bindI fun y h1 => bindI fun ys' h2 h => ?_
    obtain ⟨u, us, e, r, rs⟩ := r.inv
    rw [asStrI h1] at r
    obtain ⟨t, e'⟩ := r.inv
    obtain ⟨l, e1, e2⟩ := ih h2 rs
    exact ⟨(y, t) :: l, by rw [e, e', e1]; rfl, (congrArg (y :: ·) e2).trans (Option.some.inj h)⟩
/-- len -/
noncomputable def gLen (ds : List D) (H : Hp) : Option (D × Hp) := match ds with
  | [.str x] => if x.length ≤ 1000000 then some (.int x.length, H) else none
  | [d] => (itsOf d H).bind fun xs => if xs.length ≤ 1000000 then some (.int xs.length, H) else none
  | _ => none
theorem len_its {d d' : D} {u : Value} {H' : Hp} (r : RV W d u) (ph : Phi X W H s) (h : ((itsOf d H).bind fun xs => if xs.length ≤ 1000000 then some (D.int xs.length, H) else none) = some (d', H')) : wpS X A [] (call (.builtin "len") [u]) W s (Ans X d' H') := by
  refine bindI (P := wpS X A [] (call (.builtin "len") [u]) W s (Ans X d' H')) (fun xs hx => ifI (P := fun x : D × Hp => wpS X A [] (call (.builtin "len") [u]) W s (Ans X x.1 x.2)) fun hl => ?_) h
  obtain ⟨a, vs, m, rfl, e, rs⟩ := its_at r ph hx
  have hz : vs.toArray.size = xs.length := by rw [List.size_toArray, rs.length]
  refine Calls.call_len_list (isList_of e) (by rw [hz]; omega) ?_
  rw [hz]
  exact ⟨W, .tok _, .int _ _, ph.tok _⟩
theorem ct_len : Ct X n (.builtin "len") gLen := by
  intro A W s H ds us d H' hA hG rus ph
  rcases ds with _ | ⟨a, _ | _⟩
  · exact noneI hG
  · obtain ⟨u, rfl, r⟩ := rus.inv1
    cases a with
    | str x =>
      obtain ⟨t, rfl⟩ := r.inv
      refine ifI (P := fun x : D × Hp => wpS X A [] (call (.builtin "len") _) W s (Ans X x.1 x.2)) (fun hl => ?_) hG
      exact len_str (by omega) ⟨W, .tok _, .int _ _, ph.tok _⟩
    | lst _ => exact len_its r ph hG
    | own _ => exact len_its r ph hG
    | _ => exact noneI hG
  · cases a with
    | _ => exact noneI hG

/-- sum of ints -/
noncomputable def gSum (ds : List D) (H : Hp) : Option (D × Hp) := match ds with
  | [d] => (itsOf d H).bind fun xs => (xs.mapM asInt).map fun ns => (.int ns.sum, H)
  | _ => none
theorem ints_nums {vs : List Value} {ns : List Int} (hi : IntsAre vs ns) : ∃ ys : Array (Int × Tok), vs.toArray = intItems ys ∧ ns = ys.toList.map (·.1) := by
  obtain ⟨ys, ey⟩ := hi.allInts.items
  exact ⟨ys, ey, by rw [← hi.numsOf, ← nums_intItems, ← ey]⟩
theorem ct_sum : Ct X n (.builtin "sum") gSum := by
  intro A W s H ds us d H' hA hG rus ph
  rcases ds with _ | ⟨a, _ | _⟩
  · exact noneI hG
  · obtain ⟨u, rfl, r⟩ := rus.inv1
    refine bindI (fun xs hx => mapI (P := fun x : D × Hp => wpS X A [] (call (.builtin "sum") [u]) W s (Ans X x.1 x.2)) fun ns hn => ?_) hG
    obtain ⟨a, vs, m, rfl, e, rs⟩ := its_at r ph hx
    obtain ⟨ys, ey, hns⟩ := ints_nums (ints_are hn rs)
    refine sum_intListG hA.hd (ey ▸ isList_of e) fun h' tk t' hk => ?_
    rw [preSum_eq, List.take_of_length_le (by simp), ← hns]
    exact ⟨W, .ext hk (.refl _ _), .int _ _, ph.ext hk⟩
  · exact noneI hG

/-- the greatest -/
noncomputable def maxOf : List Int → Option Int
  | [] => none
  | x :: xs => some (xs.foldl max x)
theorem foldl_max : ∀ (xs : List Int) (x : Int), (x ≤ xs.foldl max x) ∧ (∀ a ∈ xs, a ≤ xs.foldl max x) ∧ (xs.foldl max x = x ∨ xs.foldl max x ∈ xs)
  | [], x => ⟨Int.le_refl _, by simp, .inl rfl⟩
  | y :: ys, x => by
    obtain ⟨h1, h2, h3⟩ := foldl_max ys (max x y)
    rw [List.foldl_cons]
    refine ⟨by omega, fun a ha => ?_, ?_⟩
    · rcases List.mem_cons.mp ha with rfl | ha
      · omega
      · exact h2 a ha
    · rcases h3 with h3 | h3
      · rcases Int.le_total x y with q | q
        · right; rw [h3, Int.max_eq_right q]; exact .head _
        · left; rw [h3, Int.max_eq_left q]
      · right; exact .tail _ h3
theorem maxOf_unique {ns : List Int} {m M : Int} (h : maxOf ns = some m) (h1 : M ∈ ns) (h2 : ∀ a ∈ ns, a ≤ M) : M = m := by
  cases ns with
  | nil => cases h
  | cons x xs =>
    cases h
    obtain ⟨q1, q2, q3⟩ := foldl_max xs x
    have h3 : xs.foldl max x ≤ M := by
      rcases q3 with q3 | q3
      · rw [q3]; exact h2 x (.head _)
      · exact h2 _ (.tail _ q3)
    have h4 : M ≤ xs.foldl max x := by
      rcases List.mem_cons.mp h1 with rfl | h1
      · exact q1
      · exact q2 M h1
    omega
noncomputable def gMax (ds : List D) (H : Hp) : Option (D × Hp) := match ds with
  | [.int a, .int b] => some (.int (max a b), H)
  | [d] => (itsOf d H).bind fun xs => (xs.mapM asInt).bind fun ns => (maxOf ns).map fun m => (.int m, H)
  | _ => none
theorem gMax_one (d : D) (H : Hp) : gMax [d] H = (itsOf d H).bind fun xs => (xs.mapM asInt).bind fun ns => (maxOf ns).map fun m => (.int m, H) := by cases d <;> rfl
theorem maxOf_ys {ns : List Int} {M : Int} {ys : Array (Int × Tok)} (hM : maxOf ns = some M) (hns : ns = ys.toList.map (·.1)) : 0 < ys.size ∧ numAt ys (argBest (fun i j => decide (numAt ys i > numAt ys j)) (ys.size - 1)) = M := by
  have hl : ns.length = ys.size := by rw [hns, List.length_map, Array.length_toList]
  have hsz : 0 < ys.size := by
    cases ns with
    | nil => exact noneI hM
    | cons z zs => exact hl ▸ Nat.succ_pos _
  have h12 := argBest_gt (numAt ys) (ys.size - 1)
  refine ⟨hsz, maxOf_unique hM (by rw [hns, numAt_eq]; exact getD_mem (by rw [← hns, hl]; exact Nat.lt_of_le_of_lt h12.1 (Nat.sub_lt hsz Nat.one_pos))) fun b hb => ?_⟩
  rw [hns] at hb
  obtain ⟨j, hj, rfl⟩ := mem_getD hb
  rw [← hns, hl] at hj
  rw [← numAt_eq]
  exact h12.2 j (Nat.le_sub_one_of_lt hj)
theorem ct_max : Ct X n (.builtin "max") gMax := by
  intro A W s H ds us d H' hA hG rus ph
  rcases ds with _ | ⟨a, _ | ⟨b, _ | _⟩⟩
  · exact noneI hG
  · obtain ⟨u, rfl, r⟩ := rus.inv1
    rw [gMax_one] at hG
    refine bindI (fun xs hx => bindI fun ns hn => mapI (P := fun x : D × Hp => wpS X A [] (call (.builtin "max") [u]) W s (Ans X x.1 x.2)) fun M hM => ?_) hG
    obtain ⟨a, vs, m, rfl, e, rs⟩ := its_at r ph hx
    obtain ⟨ys, ey, hns⟩ := ints_nums (ints_are hn rs)
    have k := maxOf_ys hM hns
    refine max_intList hA.hd (ey ▸ isList_of e) k.1 fun v h' tk hv hk => ?_
    obtain ⟨t, rfl⟩ := intItems_at hv
    rw [k.2]
    exact ⟨W, .ext hk (.refl _ _), .int _ _, ph.ext hk⟩
  · obtain ⟨u, v, rfl, r, r'⟩ := rus.inv2
    cases a with
    | int i => cases b with
      | int j =>
        obtain ⟨t, rfl⟩ := r.inv
        obtain ⟨t', rfl⟩ := r'.inv
        refine some2I (P := fun d H' => wpS X A [] (call (.builtin "max") _) W s (Ans X d H')) (max_two_ints hA.hd fun h' tk hk => ⟨W, .ext hk (.refl _ _), ?_, ph.ext hk⟩) hG
        by_cases q : j > i
        · rw [if_pos q, Int.max_eq_right (Int.le_of_lt q)]; exact .int _ _
        · rw [if_neg q, Int.max_eq_left (Int.not_lt.mp q)]; exact .int _ _
      | _ => exact noneI hG
    | _ => exact noneI hG
  · cases a with
    | int i => cases b with
      | _ => exact noneI hG
    | _ => exact noneI hG

/-- chr -/
noncomputable def gChr (ds : List D) (H : Hp) : Option (D × Hp) := match ds with
  | [.int i] => if 0 ≤ i ∧ i.toNat < 55296 then some (.str ⟨#[i.toNat]⟩, H) else none
  | _ => none
theorem ct_chr : Ct X n (.builtin "chr") gChr := by
  intro A W s H ds us d H' hA hG rus ph
  rcases ds with _ | ⟨a, _ | _⟩
  · exact noneI hG
  · obtain ⟨u, rfl, r⟩ := rus.inv1
    cases a with
    | int i =>
      obtain ⟨t, rfl⟩ := r.inv
      exact ifI (P := fun x : D × Hp => wpS X A [] (call (.builtin "chr") _) W s (Ans X x.1 x.2)) (fun hi => P.chr_of_int (by simp; omega) ⟨W, .tok _, .str _ _, ph.tok _⟩) hG
    | _ => exact noneI hG
  · cases a with
    | _ => exact noneI hG

/-- ''.join -/
noncomputable def isStrD (o : D) (_ : Hp) : Bool := match o with
  | .str _ => true
  | _ => false
noncomputable def gJoin (o : D) (ds : List D) (H : Hp) : Option (D × Hp) := match o, ds with
  | .str sep, [d] => (itsOf d H).bind fun xs => (xs.mapM asStr).bind fun ts => if JoinOk sep ts then some (.str (Txt.join sep ts), H) else none
  | _, _ => none
set_option maxRecDepth 100000 in
theorem mt_join : Mt X n "join" isStrD gJoin := by
  intro A W s H o ov pl hA hok r p
  cases o with
  | str x =>
    obtain ⟨t, rfl⟩ := r.inv
    refine GM.join ⟨W, .refl, p, .builtin, ?_⟩
    intro A' W' s' H' ds us d H'' l hA' hG rus ph
    clear p r hok hA
    rcases ds with _ | ⟨a, _ | _⟩
    · exact noneI hG
    · obtain ⟨u, rfl, r⟩ := rus.inv1
      refine bindI (fun xs hx => bindI fun ts hn => ifI (P := fun x : D × Hp => wpS X A' [] _ W' s' (Ans X x.1 x.2)) fun hj => ?_) hG
      obtain ⟨a, vs, m, rfl, e, rs⟩ := its_at r ph hx
      obtain ⟨l, rfl, hl⟩ := strs_are hn rs
      exact SC.join (isList_of e) hl hj fun t' k => ⟨W', .tok _, .str _ _, ph.tok _⟩
    · exact noneI hG
  | _ => exact nomatch hok
end
end Mine
open PySem PySem.W PyProof.Rows
namespace Mine

theorem occ1 (x : Str) (c limit : Nat) : ∀ (k a : Nat) (st : Array Nat × Nat), st.2 ≤ a → st.1.size + k ≤ limit → (forIn (List.range' a k) st (StrLaws.occBody x ⟨#[c]⟩ x.length limit)).run.fst.size = st.1.size + ((x.cps.toList.drop a).take k).count c
  | 0, a, st, _, _ => by simp
  | k + 1, a, st, h1, h2 => by
    rw [List.range'_succ, List.forIn_cons]
    unfold StrLaws.occBody
    by_cases hq : x.cps.toList[a]? = some c
    · obtain ⟨ha, hc⟩ := List.getElem?_eq_some_iff.mp hq
      obtain ⟨s1, s2⟩ := (StrLaws.subAt_one x c a).mpr hq
      have hd : (x.cps.toList.drop a).take (k + 1) = c :: ((x.cps.toList.drop (a + 1)).take k) := by
        rw [List.drop_eq_getElem_cons ha, List.take_succ_cons, hc]
      rw [if_pos ⟨⟨⟨by omega, h1⟩, s1⟩, s2⟩]
      have ih := occ1 x c limit k (a + 1) (st.1.push a, a + 1) (Nat.le_refl _) (by simp; omega)
      have e : (pure (ForInStep.yield (st.fst.push a, a + (⟨#[c]⟩ : Str).length)) >>= fun r => match r with
        | .done b => pure b
        | .yield b => forIn (List.range' (a + 1) k) b (StrLaws.occBody x ⟨#[c]⟩ x.length limit) : Id (Array Nat × Nat)) = forIn (List.range' (a + 1) k) (st.1.push a, a + 1) (StrLaws.occBody x ⟨#[c]⟩ x.length limit) := rfl
      refine Eq.trans (congrArg (fun z : Id (Array Nat × Nat) => z.run.fst.size) e) ?_
      rw [ih, hd, List.count_cons]
      simp; omega
    · have hs : ¬ (((st.fst.size < limit ∧ st.snd ≤ a) ∧ a + (⟨#[c]⟩ : Str).length ≤ x.length) ∧ Builtin.Str.subAt x ⟨#[c]⟩ a = true) := fun q => hq ((StrLaws.subAt_one x c a).mp ⟨q.1.2, q.2⟩)
      rw [if_neg hs]
      have ih := occ1 x c limit k (a + 1) st (Nat.le_succ_of_le h1) (by omega)
      have e : (pure (ForInStep.yield (st.fst, st.snd)) >>= fun r => match r with
        | .done b => pure b
        | .yield b => forIn (List.range' (a + 1) k) b (StrLaws.occBody x ⟨#[c]⟩ x.length limit) : Id (Array Nat × Nat)) = forIn (List.range' (a + 1) k) st (StrLaws.occBody x ⟨#[c]⟩ x.length limit) := rfl
      refine Eq.trans (congrArg (fun z : Id (Array Nat × Nat) => z.run.fst.size) e) ?_
      rw [ih]
      by_cases ha : a < x.cps.toList.length
      · have hne : ¬ x.cps.toList[a] = c := fun q => hq (by rw [List.getElem?_eq_getElem ha, q])
        rw [show (x.cps.toList.drop a).take (k + 1) = x.cps.toList[a] :: ((x.cps.toList.drop (a + 1)).take k) from by rw [List.drop_eq_getElem_cons ha, List.take_succ_cons], List.count_cons, if_neg (by simpa using hne)]
        rfl
      · rw [List.drop_of_length_le (by omega : x.cps.toList.length ≤ a), List.drop_of_length_le (by omega : x.cps.toList.length ≤ a + 1)]
        simp
theorem occ_count (x : Str) (c : Nat) : (Builtin.Str.occurrences x ⟨#[c]⟩ 0 x.length (x.length + 1)).length = x.cps.toList.count c := by
  rw [StrLaws.occ_eq, Array.length_toList, occ1 x c (x.length + 1) (x.length + 1 - 0) 0 (#[], 0) (Nat.le_refl _) (by simp)]
  rw [List.drop_zero, List.take_of_length_le (by simp [Str.length])]
  simp

section
variable {X : Cx} {n : Nat} {sc : Scope} {names : List Str} {A : Around} {W : Wd} {s : Shared} {H : Hp}

/-- x.count(sign) -/
noncomputable def gCountS (o : D) (ds : List D) (H : Hp) : Option (D × Hp) := match o, ds with
  | .str x, [.str ⟨⟨[c]⟩⟩] => some (.int (x.cps.toList.count c : Nat), H)
  | _, _ => none
theorem gCountSI {x : Str} {d : D} {ds : List D} {H' : Hp} {P : D → Hp → Prop} (q : ∀ c, ds = [.str ⟨#[c]⟩] → P (.int (x.cps.toList.count c : Nat)) H) (h : gCountS (.str x) ds H = some (d, H')) : P d H' := by
  rcases ds with _ | ⟨a, r⟩
  · exact noneI h
  · cases a with
    | str y =>
      obtain ⟨⟨ys⟩⟩ := y
      rcases ys with _ | ⟨c, _ | _⟩
      · cases r <;> exact noneI h
      · cases r with
        | nil => exact some2I (q c rfl) h
        | cons _ _ => exact noneI h
      · cases r <;> exact noneI h
    | _ => cases r <;> exact noneI h
set_option maxRecDepth 100000 in
theorem mt_countS : Mt X n "count" isStrD gCountS := by
  intro A W s H o ov pl hA hok r p
  cases o with
  | str x =>
    obtain ⟨t, rfl⟩ := r.inv
    refine GM.count ⟨W, .refl, p, .builtin, ?_⟩
    intro A' W' s' H' ds us d H'' l hA' hG rus ph
    clear p r hok hA
    refine gCountSI (P := fun d H'' => wpS X A' [] _ W' s' (Ans X d H'')) (fun c ed => ?_) hG
    obtain ⟨u, rfl, r⟩ := (ed ▸ rus : RVs W' [.str ⟨#[c]⟩] us).inv1
    obtain ⟨t', rfl⟩ := r.inv
    refine call_gives PySem.F.slot_str_count (typeIs_str _ _ _) PySem.F.entry_str_count (PySem.F.args_str_count_2 _ _) (gives_str_count _ _ _ _) ?_
    rw [occ_count]
    exact ⟨W', .tok _, .int _ _, ph.tok _⟩
  | _ => exact nomatch hok

/-- list(x): of a text a new own list, of a list a frozen copy -/
noncomputable def gList (ds : List D) (H : Hp) : Option (D × Hp) := match ds with
  | [.str x] => if x.length ≤ 1000000 then some (.own H.length, H ++ [.list (signs x)]) else none
  | [d] => (itsOf d H).bind fun xs => if xs.length ≤ 1000000 then some (.lst xs, H) else none
  | _ => none
theorem rvs_of_signs {x : Str} {vs : List Value} (h : ItemsOf (SignAt x) vs.toArray x.cps.size) : RVs W (signs x) vs := by
  have hl : (signs x).length = vs.length := by have := h.1; simp at this; simp [signs, this]
  have key : ∀ (ds : List D) (us : List Value), ds.length = us.length → (∀ (j : Nat) (d : D) (v : Value), ds[j]? = some d → us[j]? = some v → RV W d v) → RVs W ds us := by
    intro ds
    induction ds with
    | nil => intro us h _; cases us with | nil => exact .nil | cons _ _ => cases h
    | cons d ds ih =>
      intro us h hr
      cases us with
      | nil => cases h
      | cons u us => exact .cons (hr 0 d u rfl rfl) (ih us (by simpa using h) fun j e v a b => hr (j + 1) e v (by simpa using a) (by simpa using b))
  refine key _ _ hl fun j d v hd hv => ?_
  obtain ⟨c, t, hc, rfl⟩ := h.2 j v (by simpa using hv)
  unfold signs at hd
  rw [List.getElem?_map, Array.getElem?_toList, hc] at hd
  cases hd
  exact .str _ _
theorem list_its {d d' : D} {u : Value} {H' : Hp} (r : RV W d u) (ph : Phi X W H s) (h : ((itsOf d H).bind fun xs => if xs.length ≤ 1000000 then some (D.lst xs, H) else none) = some (d', H')) : wpS X A [] (call (.type "list") [u]) W s (Ans X d' H') := by
  refine bindI (P := wpS X A [] (call (.type "list") [u]) W s (Ans X d' H')) (fun xs hx => ifI (P := fun x : D × Hp => wpS X A [] (call (.type "list") [u]) W s (Ans X x.1 x.2)) fun hl => ?_) h
  obtain ⟨a, vs, m, rfl, e, rs⟩ := its_at r ph hx
  clear r hx h
  refine call_list_seq a (T := "list") (.inl rfl) e rfl rfl (fun h' c' hk e' => ?_) (by rw [List.size_toArray, ← rs.length, sizeLine_eq]; omega)
  have hn := get?_size_none s.heap
  have g : Grow s W (W.frz s.heap.objs.size (seqObj "list" vs c')) := .frz hn (ph.z_none hn)
  exact ⟨_, .ext (t := s.toks) hk g, .lst (Wd.frz_self ..) (rs.grow g), ph.frozen hn hk e'⟩
theorem ct_list : Ct X n (.type "list") gList := by
  intro A W s H ds us d H' hA hG rus ph
  rcases ds with _ | ⟨b, _ | _⟩
  · exact noneI hG
  · obtain ⟨u, rfl, r⟩ := rus.inv1
    cases b with
    | str x =>
      obtain ⟨t, rfl⟩ := r.inv
      refine ifI (P := fun x : D × Hp => wpS X A [] (call (.type "list") _) W s (Ans X x.1 x.2)) (fun hl => ?_) hG
      refine call_list_str hA.hd x t (fun h' tk acc c' hk e hi => ?_) (by rw [sizeLine_eq]; have : x.cps.size = x.length := rfl; omega)
      have hn := get?_size_none s.heap
      exact ⟨_, .ext hk (.more hn), .own (more_get ph _), ph.more (s' := { s with heap := h', toks := tk }) hn hk ⟨acc.toList, c', by rw [e], rvs_of_signs hi⟩⟩
    | lst _ => exact list_its r ph hG
    | own _ => exact list_its r ph hG
    | _ => exact noneI hG
  · cases b with
    | _ => exact noneI hG
end
end Mine
open PySem PySem.W PyProof.Rows
namespace Mine
section
variable {X : Cx} {n : Nat} {sc : Scope} {names : List Str} {A : Around} {W : Wd} {s : Shared} {H : Hp}

/-- {} -/
noncomputable def xDict : XE := fun _ H => some (.own H.length, H ++ [.dict 0 fun _ => none])
theorem sim_dict {pos : Pos} : SimE X n sc names xDict (.Dict [] [] pos) := by
  intro env A W s vs H d H' hE hA hp ph hv
  cases hp
  refine wpAny_Dict_empty ?_
  have hn := get?_size_none s.heap
  have g : Grow s W (W.more s.heap.objs.size) := .more hn
  exact ⟨_, ⟨.push _, g⟩, .own (more_get ph _), ph.more (s' := { s with heap := s.heap.push { cls := .type "dict", data := .dict #[] } }) hn (fun b q e => Heap.get?_push_of_some _ e) ⟨[], Heap.DictOf.new s.heap, Nat.le_refl _, fun k => trivial⟩⟩

theorem mapSeq_eq (f : Array Value → Array Value) (vs : List Value) (m : Nat) : ∃ m', Obj.mapSeq f (seqObj "list" vs m) = { cls := .type "list", data := .seq (f vs.toArray) m' } := by
  exact ⟨_, rfl⟩
/-- o[i] = v -/
noncomputable def gSetItem (o i d : D) (H : Hp) : Option Hp := match o, i with
  | .own k, .int i => match H[k]? with
    | some (.list xs) => if 0 ≤ i ∧ i < xs.length ∧ xs.length ≤ 1000000 then some (H.set k (.list (xs.set i.toNat d))) else none
    | _ => none
  | .own k, .str x => match H[k]? with
    | some (.dict m f) => if m ≤ 100000 then some (H.set k (.dict (m + 1) fun y => if y = x then some d else f y)) else none
    | _ => none
  | _, _ => none
theorem set_listV {k a : Nat} {i : Int} {t : Tok} {d : D} {v : Value} {xs : List D} (hk : H[k]? = some (.list xs)) (ha : W.mu[k]? = some a) (hc : 0 ≤ i ∧ i < xs.length ∧ xs.length ≤ 1000000) (rd : RV W d v) (p : Phi X W H s) {Q : Unit → Shared → Prop} {E : Value → Shared → Prop}
    (hQ : ∀ s', Step X [] W s W s' → Phi X W (H.set k (.list (xs.set i.toNat d))) s' → Q () s') : wpAny (model X.prog X.w) A (setItem (.ref a) (.int i t) v) Q E s := by
  obtain ⟨vs, m, e, rs⟩ := p.own _ _ _ hk ha
  have hz : vs.toArray.size = xs.length := by rw [List.size_toArray, rs.length]
  refine ki_setAt (n := m) e hc.1 (by omega) (by rw [hz]; exact hc.2.1) ?_
  obtain ⟨m', hm'⟩ : ∃ m', Obj.mapSeq (·.setIfInBounds i.toNat v) (seqObj "list" vs m) = seqObj "list" (vs.set i.toNat v) m' := by
    have q := mapSeq_eq (fun xs => xs.setIfInBounds i.toNat v) vs m
    simp only [List.setIfInBounds_toArray] at q
    exact q
  have := own_update (t := s.toks) p hk ha (Heap.SameBut.update ..) ((Heap.get?_update_self _ e (by rw [hm']; rfl)).trans (congrArg some hm')) (rs.set rd)
  exact hQ _ this.1 this.2
theorem set_key {k a m : Nat} {x : Str} {t : Tok} {d : D} {v : Value} {f : Str → Option D} (hk : H[k]? = some (.dict m f)) (ha : W.mu[k]? = some a) (hc : m ≤ 100000) (rd : RV W d v) (p : Phi X W H s) {Q : Unit → Shared → Prop} {E : Value → Shared → Prop}
    (hQ : ∀ s', Step X [] W s W s' → Phi X W (H.set k (.dict (m + 1) fun y => if y = x then some d else f y)) s' → Q () s') : wpAny (model X.prog X.w) A (setItem (.ref a) (.str x t) v) Q E s := by
  obtain ⟨kvs, hd, hl, hr⟩ := p.own _ _ _ hk ha
  refine wpAny_setItem_pairs (knd := PySem.strKind X.prog X.w) (k := x) (by simp [PySem.strKind, Value.isStrOf]) hd (fun h' hd' hs => ?_) (by rw [sizeLine_eq]; omega)
  have hz := p.apart _ _ a hk ha nofun
  refine hQ _ ⟨.same hs (.inr (.inl ⟨List.mem_of_getElem? ha, hz⟩)) (hd'.elim fun o q => q.elim fun _ q => q.elim fun _ q => ⟨o, q.1⟩), .refl _ _⟩ (p.setOwn ha hz (fun b o hb q => (hs.2 b hb).trans q) ⟨_, hd', Nat.le_trans (stored_length_le kvs x v) (Nat.succ_le_succ hl), fun y => ?_⟩)
  rw [valueAt_stored]
  dsimp only
  by_cases q : y = x
  · rw [if_pos q, if_pos q]; exact rd
  · rw [if_neg q, if_neg q]; exact hr y
theorem gSetI {o i d : D} {H' : Hp} {P : D → D → Hp → Prop} (k1 : ∀ k i xs, H[k]? = some (.list xs) → 0 ≤ i ∧ i < (xs.length : Int) ∧ xs.length ≤ 1000000 → P (.own k) (.int i) (H.set k (.list (xs.set i.toNat d))))
    (k2 : ∀ k x m f, H[k]? = some (.dict m f) → m ≤ 100000 → P (.own k) (.str x) (H.set k (.dict (m + 1) fun y => if y = x then some d else f y))) (h : gSetItem o i d H = some H') : P o i H' := by
  cases o with
  | own k =>
    cases i with
    | int i =>
      dsimp only [gSetItem] at h
      generalize hk : H[k]? = co at h
      rcases co with _ | co
      · exact noneI h
      · cases co with
        | list xs => exact ifI (k1 k i xs hk) h
        | _ => exact noneI h
    | str x =>
      dsimp only [gSetItem] at h
      generalize hk : H[k]? = co at h
      rcases co with _ | co
      · exact noneI h
      · cases co with
        | dict m f => exact ifI (k2 k x m f hk) h
        | _ => exact noneI h
    | _ => exact noneI h
  | _ => exact noneI h
theorem set_item {o i d : D} {ov iv v : Value} {H' : Hp} (h : gSetItem o i d H = some H') (ro : RV W o ov) (ri : RV W i iv) (rd : RV W d v) (p : Phi X W H s) {Q : Unit → Shared → Prop} {E : Value → Shared → Prop}
    (hQ : ∀ s', Step X [] W s W s' → Phi X W H' s' → Q () s') : wpAny (model X.prog X.w) A (setItem ov iv v) Q E s := by
  refine gSetI (P := fun o i H' => RV W o ov → RV W i iv → (∀ s', Step X [] W s W s' → Phi X W H' s' → Q () s') → wpAny (model X.prog X.w) A (setItem ov iv v) Q E s) (fun k i xs hk hc ro ri hQ => ?_) (fun k x m f hk hc ro ri hQ => ?_) h ro ri hQ
  · obtain ⟨a, rfl, ha⟩ := ro.inv
    obtain ⟨t, rfl⟩ := ri.inv
    exact set_listV hk ha hc rd p hQ
  · obtain ⟨a, rfl, ha⟩ := ro.inv
    obtain ⟨t, rfl⟩ := ri.inv
    exact set_key hk ha hc rd p hQ
noncomputable def xSetI (po pi p : XE) : XS := fun vs H => (p vs H).bind fun a => (po vs a.2).bind fun o => (pi vs o.2).bind fun i => (gSetItem o.1 i.1 a.1 i.2).map fun H' => (.next, vs, H')
theorem sim_setitem {o i e : Expr} {pos' pos : Pos} {po pi p : XE} (ho : SimE X n sc names po o) (hi : SimE X n sc names pi i) (h : SimE X n sc names p e) (hs : ∀ env, EnvOk sc env → swapsWith e (some (.Subscript o i pos')) pos.line env = pure false := by intros; rfl) :
    SimS X n sc names (xSetI po pi p) (.Assign [.Subscript o i pos'] e pos) := by
  intro env A W s vs H r vs' H' hE hA hp ph hv
  refine bindI2 (fun a H0 h0 => bindI2 fun b H1 h1 => bindI2 fun c H2 h2 => mapI (P := fun x : Fl × Vs × Hp => wpS X A (frameOf names env) _ W s (AnsS X env names x.1 x.2.1 x.2.2)) fun H3 h3 => wpAny_Assign_Subscript ?_ (hs env hE)) hp
  refine wpS_ans (h env A W s vs H a H0 hE hA h0 ph hv) fun v W1 s1 t1 r1 p1 => ?_
  refine wpS_ans (ho env A W1 s1 vs H0 b H1 hE hA h1 p1 (hv.nil t1)) fun ov W2 s2 t2 r2 p2 => ?_
  refine wpS_ans (hi env A W2 s2 vs H1 c H2 hE hA h2 p2 (hv.nil (t1.trans t2))) fun iv W3 s3 t3 r3 p3 => ?_
  refine set_item h3 (r2.grow t3.grow) r3 ((r1.grow t2.grow).grow t3.grow) p3 fun s4 t4 p4 => ?_
  have t := ((t1.trans t2).trans t3).trans t4
  exact ⟨W3, t.nil, .next', p4, hv.nil t⟩

/-- the truth of a list -/
noncomputable def tLst (d : D) (H : Hp) : Option Bool := (itsOf d H).bind fun xs => if xs.length ≤ 1000000 then some (!xs.isEmpty) else none
theorem pr_truthy : Pr1 X n truthy tLst := by
  intro A W s H a u b hA hf ra ph
  refine bindI (fun xs hx => ifI (P := fun b => wpS X A [] (truthy u) W s (AnsB X b H)) fun hl => ?_) hf
  obtain ⟨ad, vs, m, rfl, e, rs⟩ := its_at ra ph hx
  have hz : vs.toArray.size = xs.length := by rw [List.size_toArray, rs.length]
  refine wpAny_truthy_list (isList_of e) (by rw [hz]; omega) ⟨W, .tok _, ?_, ph.tok _⟩
  cases rs <;> simp
end
end Mine
open PySem PySem.W PyProof.Rows
set_option maxRecDepth 100000
namespace Mine
theorem slot_citer_next : Slot "callable_iterator" "__next__" "callable_iterator.__next__" :=
  .of (owner := "callable_iterator") (n := "__next__") (by rw [typeLookup_type, builtinLookup_eq_fast]; kernel_rfl) (by decide +kernel) (by decide +kernel) (by decide +kernel)
    (by first | exact .inl (by decide +kernel) | exact .inr (by decide +kernel)) (by rw [isSubtype_type]; kernel_rfl)
theorem entry_citer_next : entryFor table "callable_iterator.__next__" = some Builtin.«callable_iterator.__next__» := entryFor_of_tree (by kernel_rfl)
theorem args_citer_next (a : Value) : argsOk "callable_iterator.__next__" ⟨[a], []⟩ := by unfold argsOk; kernel_rfl
theorem kind_iter : builtinKind "iter" = none := by decide +kernel
theorem plain_iter : plainId "iter" = true := by decide +kernel
theorem entry_iter : entryFor table "iter" = some Builtin.«iter» := entryFor_of_tree (by kernel_rfl)
theorem args_iter_2 (a b : Value) : argsOk "iter" ⟨[a, b], []⟩ := by unfold argsOk; kernel_rfl
theorem method_call_slot : typeLookup (.type "method") "__call__" = pure (some (.builtin "method.__call__")) := by rw [typeLookup_type, builtinLookup_eq_fast]; kernel_rfl
theorem wpAny_callBorrowed {M : Model} {A : Around} {E : Value → Shared → Prop} {s : Shared} {f : Value} {pos : List Value} {Q : Value → Shared → Prop}
    (hc : codeAny M A (.call f ⟨pos, []⟩) (fun r s' => match r with | .ok (.ret v) => Q v s' | .ok _ => False | .error e => E e s') s) : wpAny M A (callBorrowed f pos) Q E s := fun Γ p hΓ => by
  have h := hc (Γ.enter (.call f ⟨pos, []⟩) none p) p rfl (hΓ.enter (.call f ⟨pos, []⟩) none p (by intro x; cases x))
  show wpCode M (Γ.enter (.call f ⟨pos, []⟩) none p) _ p s
  have e : (fun r s' => Sem.wp M Γ ((fun | .ok (.ret v) => .pure v | .ok _ => .unsupported "internal:call-without-return-value" | .error e => .raise e : Result → Sem Value) r) (fun a _ s' => Q a s') (fun e _ s' => E e s') p s') = (fun (r : Result) s' => match r with | .ok (.ret v) => Q v s' | .ok _ => False | .error e => E e s') := by
    funext r s'
    cases r with
    | error e => rfl
    | ok f => cases f <;> rfl
  exact e ▸ h

/-- a contract, one step deeper -/
noncomputable def Cc (X : Cx) (n : Nat) (f : Value) (G : List D → Hp → Option (D × Hp)) : Prop :=
  ∀ (A : Around) (W : Wd) (s : Shared) (H : Hp) (ds : List D) (us : List Value) (d : D) (H' : Hp) (R : Result → Shared → Prop), Calm n A → G ds H = some (d, H') → RVs W ds us → Phi X W H s → (∀ v W' s', Step X [] W s W' s' → RV W' d v → Phi X W' H' s' → R (.ok (.ret v)) s') →
    codeAny (model X.prog X.w) A (.call f ⟨us, []⟩) R s

section
variable {X : Cx} {n : Nat} {sc : Scope} {names : List Str} {A : Around} {W : Wd} {s : Shared} {H : Hp}
theorem cc_def {a : Addr} {body : List Stmt} {params : List Str} {p : XS} (T : TopOk X) {fd : FuncData} (F : FunAt X a fd sc body params) (hS : FnScope sc names params) (h : SimF X n sc names (EnvFd fd) p body) : Cc X (n + 1) (.ref a) (xFun p params.length names.length) :=
  fun A W s H ds us d H' R hA hp r ph hR => fun_core T F hS h hA hp r ph hR
theorem stop_raised {α : Type} {B : Around} {Q : α → Shared → Prop} {E : Value → Shared → Prop} (hh : B.handled = none) (hE : ∀ e h', (∀ b o, s.heap.get? b = some o → h'.get? b = some o) → (∃ a o, e = .ref a ∧ h'.get? a = some o ∧ o.cls = .type "StopIteration") → E e { s with heap := h' }) :
    wpAny (model X.prog X.w) B (Builtin.SmallTypes.stopIteration : Sem α) Q E s := by
  unfold Builtin.SmallTypes.stopIteration
  refine wpAny_bind ?_
  simp only [newExc, newTuple]
  refine wpAny_bind (wpAny_newObj_type ?_ (by size_fits))
  refine wpAny_bind (m := firstArgMember _ _) (wpAny_of_eq (a := Value.none) (by first | rfl | (simp only [firstArgMember]; rfl)) ?_)
  refine wpAny_newObj_type ?_ (by size_fits)
  simp only [raiseNew]
  refine wpAny_bind (wpAny_handled ?_)
  rw [hh]
  refine wpAny_bind (wpAny_pure (wpAny_throw ?_))
  exact hE _ _ (fun b o e => Heap.get?_push_of_some _ (Heap.get?_push_of_some _ e)) ⟨_, _, rfl, Heap.get?_push_size _ rfl, rfl⟩
end
end Mine
open PySem PySem.W PyProof.Rows
set_option maxRecDepth 100000
namespace Mine
theorem str_empty {x : Str} (h : x.length = 0) : (⟨#[]⟩ : Str) = x := congrArg Str.mk (Array.eq_empty_of_size_eq_zero h).symm
section
variable {X : Cx} {n : Nat} {sc : Scope} {names : List Str} {A : Around} {W : Wd} {s : Shared} {H : Hp}

noncomputable def gNext (G : List D → Hp → Option (D × Hp)) (i : Nat) (H : Hp) : Option (Option D × Hp) := match H[i]? with
  | some (.citer _ true) => some (none, H)
  | some (.citer k false) => (G [.own k] H).bind fun a => match a.1, a.2[i]? with
    | .str x, some (.citer k' false) => if k' = k then (if x.length = 0 then some (none, a.2.set i (.citer k true)) else some (some (.str x), a.2)) else none
    | _, _ => none
  | _ => none

/-- what next() gives, or nothing -/
inductive OptR (W : Wd) : Option D → Option Value → Prop
  | none' : OptR W none none
  | some' {d : D} {v : Value} : RV W d v → OptR W (some d) (some v)
theorem gNextI {G : List D → Hp → Option (D × Hp)} {i : Nat} {r : Option D} {H' : Hp} {P : Option D → Hp → Prop} (k1 : ∀ k, H[i]? = some (.citer k true) → P none H)
    (k2 : ∀ k x H1, H[i]? = some (.citer k false) → G [.own k] H = some (.str x, H1) → H1[i]? = some (.citer k false) → P (if x.length = 0 then none else some (.str x)) (if x.length = 0 then H1.set i (.citer k true) else H1)) (hg : gNext G i H = some (r, H')) : P r H' := by
  unfold gNext at hg
  split at hg
  · exact some2I (k1 _ ‹_›) hg
  · rename_i k hk
    revert hg
    refine bindI2 fun d H1 hG hg => ?_
    dsimp only at hg
    split at hg
    · rename_i x k' hk1
      split at hg
      · rename_i e
        subst e
        have := k2 _ x H1 hk hG hk1
        split at hg <;> rename_i hx
        · rw [if_pos hx, if_pos hx] at this; exact some2I this hg
        · rw [if_neg hx, if_neg hx] at this; exact some2I this hg
      · cases hg
    · cases hg
  · cases hg
theorem borrows_rc {orc : Obj} {frc : FuncData} (h3 : orc.data = .func frc) {q ak : Addr} {Q : Bool → Shared → Prop} {E : Value → Shared → Prop} (e1 : s.heap.get? q = some (methodObj (.ref X.rc) (.ref ak))) (e2 : s.heap.get? X.rc = some orc) (hq : Q true s) : wpAny (model X.prog X.w) A (borrowsExactly (.ref q)) Q E s := by
  unfold borrowsExactly
  refine wpAny_bind (wpAny_load e1 (wpAny_bind (wpAny_load e2 ?_)))
  rw [h3]
  exact wpAny_pure hq
theorem citer_set {it : Addr} {u v w : Value} (ho : s.heap.get? it = some { cls := .type "callable_iterator", data := .fields #[u, v, w] }) {Q : Unit → Shared → Prop} {E : Value → Shared → Prop}
    (hQ : ∀ h', h'.get? it = some { cls := .type "callable_iterator", data := .fields #[.none, .none, .bool true] } → (∀ b o, b ≠ it → s.heap.get? b = some o → h'.get? b = some o) → Q () { s with heap := h' }) :
    wpAny (model X.prog X.w) A (setField (.ref it) 0 .none >>= fun _ => setField (.ref it) 1 .none >>= fun _ => setField (.ref it) 2 (.bool true)) Q E s := by
  have g1 := Heap.get?_update_self (Obj.mapFields (·.setIfInBounds 0 Value.none)) ho rfl
  have g2 := Heap.get?_update_self (Obj.mapFields (·.setIfInBounds 1 Value.none)) g1 rfl
  refine wpAny_bind (wpAny_setField ho rfl (by simp [Obj.mapFields]) (wpAny_bind (wpAny_setField g1 rfl (by simp [Obj.mapFields]) (wpAny_setField g2 rfl (by simp [Obj.mapFields]) ?_))))
  exact hQ _ (Heap.get?_update_self (Obj.mapFields (·.setIfInBounds 2 (Value.bool true))) g2 rfl) fun b o hb e => ((Heap.SameBut.update ..).2 b hb).trans (((Heap.SameBut.update ..).2 b hb).trans (((Heap.SameBut.update ..).2 b hb).trans e))
theorem next_citer {G : List D → Hp → Option (D × Hp)} (hrc : Cc X n (.ref X.rc) G) {orc : Obj} {frc : FuncData} (h1 : X.T.get? X.rc = some orc) (h2 : X.rc ≠ X.PT) (h3 : orc.data = .func frc) {i : Nat} {it : Addr} {r : Option D} {H' : Hp} (hA : Calm (n + 1) A) (hg : gNext G i H = some (r, H')) (hi : W.mu[i]? = some it) (ph : Phi X W H s) {Q : Option Value → Shared → Prop} {E : Value → Shared → Prop}
    (hQ : ∀ ov W' s', Step X [] W s W' s' → Phi X W' H' s' → OptR W' r ov → Q ov s') : wpAny (model X.prog X.w) A (pyNext (.ref it)) Q E s := by
  revert hQ
  refine gNextI (P := fun r H' => (∀ ov W' s', Step X [] W s W' s' → Phi X W' H' s' → OptR W' r ov → Q ov s') → wpAny (model X.prog X.w) A (pyNext (.ref it)) Q E s) (fun k hk hQ => ?_) (fun k x H1 hk hG hk1 hQ => ?_) hg
  · obtain ⟨u, v, ho, _⟩ := ph.own _ _ _ hk hi
    clear hk hg
    have hT : s.TypeIs (.ref it) "callable_iterator" := ⟨_, ho, rfl⟩
    unfold pyNext
    refine wpAny_bind (wpAny_attempt (wpAny_callSpecial?_slot (name := Str.ofString "__next__") hT slot_citer_next (wpAny_call_entry slot_citer_next hT entry_citer_next ?_ (args_citer_next _))))
    show wpAny _ _ (field (.ref it) 2 >>= _) _ _ s
    refine wpAny_bind (wpAny_field ho rfl (x := .bool true) rfl ?_)
    show wpAny _ _ (if (Value.bool true == Value.bool true) = true then _ else _) _ _ s
    rw [if_pos (by rfl)]
    refine wpAny_bind (wpAny_rule (wpAny_bind (stop_raised hA.hd fun e h' hk q => ?_)))
    obtain ⟨a, o, ee, eo, ec⟩ := q
    subst ee
    exact wpAny_bind (wpAny_isInstance (T := "StopIteration") (b := true) ⟨_, eo, ec⟩ isSubtype_stop (wpAny_pure (hQ none W _ (.ext (t := s.toks) hk (.refl _ _)) (ph.ext hk) .none')))
  · clear hg
    obtain ⟨u, v, ho, hu⟩ := ph.own _ _ _ hk hi
    obtain ⟨q, ak, t, rfl, hz, hak, rfl⟩ := hu rfl
    clear hu hk
    have hT : s.TypeIs (.ref it) "callable_iterator" := ⟨_, ho, rfl⟩
    unfold pyNext
    refine wpAny_bind (wpAny_attempt (wpAny_callSpecial?_slot (name := Str.ofString "__next__") hT slot_citer_next (wpAny_call_entry slot_citer_next hT entry_citer_next ?_ (args_citer_next _))))
    clear hT
    show wpAny _ _ (field (.ref it) 2 >>= _) _ _ s
    refine wpAny_bind (wpAny_field ho rfl (x := .bool false) rfl ?_)
    show wpAny _ _ (if (Value.bool false == Value.bool true) = true then _ else _) _ _ s
    rw [if_neg (by decide)]
    refine wpAny_bind (wpAny_field ho rfl (x := .ref q) rfl (wpAny_bind (wpAny_attempt ?_)))
    unfold callOutOfASlot
    refine wpAny_bind (borrows_rc h3 (ph.frz q _ hz) (ph.top _ _ h1 h2) ?_)
    rw [if_pos rfl]
    refine wpAny_callBorrowed (method_call (ph.frz q _ hz) (hrc A.in1 W s H [.own k] [.ref ak] _ H1 _ hA.in1 hG (.one (.own hak)) ph fun v W1 s1 t1 rv p1 => ?_))
    clear ho hz hak hG ph
    obtain ⟨u1, v1, ho1, hu1⟩ := p1.own _ _ _ hk1 (t1.grow.mu_get hi)
    obtain ⟨q1, ak1, tt1, rfl, hz1, hak1, rfl⟩ := hu1 rfl
    clear hu1 hak1
    refine wpAny_bind (wpAny_field ho1 rfl (x := .bool false) rfl ?_)
    show wpAny _ _ (if (Value.bool false == Value.bool true) = true then _ else _) _ _ s1
    rw [if_neg (by decide)]
    refine wpAny_bind (wpAny_field ho1 rfl (x := .str ⟨#[]⟩ tt1) rfl ?_)
    obtain ⟨tx, rfl⟩ := rv.strI
    clear rv
    refine wpAny_bind (wpAny_holding (wpAny_eqBool_str ?_))
    by_cases hx : x.length = 0
    · rw [if_pos hx, if_pos hx] at hQ
      rw [decide_eq_true (str_empty hx)]
      show wpAny _ _ (if (!true) = true then _ else _) _ _ s1
      rw [if_neg (by decide)]
      refine wpAny_bind (wpAny_rule (wpAny_bind ?_))
      show wpAny _ _ (field (.ref it) 0 >>= fun old => slotLetsGo "callable_iterator.__next__" old _ >>= fun _ => setField (.ref it) 0 .none >>= fun _ => setField (.ref it) 1 .none >>= fun _ => setField (.ref it) 2 (.bool true)) _ _ s1
      refine wpAny_bind (wpAny_field ho1 rfl (x := .ref q1) rfl ?_)
      unfold slotLetsGo
      refine wpAny_bind (wpAny_bind (borrows_rc h3 (p1.frz q1 _ hz1) (p1.top _ _ h1 h2) ?_))
      rw [if_pos rfl]
      refine wpAny_pure (citer_set ho1 fun h3' g3 keep3 => ?_)
      clear ho1 hz1
      have hi1 := t1.grow.mu_get hi
      have hz1' := p1.apart i _ it hk1 hi1 (by intro z; cases z)
      have p3 : Phi X W1 (H1.set i (.citer k true)) { s1 with heap := h3' } := p1.setOwn (t := s1.toks) hi1 hz1' (fun b o hb e => keep3 b o hb e) ⟨.none, .none, g3, fun z => by cases z⟩
      have t3 : Step X [] W1 s1 W1 { s1 with heap := h3' } := ⟨⟨fun b o e nm => keep3 b o (fun z => nm (.inr (.inl ⟨z ▸ List.mem_of_getElem? hi1, z ▸ hz1'⟩))) e, fun b o e => if z : b = it then ⟨_, z ▸ g3⟩ else ⟨o, keep3 b o z e⟩, rfl, rfl, rfl⟩, .refl _ _⟩
      refine stop_raised hA.hd fun e h' hk q => ?_
      obtain ⟨a, o, ee, eo, ec⟩ := q
      subst ee
      exact wpAny_bind (wpAny_isInstance (T := "StopIteration") (b := true) ⟨_, eo, ec⟩ isSubtype_stop (wpAny_pure (hQ none W1 _ ((t1.trans t3).trans (.ext (t := s1.toks) hk (.refl _ _))) (p3.ext hk) .none')))
    · rw [if_neg hx, if_neg hx] at hQ
      rw [decide_eq_false fun e : (⟨#[]⟩ : Str) = x => hx (e ▸ rfl)]
      show wpAny _ _ (if (!false) = true then _ else _) _ _ s1
      rw [if_pos (by decide)]
      exact wpAny_pure ⟨_, rfl, wpAny_pure (hQ _ W1 s1 t1 p1 (.some' (.str _ _)))⟩
end
end Mine
open PySem PySem.W PyProof.Rows
set_option maxRecDepth 100000
namespace Mine
section
variable {X : Cx} {n : Nat} {sc : Scope} {names : List Str} {A : Around} {W : Wd} {s : Shared} {H : Hp} {K : Frag} {C : Addr} {ns : List Str}

/-- self.meth as a value: a bound method; then iter(self.meth, '') -/
theorem bound_attr (ok : ClsOk X K C ns) {name : Str} {f : Addr} (hf : findIn K (.ref C) name = some (some (.ref f))) (ht : typeIn K (.ref f) = some (.type "function")) (hgf : specialIn K (.ref f) "__get__" = some (some (.builtin "function.__get__"))) (htk : takesIn K (.ref f) = some false) (hcn : copiedNames.contains name = false)
    (hn : name ∉ ns) {k : Nat} {x : Addr} {expr : Bool} (hi : isInst C ns (.own k) H = true) (ha : W.mu[k]? = some x) (p : Phi X W H s) {Q : Value → Shared → Prop} {E : Value → Shared → Prop}
    (hQ : Q (.ref s.heap.objs.size) { s with heap := s.heap.push (methodObj (.ref f) (.ref x)), toks := s.toks + 1 }) : wpAny (model X.prog X.w) A (getAttr (.ref x) name expr) Q E s := by
  obtain ⟨k', kd, g, e, hk, hkd⟩ := isInst_some hi
  cases e
  obtain ⟨dd, od, q, hd, hne, e, I, N, hw, R⟩ := inst_at p hk hkd ha
  have hq : q name = none := by
    cases z : q name with
    | none => rfl
    | some v => exact absurd (hw name (by rw [z]; intro y; cases y)) hn
  have X1 := ok.kn.in p
  refine get_bind X1 I ok.ga (findObj_fn ok.hasD hf hgf htk hcn (by rw [lookIn_of N e, hq])) ok.gt ?_
  exact wpAny_call (fn_get (s := { s with toks := s.toks + 1 }) X1 ht (handed_on rfl hQ))

noncomputable def xIter (ok : D → Hp → Bool) (p : XE) : XE := fun vs H => (p vs H).bind fun a => match a.1 with
  | .own k => if ok a.1 a.2 then some (.own a.2.length, a.2 ++ [.citer k false]) else none
  | _ => none
theorem sim_iter (ok : ClsOk X K C ns) {name : Str} (hf : findIn K (.ref C) name = some (some (.ref X.rc))) (ht : typeIn K (.ref X.rc) = some (.type "function")) (hgf : specialIn K (.ref X.rc) "__get__" = some (some (.builtin "function.__get__"))) (htk : takesIn K (.ref X.rc) = some false) (hcn : copiedNames.contains name = false)
    (hn : name ∉ ns) {x : Str} {px pa pc pos : Pos} {kc : Nat} {o : Expr} {p : XE} (hx : SimE X n sc names (xLit (.val (.builtin "iter"))) (.Name x px)) (ho : SimE X n sc names p o) (hb : ∀ env w, attributeBase o name env w = w := by intros; rfl) :
    SimE X n sc names (xIter (isInst C ns) p) (.Call (.Name x px) [.Attribute o name pa, .Constant (.str ⟨#[]⟩) kc pc] [] pos) := by
  intro env A W s vs H d H' hE hA hp ph hv
  unfold xIter at hp
  obtain ⟨⟨a, H0⟩, h0, hp⟩ := Option.bind_eq_some_iff.mp hp
  dsimp only at hp
  split at hp
  case h_2 => cases hp
  rename_i k
  split at hp
  case isFalse => cases hp
  rename_i hok
  cases hp
  show wpS X A [] (eval (.Name x px) env >>= fun f => callWith pos f [] (backTo pos (starEach [.Attribute o name pa, .Constant (.str ⟨#[]⟩) kc pc] env)) []) W s _
  refine wpS_bind (wpS_mono (hx env A W s vs H _ H hE hA rfl ph hv) fun f W1 s1 t1 ⟨r1, p1⟩ => ?_)
  cases r1
  refine Calls.callWith_builtin rfl (Calls.evalArgs_plain (Calls.spliced_cons ?_))
  show wpAny _ _ (attributeBase o name env (eval o env) >>= fun ov => standAt pa.atName >>= fun _ => holding [ov] (getAttr ov name true) >>= fun r => letTemporaryGo o ov r >>= fun _ => pure r) _ _ _
  rw [hb]
  refine wpAny_bind (wpS_ans (ho env A W1 s1 vs H _ _ hE hA h0 p1 (hv.nil t1)) fun ov W2 s2 t2 r2 p2 => wpAny_bind (wpAny_standAt (wpAny_bind (wpAny_holding ?_))))
  obtain ⟨xa, rfl, ha⟩ : ∃ xa, ov = .ref xa ∧ W2.mu[k]? = some xa := by cases r2 with | own ha => exact ⟨_, rfl, ha⟩
  · refine bound_attr ok hf ht hgf htk hcn hn hok ha p2 ?_
    refine wpAny_bind (wpAny_letTemporaryGo (wpAny_pure ?_))
    have hn2 := get?_size_none s2.heap
    have eq : (s2.heap.push (methodObj (.ref X.rc) (.ref xa))).get? s2.heap.objs.size = some (methodObj (.ref X.rc) (.ref xa)) := Heap.get?_push_size _ rfl
    have g3 : Grow s2 W2 (W2.frz s2.heap.objs.size (methodObj (.ref X.rc) (.ref xa))) := .frz hn2 (p2.z_none hn2)
    have p3 := p2.frozen (s' := { s2 with heap := s2.heap.push (methodObj (.ref X.rc) (.ref xa)), toks := s2.toks + 1 }) hn2 (fun b q e => Heap.get?_push_of_some _ e) eq
    have z3 := Wd.frz_self W2 s2.heap.objs.size (methodObj (.ref X.rc) (.ref xa))
    generalize W2.frz s2.heap.objs.size (methodObj (.ref X.rc) (.ref xa)) = W3 at g3 p3 z3
    have t3 : Step X [] W2 s2 W3 { s2 with heap := s2.heap.push (methodObj (.ref X.rc) (.ref xa)), toks := s2.toks + 1 } := .ext (fun b q e => Heap.get?_push_of_some _ e) g3
    generalize s2.heap.objs.size = q at z3 eq ⊢
    refine Calls.spliced_cons ?_
    refine wpS_ans (sim_str (X := X) (n := n) (sc := sc) (names := names) (k := kc) (pos := pc) env A W3 _ vs H0 _ _ hE hA rfl p3 (hv.nil ((t1.trans t2).trans t3))) fun v W4 s4 t4 r4 p4 => Calls.spliced_nil ?_
    obtain ⟨tk, rfl⟩ : ∃ tk, v = .str ⟨#[]⟩ tk := by cases r4 with | str _ t => exact ⟨_, rfl⟩
    refine call_function_tree kind_iter plain_iter entry_iter (args_iter_2 _ _) ?_
    have hq4 : s4.heap.get? q = some (methodObj (.ref X.rc) (.ref xa)) := p4.frz q _ (t4.grow.z _ _ z3)
    show wpAny _ _ (specialOf (.ref q) "__call__" >>= _) _ _ _
    refine wpAny_bind (wpAny_specialOf (T := "method") ⟨_, hq4, rfl⟩ method_call_slot ?_)
    show wpAny _ _ (rule _ >>= _) _ _ _
    refine wpAny_bind (wpAny_rule (wpAny_bind ?_))
    show wpAny _ _ (newObj (.type "callable_iterator") (.fields #[.ref q, .str ⟨#[]⟩ tk, .bool false])) _ _ _
    refine wpAny_newObj_type (wpAny_pure ?_) (by size_fits)
    have hn4 := get?_size_none s4.heap
    have g5 : Grow s4 W4 (W4.more s4.heap.objs.size) := .more hn4
    have t5 : Step X [] W4 s4 (W4.more s4.heap.objs.size) { s4 with heap := s4.heap.push { cls := .type "callable_iterator", data := .fields #[.ref q, .str ⟨#[]⟩ tk, .bool false] } } := ⟨.push _, g5⟩
    refine ⟨_, ((t2.trans t3).trans t4).trans t5, .own (more_get p4 _), p4.more (s' := { s4 with heap := s4.heap.push { cls := .type "callable_iterator", data := .fields #[.ref q, .str ⟨#[]⟩ tk, .bool false] } }) hn4 (fun b o e => Heap.get?_push_of_some _ e) ⟨_, _, Heap.get?_push_size _ rfl, fun _ => ⟨q, xa, tk, rfl, ?_, ?_, rfl⟩⟩⟩
    · exact g5.z _ _ (t4.grow.z _ _ z3)
    · exact g5.mu_get (t4.grow.mu_get (t3.grow.mu_get ha))
end
end Mine
open PySem PySem.W PyProof.Rows
set_option maxRecDepth 100000
namespace Mine
theorem slot_citer_iter' : Slot "callable_iterator" "__iter__" "callable_iterator.__iter__" :=
  .of (owner := "callable_iterator") (n := "__iter__") (by rw [typeLookup_type, builtinLookup_eq_fast]; kernel_rfl) (by decide +kernel) (by decide +kernel) (by decide +kernel)
    (by first | exact .inl (by decide +kernel) | exact .inr (by decide +kernel)) (by rw [isSubtype_type]; kernel_rfl)
theorem entry_citer_iter : entryFor table "callable_iterator.__iter__" = some Builtin.«dict_keyiterator.__iter__» :=
  entryFor_alias (id' := "dict_keyiterator.__iter__") (by kernel_rfl) rfl (by decide +kernel) (by kernel_rfl)
theorem args_citer_iter (a : Value) : argsOk "callable_iterator.__iter__" ⟨[a], []⟩ := by unfold argsOk; kernel_rfl
section
variable {X : Cx} {n : Nat} {sc : Scope} {names : List Str} {A : Around} {W : Wd} {s : Shared} {H : Hp}

theorem iter_citer {it : Addr} {u v : Value} {b : Bool} (ho : s.heap.get? it = some { cls := .type "callable_iterator", data := .fields #[u, v, .bool b] }) {Q : Value → Shared → Prop} {E : Value → Shared → Prop} (h : Q (.ref it) s) : wpAny (model X.prog X.w) A (pyIter (.ref it)) Q E s := by
  have hT : s.TypeIs (.ref it) "callable_iterator" := ⟨_, ho, rfl⟩
  refine wpAny_pyIter_slot hT slot_citer_iter' (wpAny_call_entry slot_citer_iter' hT entry_citer_iter ?_ (args_citer_iter _))
  show wpAny _ _ (ret (.ref it)) _ _ s
  exact wpAny_pure ⟨_, rfl, "callable_iterator", _, hT, slot_citer_next.lookup, h⟩

/-- for x in it, `it` an iter(f, '') of its own; at most fuel turns -/
noncomputable def xLoopC (G : List D → Hp → Option (D × Hp)) (i c : Nat) (body orelse : XS) : Nat → Vs → Hp → Option (Fl × Vs × Hp)
  | 0, _, _ => none
  | f + 1, vs, H => (gNext G c H).bind fun a => match a.1 with
    | none => orelse vs a.2
    | some d => (body (vs.set i (some d)) a.2).bind fun b => match b.1 with
      | .next => xLoopC G i c body orelse f b.2.1 b.2.2
      | .cont => xLoopC G i c body orelse f b.2.1 b.2.2
      | .brk => some (.next, b.2)
      | .ret d => some (.ret d, b.2)
noncomputable def xForC (G : List D → Hp → Option (D × Hp)) (fuel i : Nat) (p : XE) (body orelse : XS) : XS := fun vs H => (p vs H).bind fun a => match a.1 with
  | .own c => match a.2[c]? with
    | some (.citer _ _) => xLoopC G i c body orelse fuel vs a.2
    | _ => none
  | _ => none

theorem citer_of {G : List D → Hp → Option (D × Hp)} {fuel i : Nat} {bp op : XS} {vs : Vs} {a : D} {H : Hp} {y : Fl × Vs × Hp} {P : D → Prop} (k : ∀ c kc ec, H[c]? = some (.citer kc ec) → xLoopC G i c bp op fuel vs H = some y → P (.own c))
    (h : (match a with | .own c => (match H[c]? with | some (.citer _ _) => xLoopC G i c bp op fuel vs H | _ => none) | _ => none) = some y) : P a := by
  cases a with
  | own c =>
    dsimp only at h
    split at h
    · exact k c _ _ ‹_› h
    · cases h
  | _ => cases h
theorem sim_forC {G : List D → Hp → Option (D × Hp)} (hrc : Cc X n (.ref X.rc) G) {orc : Obj} {frc : FuncData} (h1 : X.T.get? X.rc = some orc) (h2 : X.rc ≠ X.PT) (h3 : orc.data = .func frc) (hS : Slots names) (i fuel : Nat) {x : Str} {px pos : Pos} {e : Expr} {p : XE} {bp op : XS} {body orelse : List Stmt}
    (hx : names[i]? = some x) (hk : Asg sc x) (hi : SimE X (n + 1) sc names p e) (hb : SimSs X (n + 1) sc names bp body) (ho : SimSs X (n + 1) sc names op orelse) (hs : ∀ env x, foldedSetIterable e env x = pure x := by intros; rfl) :
    SimS X (n + 1) sc names (xForC G fuel i p bp op) (.For (.Name x px) e body orelse pos) := by
  intro env A W s vs H r vs' H' hE hA hp ph hv
  revert hp
  refine bindI2 fun a H0 h0 hp => wpAny_For (wpS_ans (hi env A W s vs H _ _ hE hA h0 ph hv) fun xv W1 s1 t1 r1 p1 => ?_) (hs env)
  clear h0 ph
  refine citer_of (P := fun a => RV W1 a xv → wpAny (model X.prog X.w) A (pyIter xv) _ _ s1) (fun c kc ec hkc hp' r1 => ?_) hp r1
  clear hp
  obtain ⟨it, rfl, hmu⟩ : ∃ it, xv = .ref it ∧ W1.mu[c]? = some it := by cases r1 with | own ha => exact ⟨_, rfl, ha⟩
  obtain ⟨u, v, ho1, _⟩ := p1.own _ _ _ hkc hmu
  refine iter_citer ho1 (codeAny_forLoopG (TurnN X names env W s fun m W' us G' => W'.mu[c]? = some it ∧ xLoopC G i c bp op m us G' = some (r, vs', H')) ?_ fuel ⟨W1, vs, H0, t1.nil, p1, hv.nil t1, hmu, hp'⟩)
  clear hp' hkc ho1 t1 p1 hv hmu r1
  rintro m s3 ⟨W3, us, G3, t3, p3, v3, hmu3, hl⟩
  cases m with
  | zero => cases hl
  | succ m =>
    revert hl
    refine bindI2 fun o G4 hn hl => next_citer hrc h1 h2 h3 hA hn hmu3 p3 fun ov W4 s4 t4 p4 hov => ?_
    clear hn p3
    cases hov with
    | none' => exact wpS_then (ho env A W4 s4 us G4 r vs' H' hE hA hl p4 (v3.nil t4)) fun f W5 s5 t5 q => ⟨W5, (t3.trans t4.nil).trans t5, q⟩
    | some' hov =>
      revert hl
      refine bindI3 fun fl us' G5 hb0 hl => wpAny_bind (wpAny_pure (wpAny_assign_Name (store_at hE hS hx (hk.kind hE) hov p4 (v3.nil t4) fun s5 t5 p5 v5 => ?_)))
      refine wpS_then (hb env A W4 s5 _ G4 fl us' G5 hE hA hb0 p5 v5) fun f W6 s6 t6 a6 => ?_
      exact fl_end hl a6 (((t3.trans t4.nil).trans t5).trans t6) id (fun _ => id) fun hl p6 v6 => ⟨m, Nat.lt_succ_self _, W6, us', G5, ((t3.trans t4.nil).trans t5).trans t6, p6, v6, t6.grow.mu_get (t4.grow.mu_get hmu3), hl⟩
end
end Mine
open PySem PySem.W PyProof.Rows
set_option maxRecDepth 100000
namespace Mine

/-- an iterator that will give pairs -/
inductive ItOk2 (X : Cx) (A : Around) (s : Shared) (W' : Wd) (s' : Shared) (ps : List (D × D)) (it : Value) (wr : List Addr) : Prop
  | mk (I : Addr) (fp : List Addr) (Pt : Nat → Array Value → Prop) (St : Nat → Heap → Prop) (Mid : Nat → Addr → Heap → Prop) : it = .ref I → WalksU X.prog X.w A I fp wr ps.length Pt St Mid → St 0 s'.heap → (∀ i h, St i h → ∀ b ∈ wr, ∃ o, h.get? b = some o) →
    (∀ b ∈ wr, s.heap.get? b = none ∧ b ∉ W'.mu ∧ W'.Z b = none ∧ X.T.get? b = none ∧ b ≠ X.PT) → (∀ b ∈ fp, b ∈ wr ∨ ∃ o, W'.Z b = some o ∨ (X.T.get? b = some o ∧ b ≠ X.PT)) →
    (∀ i vals, Pt i vals → ∃ d1 d2 v1 v2, ps[i]? = some (d1, d2) ∧ vals = #[v1, v2] ∧ RV W' d1 v1 ∧ RV W' d2 v2) → ItOk2 X A s W' s' ps it wr
inductive ItAns2 (X : Cx) (A : Around) (W : Wd) (s : Shared) (ds : List (D × D)) (H : Hp) (it : Value) (s' : Shared) : Prop
  | mk (W' : Wd) (wr : List Addr) : Step X [] W s W' s' → Phi X W' H s' → ItOk2 X A s W' s' ds it wr → ItAns2 X A W s ds H it s'

noncomputable abbrev XI2 := Vs → Hp → Option (List (D × D) × Hp)
noncomputable def SimI2 (X : Cx) (n : Nat) (sc : Scope) (names : List Str) (p : XI2) (e : Expr) : Prop :=
  ∀ (env : Env) (A : Around) (W : Wd) (s : Shared) (vs : Vs) (H : Hp) (ds : List (D × D)) (H' : Hp), EnvOk sc env → Calm n A → p vs H = some (ds, H') → Phi X W H s → Vars X env names W vs s →
    wpAny (model X.prog X.w) A (eval e env) (fun x s1 => wpAny (model X.prog X.w) A (pyIter x) (ItAns2 X A W s ds H') (fun _ _ => False) s1) (fun _ _ => False) s

noncomputable def xLoop2 (i j : Nat) (body orelse : XS) : List (D × D) → Vs → Hp → Option (Fl × Vs × Hp)
  | [], vs, H => orelse vs H
  | d :: ds, vs, H => (body ((vs.set i (some d.1)).set j (some d.2)) H).bind fun a => match a.1 with
    | .next => xLoop2 i j body orelse ds a.2.1 a.2.2
    | .cont => xLoop2 i j body orelse ds a.2.1 a.2.2
    | .brk => some (.next, a.2)
    | .ret d => some (.ret d, a.2)
noncomputable def xFor2 (i j : Nat) (it : XI2) (body orelse : XS) : XS := fun vs H => (it vs H).bind fun a => xLoop2 i j body orelse a.1 vs a.2

section
variable {X : Cx} {n : Nat} {sc : Scope} {names : List Str}

theorem sim_for2 (hS : Slots names) (i j : Nat) {x y : Str} {px py pt pos : Pos} {kt : Nat} {e : Expr} {it : XI2} {bp op : XS} {body orelse : List Stmt} (hx : names[i]? = some x) (hy : names[j]? = some y) (hk : Asg sc x) (hl' : Asg sc y) (hi : SimI2 X n sc names it e) (hb : SimSs X n sc names bp body) (ho : SimSs X n sc names op orelse)
    (hs : ∀ env x, foldedSetIterable e env x = pure x := by intros; rfl) : SimS X n sc names (xFor2 i j it bp op) (.For (.Tuple [.Name x px, .Name y py] kt pt) e body orelse pos) := by
  intro env A W s vs H r vs' H' hE hA hp ph hv
  revert hp
  refine bindI2 fun ds H1 h0 hp => wpAny_For (wpAny_mono (hi env A W s vs H ds H1 hE hA h0 ph hv) (fun xv s1 h1 => wpAny_mono h1 (fun itv s2 h2 => ?_) fun _ _ e => e.elim) fun _ _ e => e.elim) (hs env)
  clear h0 ph
  obtain ⟨W2, wr, t2, p2, ⟨I, fp, Pt, St, Mid, rfl, Wk, st, hob, hwr, hfw, hP⟩⟩ := h2
  have hfr : ∀ a ∈ frameOf names env, a ∉ wr := fun a ha m => (hv.off a ha).2.2.2.2.elim fun o e => nomatch (hwr a m).1.symm.trans e
  refine codeAny_forLoopG (Turn X names env W s W2 St wr ds.length fun m us G => xLoop2 i j bp op (ds.drop m) us G = some (r, vs', H')) ?_ (ds.length + 1)
    ⟨0, W2, vs, H1, rfl, Nat.zero_le _, t2.nil, .refl _, fun b hb => ⟨(hwr b hb).2.1, (hwr b hb).2.2.1⟩, st, p2, hv.nil t2, hp⟩
  clear st p2 t2 hv hp
  rintro k s3 ⟨m, W3, us, G, ek, hm, t3, g3, w3, st3, p3, v3, hl⟩
  have hwr3 : ∀ b ∈ wr, b ∉ W3.mu ∧ W3.Z b = none ∧ X.T.get? b = none ∧ b ≠ X.PT := fun b hb => ⟨(w3 b hb).1, (w3 b hb).2, (hwr b hb).2.2.2⟩
  by_cases hlt : m < ds.length
  · refine Wk.item m s3 _ _ hlt st3 fun T vals h4 tk4 hPt hT hmid k4 => ?_
    obtain ⟨d1, d2, v1, v2, hd, rfl, r1, r2⟩ := hP m vals hPt
    rw [List.drop_eq_getElem_cons hlt, Option.some.inj ((List.getElem?_eq_getElem hlt).symm.trans hd)] at hl
    clear hd hPt hP
    refine wpAny_bind (Wk.go _ _ _ m T _ _ _ hmid fun h5 st5 k5 => ?_)
    have hT5 : h5.IsTuple T #[v1, v2] := hT.elim fun o q => ⟨o, k5 T o (Wk.apart m T h4 hmid) q.1, q.2⟩
    have t5 := (t3.written (t := tk4) k4 fun b hb => (hwr b hb).1).written (t := tk4) k5 fun b hb => (hwr b hb).1
    have p5 := (p3.written (t := tk4) k4 hwr3).written (t := tk4) k5 hwr3
    have v5 := (v3.written (t := tk4) k4 hfr).written (t := tk4) k5 hfr
    clear hT hmid k4 k5 t3 p3 v3 st3
    refine wpAny_assign_Tuple hA.hd hT5 rfl rfl fun h6 hx6 => ?_
    have k6 : ∀ b o, h5.get? b = some o → h6.get? b = some o := fun b o e => hx6 b o (Nat.ne_of_lt (Heap.lt_size e)) e
    have off : ∀ {us'}, ∀ {s' : Shared}, Phi X W3 G s' → Vars X env names W3 us' s' → ∀ b ∈ fp, ¬ Mut X (frameOf names env) W3 b := fun p v b hb => fp_off p v g3 hfr (fun b hb => ⟨(hwr3 b hb).1, (hwr3 b hb).2.2.2⟩) hfw hb
    show wpAny _ _ (assignInOrder [assign (.Name x px) env, assign (.Name y py) env] [v1, v2]) _ _ _
    refine wpAny_assignInOrder_more (wpAny_assign_Name (store_at hE hS hx (hk.kind hE) (r1.le g3) (p5.ext (s' := { s3 with heap := h6, toks := tk4 }) k6) (v5.at (fun a _ o e => k6 a o e) (.refl _) fun a ha => ⟨(v5.off a ha).1, (v5.off a ha).2.2.1⟩) fun s7 t7 p7 v7 => ?_))
    refine wpAny_assignInOrder_more (wpAny_assign_Name (store_at hE hS hy (hl'.kind hE) (r2.le g3) p7 v7 fun s8 t8 p8 v8 => wpAny_assignInOrder_none ?_))
    exact turn_body hb hE hA hl (fun _ _ h => h) (fun _ h => h) (fun _ _ h => h) ek hlt (fun h h' a b => Wk.frame _ _ _ a b) (hob _) g3 w3 (off p8 v8) (((t5.trans (Step.ext (t := tk4) k6 (.refl _ _))).trans t7).trans t8)
      (Wk.frame _ _ _ (Wk.frame _ _ _ (Wk.frame _ _ _ st5 fun b _ o e => k6 b o e) fun b hb o e => t7.keep.obj b o e (off p7 v7 b hb)) fun b hb o e => t8.keep.obj b o e (off p8 v8 b hb)) p8 v8
  · rw [List.drop_eq_nil_of_le (Nat.not_lt.mp hlt)] at hl
    refine Wk.done s3 _ _ (Nat.le_antisymm hm (Nat.not_lt.mp hlt) ▸ st3) fun h4 tk4 k4 => ?_
    exact wpS_then (ho env A W3 _ us G r vs' H' hE hA hl (p3.written (t := tk4) k4 hwr3) (v3.written (t := tk4) k4 hfr)) fun f W5 s5 t5 q => ⟨W5, (t3.written (t := tk4) k4 fun b hb => (hwr b hb).1).trans t5, q⟩
end
end Mine
open PySem PySem.W PyProof.Rows
set_option maxRecDepth 100000
namespace Mine

theorem go_tupleiter {prog : Program} {w : World} {A : Around} {E : Value → Shared → Prop} {s : Shared} {elts : List Expr} {x1 : Nat} {pos : Pos} {I l T : Addr} {i : Nat} {Q : Unit → Shared → Prop} (hit : s.heap.IsTupleIter I l i) (hQ : Q () s) :
    wpAny (model prog w) A (letOwnedTupleGo (.Tuple elts x1 pos) (.ref I) (.ref T)) Q E s := by
  obtain ⟨o, ho, hc, hd⟩ := hit
  unfold letOwnedTupleGo
  refine wpAny_bind (wpAny_load ho ?_)
  rw [hc, hd]
  show wpAny _ A (if (["enumerate", "zip", "dict_itemiterator", "dict_reverseitemiterator", "odict_iterator", "itertools.zip_longest", "itertools.pairwise"].contains "tuple_iterator" &&
      (#[.ref l, .int i 0] : Array Value)[0]? == some (rawInt T)) = true then _ else _) Q E s
  rw [if_neg (by
    intro h
    rw [show (["enumerate", "zip", "dict_itemiterator", "dict_reverseitemiterator", "odict_iterator", "itertools.zip_longest", "itertools.pairwise"].contains "tuple_iterator") = false from by decide, Bool.false_and] at h
    cases h)]
  exact wpAny_pure hQ

theorem walks_pairs {prog : Program} {w : World} {A : Around} (hh : A.handled = none) (I ax : Addr) (hne : ax ≠ I) (items : Array Value) (Ts : Nat → Addr) (vals : Nat → Array Value)
    (hit : ∀ j, j < items.size → items[j]? = some (.ref (Ts j))) (hTI : ∀ j, j < items.size → Ts j ≠ I) :
    WalksU prog w A I (I :: ax :: (List.range items.size).map Ts) [I] items.size (fun j v => j < items.size ∧ v = vals j)
      (fun j h => h.IsTupleIter I ax j ∧ h.IsTuple ax items ∧ ∀ k, k < items.size → h.IsTuple (Ts k) (vals k))
      (fun j T h => (j < items.size ∧ T = Ts j) ∧ h.IsTupleIter I ax (j + 1) ∧ h.IsTuple ax items ∧ ∀ k, k < items.size → h.IsTuple (Ts k) (vals k)) where
  sub := fun b hb => by simp at hb; simp [hb]
  frame := fun _ _ _ st hk => ⟨let ⟨o, e, r⟩ := st.1; ⟨o, hk I (by simp) o e, r⟩, let ⟨o, e, r⟩ := st.2.1; ⟨o, hk ax (by simp) o e, r⟩,
    fun k hk' => let ⟨o, e, r⟩ := st.2.2 k hk'; ⟨o, hk (Ts k) (List.mem_cons_of_mem _ (List.mem_cons_of_mem _ (List.mem_map.mpr ⟨k, List.mem_range.mpr hk', rfl⟩))) o e, r⟩⟩
  item := fun i s Q E hi st hQ => by
    refine wpAny_pyNext_tuple_item st.1 st.2.1 (x := .ref (Ts i)) (hit i hi) fun h' hit' hs' => ?_
    have keep : ∀ b o, b ≠ I → s.heap.get? b = some o → h'.get? b = some o := fun b o hb e => (hs'.2 b hb).trans e
    have tup : ∀ k, k < items.size → h'.IsTuple (Ts k) (vals k) := fun k hk' => let ⟨o, e, r⟩ := st.2.2 k hk'; ⟨o, keep _ o (hTI k hk') e, r⟩
    exact hQ (Ts i) (vals i) h' s.toks ⟨hi, rfl⟩ (tup i hi) ⟨⟨hi, rfl⟩, hit', let ⟨o, e, r⟩ := st.2.1; ⟨o, keep _ o hne e, r⟩, tup⟩ fun b o hb e => keep b o (fun h => hb (by simp [h])) e
  go := fun _ _ _ _ _ s Q _ hm hQ => go_tupleiter hm.2.1 (hQ s.heap hm.2 fun _ _ _ e => e)
  apart := fun j T _ hm hmem => by
    rcases List.mem_cons.mp hmem with e | e
    · exact hTI j hm.1.1 (hm.1.2 ▸ e)
    · cases e
  done := fun s Q E st hQ => wpAny_pyNext_tuple_end hh st.1 st.2.1 (by simp) fun h' he' => hQ h' s.toks fun b o hb e => he' b o (fun h => hb (by simp [h])) e
  self := fun _ s Q E st hQ => by
    have hT : s.TypeIs (.ref I) "tuple_iterator" := let ⟨o, e, hc, _⟩ := st.1; ⟨o, e, hc⟩
    refine wpAny_pyIter_slot hT PySem.F.slot_tuple_iterator_iter (wpAny_call_entry PySem.F.slot_tuple_iterator_iter hT PySem.F.entry_tuple_iterator_iter ?_ (PySem.F.args_tuple_iterator_iter_1 _))
    show wpAny _ _ (ret (.ref I)) _ _ s
    exact wpAny_pure ⟨_, rfl, "tuple_iterator", _, hT, PySem.F.slot_tuple_iterator_next.lookup, hQ⟩

section
variable {X : Cx} {n : Nat} {sc : Scope} {names : List Str} {A : Around} {W : Wd} {s : Shared} {H : Hp}

noncomputable def asPair : D → Option (D × D)
  | .tup [a, b] => some (a, b)
  | _ => none
noncomputable def pairsOf : D → Option (List (D × D))
  | .tup xs => xs.mapM asPair
  | _ => none

inductive PairAt (W : Wd) (vs : List Value) (ps : List (D × D)) (k : Nat) : Prop
  | mk (T : Addr) (v1 v2 : Value) (m : Nat) (d1 d2 : D) : vs[k]? = some (.ref T) → ps[k]? = some (d1, d2) → W.Z T = some (seqObj "tuple" [v1, v2] m) → RV W d1 v1 → RV W d2 v2 → PairAt W vs ps k
theorem pair_of {d : D} {v : Value} {d1 d2 : D} (h : asPair d = some (d1, d2)) (r : RV W d v) : ∃ T v1 v2 m, v = .ref T ∧ W.Z T = some (seqObj "tuple" [v1, v2] m) ∧ RV W d1 v1 ∧ RV W d2 v2 := by
  unfold asPair at h
  split at h
  · cases h
    obtain ⟨a, vs, n, e, z, rs⟩ := r.inv
    obtain ⟨u1, us, e1, r1, rs⟩ := rs.inv
    obtain ⟨u2, us', e2, r2, rs⟩ := rs.inv
    have e3 : us' = [] := rs.inv
    exact ⟨a, u1, u2, n, e, by rw [z, e1, e2, e3], r1, r2⟩
  · exact noneI h
theorem pairs_at : ∀ {xs : List D} {vs : List Value} {ps : List (D × D)}, xs.mapM asPair = some ps → RVs W xs vs → ps.length = vs.length ∧ ∀ k, k < vs.length → PairAt W vs ps k := by
  intro xs
  induction xs with
  | nil =>
    intro vs ps h r
    rw [List.mapM_nil] at h
    exact someI (P := fun ps => ps.length = vs.length ∧ ∀ k, k < vs.length → PairAt W vs ps k) ((show vs = [] from r.inv).symm ▸ ⟨rfl, fun k hk => absurd hk (Nat.not_lt_zero _)⟩) h
  | cons d ds ih =>
    intro vs ps h r
    rw [List.mapM_cons] at h
    revert h
    refine bindI2 fun d1 d2 h1 => bindI fun ps' h2 h => ?_
    obtain ⟨u, us, e, r, rs⟩ := r.inv
    obtain ⟨T, v1, v2, m, eu, z, ra, rb⟩ := pair_of h1 r
    have q := ih h2 rs
    refine someI (P := fun ps => ps.length = vs.length ∧ ∀ k, k < vs.length → PairAt W vs ps k) ?_ h
    rw [e]
    refine ⟨congrArg (· + 1) q.1, fun k hk => ?_⟩
    cases k with
    | zero => exact ⟨T, v1, v2, m, d1, d2, congrArg some eu, rfl, z, ra, rb⟩
    | succ k =>
      obtain ⟨T, v1, v2, m, d1, d2, a1, a2, a3, a4, a5⟩ := q.2 k (Nat.lt_of_succ_lt_succ hk)
      exact ⟨T, v1, v2, m, d1, d2, a1, a2, a3, a4, a5⟩

noncomputable def refOf : Option Value → Addr
  | some (.ref T) => T
  | _ => 0
noncomputable def seqOf : Option Obj → Array Value
  | some ⟨_, _, .seq xs _, _⟩ => xs
  | _ => #[]
inductive PairK (W : Wd) (us : List Value) (ds : List (D × D)) (k : Nat) : Prop
  | mk (v1 v2 : Value) (m : Nat) (d1 d2 : D) : us[k]? = some (.ref (refOf us[k]?)) → ds[k]? = some (d1, d2) → W.Z (refOf us[k]?) = some (seqObj "tuple" [v1, v2] m) → seqOf (W.Z (refOf us[k]?)) = #[v1, v2] → RV W d1 v1 → RV W d2 v2 → PairK W us ds k
theorem PairAt.key {us : List Value} {ds : List (D × D)} {k : Nat} (h : PairAt W us ds k) : PairK W us ds k := by
  obtain ⟨T, v1, v2, m, d1, d2, a1, a2, a3, a4, a5⟩ := h
  have e : refOf us[k]? = T := by rw [a1]; rfl
  exact ⟨v1, v2, m, d1, d2, e.symm ▸ a1, a2, e.symm ▸ a3, e.symm ▸ (congrArg seqOf a3), a4, a5⟩

noncomputable def xPairs (p : XE) : XI2 := fun vs H => (p vs H).bind fun a => (pairsOf a.1).map fun ps => (ps, a.2)
theorem pairsI {d : D} {ps : List (D × D)} {P : D → Prop} (k : ∀ xs, xs.mapM asPair = some ps → P (.tup xs)) (h : pairsOf d = some ps) : P d := by
  cases d with
  | tup xs => exact k xs h
  | _ => exact noneI h
theorem simI2_pairs {p : XE} {e : Expr} (h : SimE X n sc names p e) : SimI2 X n sc names (xPairs p) e := by
  intro env A W s vs H ds H' hE hA hp ph hv
  revert hp
  refine bindI2 fun a H0 h0 hp => ?_
  refine mapP (g := fun d => d) (P := fun ds H' => wpAny (model X.prog X.w) A (eval e env) (fun x s1 => wpAny (model X.prog X.w) A (pyIter x) (ItAns2 X A W s ds H') (fun _ _ => False) s1) (fun _ _ => False) s) (fun ds h1 => ?_) hp
  clear hp
  refine wpS_ans (h env A W s vs H _ _ hE hA h0 ph hv) fun v W1 s1 t1 r1 p1 => ?_
  clear h0 ph hv
  refine pairsI (P := fun a => RV W1 a v → _) (fun xs h2 r1 => ?_) h1 r1
  clear h1
  obtain ⟨ax, us, m, rfl, z, rs⟩ := r1.inv
  obtain ⟨hl, hr⟩ := pairs_at h2 rs
  clear rs r1 h2
  have key : ∀ k, k < us.toArray.size → PairK W1 us ds k := fun k hk => (hr k hk).key
  have ht := isTuple_of (p1.frz _ _ z)
  obtain ⟨f1, f2, f3, f4⟩ := fresh_it p1
  refine wpAny_pyIter_tuple ht ?_
  have ks : ∀ b o, s1.heap.get? b = some o → (s1.heap.push { cls := .type "tuple_iterator", data := .fields #[.ref ax, .int 0 0] }).get? b = some o := fun b o e => Heap.get?_push_of_some _ e
  have wk := walks_pairs (prog := X.prog) (w := X.w) hA.hd s1.heap.objs.size ax (Nat.ne_of_lt (Heap.lt_size (p1.frz _ _ z))) us.toArray (fun k => refOf us[k]?) (fun k => seqOf (W1.Z (refOf us[k]?))) (fun k hk => (by
    obtain ⟨v1, v2, m', d1, d2, a1, _⟩ := key k hk
    exact (List.getElem?_toArray ..).trans a1)) (fun k hk e => (by
    obtain ⟨v1, v2, m', d1, d2, a1, a2, a3, a4, a5, a6⟩ := key k hk
    exact nomatch (a3.symm.trans (congrArg W1.Z e)).trans f2))
  refine ⟨W1, [s1.heap.objs.size], t1.trans ⟨.push _, .refl _ _⟩, p1.push _, ⟨s1.heap.objs.size, _, _, _, _, rfl, (by rw [hl]; exact wk), ?_, ?_, ?_, ?_, ?_⟩⟩
  · refine ⟨⟨_, Heap.get?_push_size _ rfl, rfl, rfl⟩, let ⟨o, e, r⟩ := ht; ⟨o, ks _ _ e, r⟩, fun k hk => ?_⟩
    obtain ⟨v1, v2, m', d1, d2, a1, a2, a3, a4, a5, a6⟩ := key k hk
    rw [a4]
    exact ⟨_, ks _ _ (p1.frz _ _ a3), rfl, m', rfl⟩
  · intro i h st b hb
    rw [List.mem_singleton.mp hb]
    exact st.1.elim fun o e => ⟨o, e.1⟩
  · intro b hb
    rw [List.mem_singleton.mp hb]
    exact ⟨none_of_ex t1.keep.ex (get?_size_none s1.heap), f1, f2, f3, f4⟩
  · intro b hb
    refine (List.mem_cons.mp hb).elim (fun e => .inl (e ▸ .head _)) fun hb => (List.mem_cons.mp hb).elim (fun e => .inr ⟨_, .inl (e ▸ z)⟩) fun hb => ?_
    obtain ⟨k, hk, e⟩ := List.mem_map.mp hb
    obtain ⟨v1, v2, m', d1, d2, a1, a2, a3, _⟩ := key k (List.mem_range.mp hk)
    exact .inr ⟨_, .inl (e ▸ a3)⟩
  · intro i w hw
    obtain ⟨v1, v2, m', d1, d2, a1, a2, a3, a4, a5, a6⟩ := key i hw.1
    exact ⟨d1, d2, v1, v2, a2, hw.2.trans a4, a5, a6⟩
end
end Mine
open PySem PySem.W PyProof.Rows
open PySem.AutoSeq1 (wpAny_loadPart')
set_option maxRecDepth 100000
namespace Mine
section
variable {prog : Program} {w : World} {A : Around} {E : Value → Shared → Prop} {s : Shared}
theorem nextOf_tuple_item {it l : Addr} {i : Nat} {items : Array Value} {x : Value} {Q : Value → Shared → Prop} (hit : s.heap.IsTupleIter it l i)
    (hl : s.heap.IsTuple l items) (hx : items[i]? = some x)
    (hQ : ∀ h', h'.IsTupleIter it l (i + 1) → Heap.SameBut it s.heap h' → Q x { s with heap := h' }) :
    wpAny (model prog w) A (Builtin.SmallTypes.nextOf (.ref it)) Q E s := by
  obtain ⟨o, ho, hc, hd⟩ := id hit
  obtain ⟨ol, hol, _, nl, hdl⟩ := hl
  have hT : s.TypeIs (.ref it) "tuple_iterator" := ⟨o, ho, hc⟩
  unfold Builtin.SmallTypes.nextOf
  refine wpAny_bind (wpAny_callSpecial?_slot (name := Str.ofString "__next__") hT PySem.F.slot_tuple_iterator_next
    (wpAny_call_entry PySem.F.slot_tuple_iterator_next hT PySem.F.entry_tuple_iterator_next ?_ (PySem.F.args_tuple_iterator_next_1 _)))
  show wpAny _ _ (field (.ref it) 0 >>= _) _ _ s
  refine wpAny_bind (wpAny_field ho hd (x := .ref l) rfl ?_)
  show wpAny _ _ (if (Value.ref l == Value.none) = true then _ else _) _ _ s
  rw [if_neg (show ¬ ((Value.ref l == Value.none) = true) from Bool.false_ne_true)]
  show wpAny _ _ (field (.ref it) 1 >>= _) _ _ s
  refine wpAny_bind (wpAny_field ho hd (x := .int i 0) rfl ?_)
  show wpAny _ _ (seqItems? (.ref l) >>= _) _ _ s
  refine wpAny_bind (wpAny_seqItems hol hdl ?_)
  simp only [Int.toNat_natCast, hx]
  refine wpAny_bind (wpAny_setField ho hd (by simp) (wpAny_pure ⟨x, rfl, wpAny_pure (hQ _ ?_ (Heap.SameBut.update ..))⟩))
  exact ⟨_, Heap.get?_update_self _ ho (Obj.isFreed_of_fields (Obj.data_mapFields hd _)), (Obj.cls_mapFields ..).trans hc, by
    rw [Obj.data_mapFields hd]; simp [rawInt]⟩
theorem nextOf_tuple_end {it l : Addr} {i : Nat} {items : Array Value} {Q : Value → Shared → Prop} (hh : A.handled = none)
    (hit : s.heap.IsTupleIter it l i) (hl : s.heap.IsTuple l items) (hx : items[i]? = none)
    (hE : ∀ h' e, Heap.ExtBut it s.heap h' → (∃ o, h'.get? e = some o ∧ o.cls = .type "StopIteration") → E (.ref e) { s with heap := h' }) :
    wpAny (model prog w) A (Builtin.SmallTypes.nextOf (.ref it)) Q E s := by
  obtain ⟨o, ho, hc, hd⟩ := id hit
  obtain ⟨ol, hol, _, nl, hdl⟩ := hl
  have hT : s.TypeIs (.ref it) "tuple_iterator" := ⟨o, ho, hc⟩
  unfold Builtin.SmallTypes.nextOf
  refine wpAny_bind (wpAny_callSpecial?_slot (name := Str.ofString "__next__") hT PySem.F.slot_tuple_iterator_next
    (wpAny_call_entry PySem.F.slot_tuple_iterator_next hT PySem.F.entry_tuple_iterator_next ?_ (PySem.F.args_tuple_iterator_next_1 _)))
  show wpAny _ _ (field (.ref it) 0 >>= _) _ _ s
  refine wpAny_bind (wpAny_field ho hd (x := .ref l) rfl ?_)
  show wpAny _ _ (if (Value.ref l == Value.none) = true then _ else _) _ _ s
  rw [if_neg (show ¬ ((Value.ref l == Value.none) = true) from Bool.false_ne_true)]
  show wpAny _ _ (field (.ref it) 1 >>= _) _ _ s
  refine wpAny_bind (wpAny_field ho hd (x := .int i 0) rfl ?_)
  show wpAny _ _ (seqItems? (.ref l) >>= _) _ _ s
  refine wpAny_bind (wpAny_seqItems hol hdl ?_)
  simp only [Int.toNat_natCast, hx]
  refine wpAny_bind (wpAny_rule (wpAny_bind (wpAny_setField ho hd (by simp) ?_)))
  show wpAny _ _ (newExc (.type "StopIteration") [] >>= _) _ _ _
  refine wpAny_bind ?_
  simp only [newExc, newTuple]
  refine wpAny_bind (wpAny_newObj_type ?_ (by size_fits))
  refine wpAny_bind (m := firstArgMember _ _) (wpAny_of_eq (a := Value.none) (by first | rfl | (simp only [firstArgMember]; rfl)) ?_)
  refine wpAny_newObj_type ?_ (by size_fits)
  simp only [raiseNew]
  refine wpAny_bind (wpAny_handled ?_)
  rw [show A.in1.handled = none from hh]
  refine wpAny_bind (wpAny_pure (wpAny_throw ?_))
  exact hE _ _ (((Heap.SameBut.update ..).extBut.push _).push _) ⟨_, Heap.get?_push_size _ rfl, rfl⟩
theorem draws_tuple (hh : A.handled = none) (it l : Addr) (hne : l ≠ it) (items : Array Value) :
    Draws prog w A it [it, l] items.size (fun i v => items[i]? = some v) (fun i h => h.IsTupleIter it l i ∧ h.IsTuple l items) where
  live := fun _ _ st => let ⟨o, ho, _⟩ := st.1; ⟨o, ho⟩
  frame := fun _ _ _ st hk => ⟨let ⟨o, e, r⟩ := st.1; ⟨o, hk it (by simp) o e, r⟩, let ⟨o, e, r⟩ := st.2; ⟨o, hk l (by simp) o e, r⟩⟩
  item := fun i s Q E hi st hQ => by
    refine nextOf_tuple_item st.1 st.2 (x := items[i]) (by simp [hi]) fun h' hit' hs' => ?_
    exact hQ _ h' s.toks (by simp [hi]) ⟨hit', let ⟨o, e, r⟩ := st.2; ⟨o, (hs'.2 l hne).trans e, r⟩⟩ hs'
  done := fun s Q E st hE => nextOf_tuple_end hh st.1 st.2 (by simp) hE

set_option maxHeartbeats 4000000 in
theorem meets_enumerate_newT (l : Addr) (items : Array Value) (n : Nat) (dct : Option Addr) (sl : Array (Option Value)) :
    Meets (Builtin.«enumerate.__new__» ⟨[.type "enumerate", .ref l], []⟩) (fun _ R s => s.heap.get? l = some { cls := .type "tuple", dict := dct, data := .seq items n, slots := sl } ∧
      R (.ok (.ret (.ref (s.heap.push { cls := .type "tuple_iterator", data := .fields #[.ref l, .int 0 0] }).objs.size)))
        { s with heap := (s.heap.push { cls := .type "tuple_iterator", data := .fields #[.ref l, .int 0 0] }).push { cls := .type "enumerate", data := .fields #[.none, .bool false, .ref s.heap.objs.size, rawInt 0, .none, .none] } }) :=
  .of_wp fun prog w A R s h => by
    obtain ⟨hp, g, d, tk, os⟩ := s; obtain ⟨hl, h⟩ := h
    have hsub := sub_enumerate
    have hL : Heap.IsTuple (Shared.heap ⟨hp, g, d, tk, os⟩) l items := ⟨_, hl, rfl, n, rfl⟩
    wp_walk using wpAny_loadPart' hl
    refine wpAny_stack_any fun st => wpAny_pure ?_
    split
    · rename_i c _ _ _ _ _
      cases (c == Value.type "enumerate")
      · wp_walk using wpAny_loadPart' hl, wpAny_pyIter_tuple hL
        exact ⟨_, rfl, h⟩
      · wp_walk using wpAny_loadPart' hl, wpAny_pyIter_tuple hL
        exact ⟨_, rfl, h⟩
    · wp_walk using wpAny_loadPart' hl, wpAny_pyIter_tuple hL
      exact ⟨_, rfl, h⟩
end

section
variable {X : Cx} {n : Nat} {sc : Scope} {names : List Str} {A : Around} {W : Wd} {s : Shared} {H : Hp}

theorem call_enumerate_tuple {l : Addr} {vs : List Value} {m : Nat} {Q : Value → Shared → Prop} {E : Value → Shared → Prop} (hl : s.heap.get? l = some (seqObj "tuple" vs m))
    (h : ∀ h', IsEnum h' (s.heap.objs.size + 1) s.heap.objs.size 0 .none → h'.IsTupleIter s.heap.objs.size l 0 →
      (∀ b o, s.heap.get? b = some o → h'.get? b = some o) → Q (.ref (s.heap.objs.size + 1)) { s with heap := h' }) :
    wpAny (model X.prog X.w) A (call (.type "enumerate") [.ref l]) Q E s := by
  refine callType_new PySem.F.called_enumerate (by decide) (PySem.F.typeCall_enumerate_1 _) (PySem.F.newCall_enumerate_1 _) (fun obj => PySem.F.args_object_init_2 obj _) PySem.F.entry_enumerate_new
    (meets_enumerate_newT l vs.toArray m none #[]) ⟨hl, ?_⟩
  have hz : (s.heap.push { cls := .type "tuple_iterator", data := .fields #[.ref l, .int 0 0] }).objs.size = s.heap.objs.size + 1 := Heap.size_push ..
  show _ ∧ _
  rw [hz]
  have he : IsEnum ((s.heap.push { cls := .type "tuple_iterator", data := .fields #[.ref l, .int 0 0] }).push
      { cls := .type "enumerate", data := .fields #[.none, .bool false, .ref s.heap.objs.size, rawInt 0, .none, .none] }) (s.heap.objs.size + 1) s.heap.objs.size 0 .none := by
    have := Heap.get?_push_size (s.heap.push { cls := .type "tuple_iterator", data := .fields #[.ref l, .int 0 0] })
      (o := { cls := .type "enumerate", data := .fields #[.none, .bool false, .ref s.heap.objs.size, rawInt 0, .none, .none] }) rfl
    rw [hz] at this; exact this
  exact ⟨⟨_, he, rfl⟩, h _ he ⟨_, Heap.get?_push_of_some _ (Heap.get?_push_size _ rfl), rfl, rfl⟩ fun b o x => Heap.get?_push_of_some _ (Heap.get?_push_of_some _ x)⟩

noncomputable def numbered : Nat → List D → List (D × D)
  | _, [] => []
  | k, d :: ds => (.int k, d) :: numbered (k + 1) ds
theorem numbered_get : ∀ (ds : List D) (k i : Nat) (d : D), ds[i]? = some d → (numbered k ds)[i]? = some (.int ((k + i : Nat) : Int), d)
  | [], _, _, _, h => by simp at h
  | d :: ds, k, 0, _, h => by simp at h; subst h; simp [numbered]
  | d :: ds, k, i + 1, e, h => by
    have := numbered_get ds (k + 1) i e (by simpa using h)
    simp only [numbered, List.getElem?_cons_succ, this]
    congr 3
    omega
theorem numbered_length : ∀ (ds : List D) (k : Nat), (numbered k ds).length = ds.length
  | [], _ => rfl
  | _ :: ds, k => by simp [numbered, numbered_length ds (k + 1)]

noncomputable def xEnum (p : XE) : XI2 := fun vs H => (p vs H).bind fun a => match a.1 with
  | .tup xs => some (numbered 0 xs, a.2)
  | _ => none
theorem simI2_enum {x : Str} {px pos : Pos} {p : XE} {e : Expr} (hx : SimE X n sc names (xLit (.val (.type "enumerate"))) (.Name x px)) (h : SimE X n sc names p e) (hst : ∀ env, starEach [e] env = [(false, eval e env)] := by intros; rfl) :
    SimI2 X n sc names (xEnum p) (.Call (.Name x px) [e] [] pos) := by
  intro env A W s vs H ds H' hE hA hp ph hv
  unfold xEnum at hp
  obtain ⟨⟨a, H0⟩, h0, hp⟩ := Option.bind_eq_some_iff.mp hp
  dsimp only at hp
  cases a with
  | tup xs =>
    cases hp
    show wpAny _ A (eval (.Name x px) env >>= fun f => callWith pos f [] (backTo pos (starEach [e] env)) []) _ _ s
    refine wpAny_bind (wpS_ans (hx env A W s vs H _ H hE hA rfl ph hv) fun f W1 s1 t1 r1 p1 => ?_)
    cases r1
    rw [hst env]
    refine PySem.callWith_type rfl (Calls.evalArgs_plain (Calls.spliced_cons ?_))
    refine wpS_ans (h env A W1 s1 vs H _ _ hE hA h0 p1 (hv.nil t1)) fun v W2 s2 t2 r2 p2 => Calls.spliced_nil ?_
    obtain ⟨l, us, m, rfl, z, rs⟩ : ∃ l us m, v = .ref l ∧ W2.Z l = some (seqObj "tuple" us m) ∧ RVs W2 xs us := by
      cases r2 with
      | tup z rs => exact ⟨_, _, _, rfl, z, rs⟩
    refine call_enumerate_tuple (p2.frz _ _ z) fun h3 he hit hk => ?_
    refine wpAny_pyIter_enum he ?_
    have t3 : Step X [] W s W2 { s2 with heap := h3 } := (t1.trans t2).trans (.ext (t := s2.toks) hk (.refl _ _))
    have p3 : Phi X W2 H' { s2 with heap := h3 } := p2.ext hk
    have fr : ∀ b, s2.heap.objs.size ≤ b → s2.heap.get? b = none := fun b hb => by
      cases q : s2.heap.get? b with
      | none => rfl
      | some o => exact absurd (Heap.lt_size q) (Nat.not_lt.mpr hb)
    have off : ∀ b, s2.heap.objs.size ≤ b → s.heap.get? b = none ∧ b ∉ W2.mu ∧ W2.Z b = none ∧ X.T.get? b = none ∧ b ≠ X.PT := fun b hb =>
      have q := fr b hb
      ⟨none_of_ex (t1.trans t2).keep.ex q, p2.mu_ne q, p2.z_none q, p2.T_none q⟩
    have hl : l < s2.heap.objs.size := Heap.lt_size (p2.frz _ _ z)
    have D := draws_tuple (prog := X.prog) (w := X.w) (A := A.in1) hA.hd s2.heap.objs.size l (Nat.ne_of_lt hl) us.toArray
    have WT := WalksT.enumerateD D (s2.heap.objs.size + 1) (Nat.ne_of_gt (Nat.lt_succ_self _)) (fun q => by
      rcases List.mem_cons.mp q with q | q
      · exact absurd q (Nat.ne_of_gt (Nat.lt_succ_self _))
      · exact absurd (List.mem_singleton.mp q) (Nat.ne_of_gt (Nat.lt_succ_of_lt hl))) (by simp)
    have hz : us.toArray.size = (numbered 0 xs).length := by rw [List.size_toArray, numbered_length, rs.length]
    rw [hz] at WT
    refine ⟨W2, [s2.heap.objs.size + 1, s2.heap.objs.size], t3, p3, ⟨_, _, _, _, _, rfl, WT.toU, ⟨⟨_, he⟩, hit, let ⟨o, e, r⟩ := isTuple_of (p2.frz _ _ z); ⟨o, hk _ _ e, r⟩⟩, ?_, ?_, ?_, ?_⟩⟩
    · intro i h st b hb
      obtain ⟨⟨old, he'⟩, ⟨o, e, _⟩, _⟩ := st
      rcases List.mem_cons.mp hb with rfl | hb
      · exact ⟨_, he'⟩
      · rw [List.mem_singleton.mp hb]; exact ⟨o, e⟩
    · intro b hb
      rcases List.mem_cons.mp hb with rfl | hb
      · exact off _ (Nat.le_succ _)
      · rw [List.mem_singleton.mp hb]; exact off _ (Nat.le_refl _)
    · intro b hb
      rcases List.mem_cons.mp hb with rfl | hb
      · exact .inl (by simp)
      · rcases List.mem_cons.mp hb with rfl | hb
        · exact .inl (by simp)
        · rw [List.mem_singleton.mp hb]; exact .inr ⟨_, .inl z⟩
    · rintro i vals ⟨t, v, hv', rfl⟩
      have hv' : us.toArray[i]? = some v := hv'
      rw [List.getElem?_toArray] at hv'
      have hi : i < xs.length := by rw [rs.length]; exact (List.getElem?_eq_some_iff.mp hv').1
      obtain ⟨v2, e2, r2⟩ := rs.get (List.getElem?_eq_getElem hi)
      rw [hv'] at e2; cases e2
      refine ⟨_, _, _, _, numbered_get xs 0 i _ (List.getElem?_eq_getElem hi), rfl, ?_, r2⟩
      simp only [Nat.zero_add]
      exact .int _ _
  | _ => cases hp
end
end Mine
open PySem PySem.W PyProof.Rows
set_option maxRecDepth 100000
namespace Mine
section
variable {X : Cx} {n : Nat} {sc : Scope} {names : List Str} {A : Around} {W : Wd} {s : Shared} {H : Hp}

/-- range(a, b) -/
theorem simI_range2 {p q : XE} {e1 e2 : Expr} {x : Str} {px pos : Pos} (hn : SimE X n sc names (xLit (.val (.type "range"))) (.Name x px)) (h1 : SimE X n sc names p e1) (h2 : SimE X n sc names q e2) (hst : ∀ env, starEach [e1, e2] env = [(false, eval e1 env), (false, eval e2 env)] := by intros; rfl) : SimI X n sc names (xRange2 p q) (.Call (.Name x px) [e1, e2] [] pos) := by
  intro env A W s vs H ds H' hE hA hp ph hv
  revert hp
  refine bindI2 fun a H1 h0 => bindI2 fun b H2 h0' hp => ?_
  dsimp only at hp
  split at hp
  case h_2 => cases hp
  rename_i i j
  refine mapP (g := fun d => d) (P := fun ds H' => wpAny (model X.prog X.w) A (eval (.Call (.Name x px) [e1, e2] [] pos) env) (fun x s1 => wpAny (model X.prog X.w) A (pyIter x) (ItAns X A W s ds H') (fun _ _ => False) s1) (fun _ _ => False) s) (fun xs hr => ?_) hp
  clear hp
  show wpAny _ A (eval (.Name x px) env >>= fun f => callWith pos f [] (backTo pos (starEach [e1, e2] env)) []) _ _ s
  refine wpAny_bind (wpS_ans (hn env A W s vs H _ H hE hA rfl ph hv) fun f W1 s1 t1 r1 p1 => ?_)
  cases r1
  rw [hst env]
  refine PySem.callWith_type rfl (Calls.evalArgs_plain (Calls.spliced_cons ?_))
  refine wpS_ans (h1 env A W1 s1 vs H _ H1 hE hA h0 p1 (hv.nil t1)) fun v W2 s2 t2 r2 p2 => Calls.spliced_cons ?_
  refine wpS_ans (h2 env A W2 s2 vs H1 _ _ hE hA h0' p2 (hv.nil (t1.trans t2))) fun v3 W3 s3 t3 r3 p3 => Calls.spliced_nil ?_
  cases r2
  cases r3
  have t := (t1.trans t2).trans t3
  refine call_range_2 ?_
  refine iter_range hr hA (p3.ext (s' := { s3 with heap := s3.heap.push _, toks := _ }) fun _ _ e => Heap.get?_push_of_some _ e) (IsRange.new ..) fun o it => ?_
  exact ⟨W3, _, t.trans (Step.ext (W' := W3) (fun a o e => Heap.get?_push_of_some _ (Heap.get?_push_of_some _ e)) (.refl _ _)), p3.ext fun _ _ e => Heap.get?_push_of_some _ (Heap.get?_push_of_some _ e), it.back fun a o e => let ⟨o', e'⟩ := t.keep.ex a o e; ⟨o', Heap.get?_push_of_some _ e'⟩⟩

end
end Mine
open PySem PySem.W PyProof.Rows
set_option maxRecDepth 100000
namespace Mine
section
variable {X : Cx} {n : Nat} {sc : Scope} {names : List Str} {A : Around} {W : Wd} {s : Shared} {H : Hp}

theorem sim_assign_comp {elt iter : Expr} {gs : List Comprehension} {scope : Scope} {pos : Pos} {p : XE} {vis : List Nat} {i : Nat} {c : Option XB} {rest : List Clause} {x : Str} {px : Pos} {ifs : List Expr} {it : XI} (hS : Slots names) (j : Nat) {y : Str} {py apos : Pos} (hy : names[j]? = some y) (hky : Asg sc y) (hB : BlockOk X sc scope names vis i rest)
    (hx : names[i]? = some x) (hk : AsgC scope x) (hI : SimI X n sc names it iter) (hT : SimT X n (relabelS scope sc) names c ifs) (hr : SimCl X n (relabelS scope sc) scope names rest gs) (he : SimE X n (relabelS scope sc) names p elt)
    (hsw : ∀ env, EnvOk sc env → swapsWith (.ListComp elt (⟨.Name x px, iter, ifs, 0⟩ :: gs) scope pos) (some (.Name y py)) apos.line env = pure true) (hs : ∀ env v, foldedSetIterable iter env v = pure v := by intros; rfl) :
    SimS X n sc names (xAssign j (xComp vis i it c rest p)) (.Assign [.Name y py] (.ListComp elt (⟨.Name x px, iter, ifs, 0⟩ :: gs) scope pos) apos) := by
  intro env A W s vs H r vs' H' hE hA hp ph hv
  refine xAssignI (P := fun r vs' H' => wpS X A (frameOf names env) _ W s (AnsS X env names r vs' H')) (fun d H' hp' => ?_) hp
  clear hp
  refine xCompI (P := fun d H' => wpS X A (frameOf names env) _ W s (AnsS X env names .next (vs.set j (some d)) H')) (fun ds H1 zs H2 h0 h1 ok => ?_) hp'
  clear hp'
  obtain ⟨cl, hcl, _⟩ := closeL_ok hE scope.names [] hB.ok.free
  rw [List.append_nil] at hcl
  rw [exec_Assign_Name_used _ _ _ _ (hsw env hE)]
  refine wpAny_bind (wpAny_standAt (wpAny_bind ?_))
  show wpAny _ _ (comprehension (.ListComp elt (⟨.Name x px, iter, ifs, 0⟩ :: gs) scope pos) scope env (firstIterPos (⟨.Name x px, iter, ifs, 0⟩ :: gs) pos) (newList []) false (eval iter env) (some (assign (.Name y py) env)) >>= fun _ => pure ()) _ _ _
  refine wpAny_bind (wpAny_comprehension_free (use := some (assign (.Name y py) env)) (cl := cl) rfl (hs env) (closureFor_eq hcl) hB.ok.kind (fun y hy hl => hl ▸ lookup_mem hB.ok.keys (a := y.2) (x := y.1) hy) ?_)
  refine wpAny_mono (hI env A W s vs H ds H1 hE hA h0 ph hv) (fun xv s1 hx1 => wpAny_mono hx1 (fun itv s2 h2 => ?_) fun _ _ e => e.elim) fun _ _ e => e.elim
  obtain ⟨W2, wr, t2, p2, it2⟩ := h2
  refine comp_core hS hE hA hB hx hk hT hr he hcl h1 ok hv t2 p2 (hv.nil t2) it2 ?_
  clear h0 h1 ok hcl ph it2 p2 t2
  intro a C m o us k W' s' eo r z t p' v' hm hCs hC1 hC2 hC3 hC4 hC5
  show wpAny _ _ (assign (.Name y py) env (.ref a)) _ _ _
  refine wpAny_assign_Name (store_at hE hS hy (hky.kind hE) (.lst (eo ▸ z) r) p' v' fun s5 t5 p5 v5 => ?_)
  refine ⟨m, ns_at hm fun o e => t5.keep.obj C o e fun q => q.elim hC5 fun q => q.elim (fun q => hC1 q.1) hC4, fun h' hs' => wpAny_pure (wpAny_pure ?_)⟩
  have kk : ∀ b o, b ∉ [C] → s5.heap.get? b = some o → h'.get? b = some o := fun b o hb e => (hs'.2 b fun e => hb (e ▸ .head _)).trans e
  exact ⟨W', (t.nil.trans t5).written (t := s5.toks) kk (fun b hb => List.mem_singleton.mp hb ▸ hCs), .next', p5.written (t := s5.toks) kk fun b hb => List.mem_singleton.mp hb ▸ ⟨hC1, hC2, hC3, hC4⟩, v5.written (t := s5.toks) kk fun a ha hb => hC5 (List.mem_singleton.mp hb ▸ ha)⟩
end
end Mine
open PySem PySem.W PyProof.Rows
set_option maxRecDepth 100000
namespace Mine
section
variable {X : Cx} {n : Nat} {sc : Scope} {names : List Str} {A : Around} {W : Wd} {s : Shared} {H : Hp}

/-- the top's facts that the lambda needs -/
structure LamTop (X : Cx) (cc : Addr) : Prop where
  hd : CodeHd X.T cc X.PT
  ps : X.ps = #[]
  bi : X.T.BuiltinsAt X.mg X.PT
  name : ∃ v, X.mg "__name__" = some v

theorem LamTop.here {cc : Addr} (L : LamTop X cc) (p : Phi X W H s) : CodeHd s.heap cc X.PT ∧ s.heap.BuiltinsAt X.mg X.PT := by
  refine ⟨?_, ?_⟩
  · obtain ⟨o, vs, file, tf, flags, tg, inF, text, tt, e, h1, h2, h3, h4, h5, h6, h7, h8, hne⟩ := L.hd
    exact ⟨o, vs, file, tf, flags, tg, inF, text, tt, p.top _ _ e hne, h1, h2, h3, h4, h5, h6, h7, h8, hne⟩
  · obtain ⟨bm, o, h1, h2, h3, h4, e, r⟩ := L.bi
    exact ⟨bm, o, h1, h2, h3, h4, p.top _ _ e h4, r⟩

theorem lam_made {cc : Addr} {env : Env} {c aj : Addr} {j : Nat} {oc : Obj} (T : TopOk X) (L : LamTop X cc) (ph : Phi X W H s) (hg : env.globals = mainGlobals) (hcode : env.code = .ref cc) (hq : env.qual ++ "<lambda>" = X.lq) (hdef : defaultsOf X.lpar env = ([], []))
    (hcl : closureFor X.lsc env = pure [(X.lv, c)]) (eoc : s.heap.get? c = some oc) (hoc : oc.data = .cell (some (.ref aj))) (hj : W.mu[j]? = some aj) (hz : W.Z c = none) (hm : c ∉ W.mu) (hP : c ≠ X.PT) (hT : X.T.get? c = none)
    {Q : Value → Shared → Prop} {E : Value → Shared → Prop}
    (hQ : ∀ f W' s', Le W W' → Keep (Mut X [] W) s s' → GrowF [c] s W W' → Phi X W' (H ++ [.lam j]) s' → RV W' (.own H.length) (.ref f) → (∀ b o, b ≠ X.PT → s.heap.get? b = some o → s'.heap.get? b = some o) → Q (.ref f) s') :
    wpAny (model X.prog X.w) A (eval (.Lambda X.lpar X.lbody X.lsc X.lpos) env) Q E s := by
  obtain ⟨more, eP, hmore⟩ := ph.tab
  rw [L.ps, Array.empty_append] at eP
  obtain ⟨hHd, hBi⟩ := L.here ph
  refine kla_eval hdef ?_
  rw [hq]
  -- the rest, once the function stands
  have fin : ∀ (cv : Value) (h' : Heap) (ctv : Value) (tk : Tok) (W1 : Wd), Le (W.frz c oc) W1 → Grow s W W1 ∨ True → (∀ b o, b ≠ X.PT → s.heap.get? b = some o → h'.get? b = some o) → (∃ o, h'.get? X.PT = some o) →
      Phi X W1 H { s with heap := h', toks := tk } → GrowF [c] s W W1 → W1.mu = W.mu → CodeZ X W1 cv →
      Q (.ref h'.objs.size) { s with heap := h'.push { cls := .type "function", data := .func (kla_fn "<lambda>" X.lq X.lpar X.lbody X.lsc [(X.lv, c)] ((X.mg "__name__").getD .none) cv ctv) }, toks := tk } := by
    intro cv h' ctv tk W1 l1 _ k1 exP p1 g1 hmu cz
    have hn := get?_size_none h'
    have ls : s.heap.get? h'.objs.size = none := by
      cases q : s.heap.get? h'.objs.size with
      | none => rfl
      | some o =>
        by_cases e : h'.objs.size = X.PT
        · obtain ⟨o', e'⟩ := exP
          rw [e] at hn; rw [hn] at e'; cases e'
        · rw [k1 _ o e q] at hn; cases hn
    have p2 : Phi X (W1.more h'.objs.size) (H ++ [.lam j]) { s with heap := h'.push { cls := .type "function", data := .func (kla_fn "<lambda>" X.lq X.lpar X.lbody X.lsc [(X.lv, c)] ((X.mg "__name__").getD .none) cv ctv) }, toks := tk } := by
      refine p1.more (s := { s with heap := h', toks := tk }) hn (fun b q e => Heap.get?_push_of_some _ e) ⟨_, Heap.get?_push_size _ rfl, _, cv, ctv, c, oc, aj, rfl, ?_, hoc, ?_, ?_⟩
      · exact l1.z c oc (Wd.frz_self ..)
      · have : W1.mu[j]? = some aj := by rw [hmu]; exact hj
        exact (Grow.more (s := { s with heap := h', toks := tk }) (W := W1) hn).mu_get this
      · exact cz.le (Grow.more (s := { s with heap := h', toks := tk }) (W := W1) hn).le
    refine hQ _ (W1.more h'.objs.size) _ ((Le.frz hz).trans (l1.trans (Grow.more (s := { s with heap := h', toks := tk }) hn).le)) ⟨fun b o e nm => ?_, fun b o e => ?_, rfl, rfl, rfl⟩ ⟨g1.z, g1.zf, ?_⟩ p2 (.own (more_get p1 _)) (fun b o hb e => Heap.get?_push_of_some _ (k1 b o hb e))
    · exact Heap.get?_push_of_some _ (k1 b o (fun q => nm (.inr (.inr q))) e)
    · by_cases q : b = X.PT
      · subst q; obtain ⟨o', e'⟩ := exP; exact ⟨o', Heap.get?_push_of_some _ e'⟩
      · exact ⟨o, Heap.get?_push_of_some _ (k1 b o q e)⟩
    · refine ⟨[h'.objs.size], ?_, fun a ha => ?_⟩
      · show W1.mu ++ [h'.objs.size] = _
        rw [hmu]
      · rw [List.mem_singleton.mp ha]; exact ls
  have pc : Phi X (W.frz c oc) H s := ph.freeze eoc hz hm hP
  have gc : GrowF [c] s W (W.frz c oc) := ⟨(Le.frz hz).z, fun a o e => by
    have e : (if a = c then some oc else W.Z a) = some o := e
    by_cases q : a = c
    · exact .inr (.inr (.inr (by simp [q])))
    · rw [if_neg q] at e; exact .inl e, [], by simp [Wd.frz], by simp⟩
  rcases hmore with rfl | ⟨cv, rfl, cz⟩
  · refine kla_makeFunction (mg := X.mg) hcl hg (ph.globals T) hcode hHd eP trivial rfl T.pg hBi fun c' ctv h' tk hx hge hlt hrec htb => ?_
    obtain ⟨c2, o2, vs2, t2, e2, eo2, hd2, hq2⟩ := hrec
    cases e2
    have fresh : s.heap.get? c' = none := by
      cases q : s.heap.get? c' with
      | none => rfl
      | some o => exact absurd (Heap.lt_size q) (Nat.not_lt.mpr hge)
    have hcP : c' ≠ X.PT := fun q => by rw [q, eP] at fresh; cases fresh
    have hcc : c' ≠ c := fun q => by rw [q, eoc] at fresh; cases fresh
    have k1 : ∀ b o, b ≠ X.PT → s.heap.get? b = some o → h'.get? b = some o := fun b o hb e => hx b o hb e
    have zc' : (W.frz c oc).Z c' = none := pc.z_none fresh
    have l1 : Le (W.frz c oc) ((W.frz c oc).frz c' o2) := .frz zc'
    have czz : CodeZ X ((W.frz c oc).frz c' o2) (.ref c') := ⟨c', o2, vs2, t2, rfl, Wd.frz_self .., hd2, hq2⟩
    have p1 : Phi X ((W.frz c oc).frz c' o2) H { s with heap := h', toks := tk } := by
      have zz : ∀ b, b ≠ c' → ((W.frz c oc).frz c' o2).Z b = (W.frz c oc).Z b := fun b hb => by show (if b = c' then _ else _) = _; rw [if_neg hb]
      refine ⟨fun b o e nb => k1 b o nb (pc.top b o e nb), ⟨#[rawInt X.lpos.line, rawInt X.lpos.col, .ref c'], by rw [L.ps]; exact htb, .inr ⟨_, rfl, czz⟩⟩, fun b o e => ?_, pc.len, fun i co b e1 e2 => ?_, fun i co b e1 e2 hj' => ?_, pc.off, pc.nodup, ?_, fun b o e => l1.z b o (pc.z0 b o e)⟩
      · by_cases q : b = c'
        · subst q; rw [Wd.frz_self] at e; cases e; exact eo2
        · rw [zz b q] at e
          refine k1 b o (fun qq => ?_) (pc.frz b o e)
          rw [qq, pc.zPT] at e; cases e
      · have := (pc.own i co b e1 e2).le l1
        exact this.at (.refl s _) fun o e => k1 b o (pc.off b (List.mem_of_getElem? e2)).2 e
      · rw [zz b (fun q => by
          obtain ⟨o, eo⟩ := pc.mu_ex (List.mem_of_getElem? e2)
          rw [q, fresh] at eo; cases eo)]
        exact pc.apart i co b e1 e2 hj'
      · rw [zz _ (Ne.symm hcP)]; exact pc.zPT
    refine fin (.ref c') h' ctv tk _ l1 (.inr trivial) k1 ⟨_, htb⟩ p1 ⟨fun a o e => l1.z a o (gc.z a o e), fun a o e => ?_, gc.mu⟩ rfl czz
    have e : (if a = c' then some o2 else (W.frz c oc).Z a) = some o := e
    by_cases q : a = c'
    · subst q; exact .inr (.inl fresh)
    · rw [if_neg q] at e; exact gc.zf a o e
  · refine kla_makeFunctionHit (mg := X.mg) (cv := cv) hcl hg (ph.globals T) hcode hHd eP trivial (by simp [codeAmong, rawInt]) hBi fun ctv h' tk hk hsz => ?_
    exact fin cv h' ctv tk _ (.refl _) (.inr trivial) (fun b o _ e => hk b o e) ⟨_, hk _ _ eP⟩ (pc.ext hk) gc rfl (cz.le (.frz hz))
end
end Mine
open PySem PySem.W PyProof.Rows
set_option maxRecDepth 100000
namespace Mine
section
variable {X : Cx} {n : Nat} {sc : Scope} {names : List Str} {A : Around} {W : Wd} {s : Shared} {H : Hp}

/-- left.pop(0) if count == 1 and left != [] else '' -/
noncomputable def gRead (j : Nat) (ds : List D) (H : Hp) : Option (D × Hp) := match ds with
  | [.int 1] => (fNe (.own j) (.lst []) H).bind fun d => match d with
    | .bool true => gPop (.own j) [.int 0] H
    | .bool false => some (.str ⟨#[]⟩, H)
    | _ => none
  | _ => none

theorem gReadI {j : Nat} {ds : List D} {r : D × Hp} {P : Prop} (q : ∀ b, ds = [.int 1] → fNe (.own j) (.lst []) H = some (.bool b) → (match b with | true => gPop (.own j) [.int 0] H | false => some (.str ⟨#[]⟩, H)) = some r → P) (h : gRead j ds H = some r) : P := by
  unfold gRead at h
  split at h
  · revert h
    refine bindI fun d h1 h => ?_
    cases d with
    | bool b => cases b with
      | true => exact q true rfl h1 h
      | false => exact q false rfl h1 h
    | _ => exact noneI h
  · exact noneI h
inductive LamBody (X : Cx) (cn : Str) : Prop
  | mk (p1 : Pos) (k1 : Nat) (p2 p3 p4 p5 p6 p7 p8 p9 : Pos) (k2 : Nat) (p10 p11 : Pos) (k3 : Nat) (p12 p13 : Pos) : X.lbody = .IfExp (.BoolOp .And [.Compare (.Name cn p1) [.Eq] [.Constant (.int 1) k1 p2] p3, .Compare (.Name X.lv p4) [.NotEq] [.List [] p5] p6] p7)
    (.Call (.Attribute (.Name X.lv p8) "pop" p9) [.Constant (.int 0) k2 p10] [] p11) (.Constant (.str ⟨#[]⟩) k3 p12) p13 → p9.endLine = p11.line → LamBody X cn
structure LamIs (X : Cx) (cn : Str) : Prop where
  body : LamBody X cn
  kind : X.lsc.kind = .function
  co : X.lsc.isCoroutine = false
  gen : X.lsc.isGenerator = false
  cell : ∀ x ∈ X.lsc.names, x.2 ≠ .cell
  cnt : X.lsc.names.lookup cn = some .local
  free : X.lsc.names.lookup X.lv = some .free
  ne : X.lv ≠ cn
  dbg : (cn == ("__debug__" : Str)) = false
  dbg2 : (cn == ("__classdict__" : Str)) = false
  dbg3 : (X.lv == ("__debug__" : Str)) = false
  dbg4 : (X.lv == ("__classdict__" : Str)) = false
  bind : ∀ pm cv ct c v, bindArgs (kla_fn "<lambda>" X.lq X.lpar X.lbody X.lsc [(X.lv, c)] pm cv ct) ⟨[v], []⟩ = pure [(cn, v)]

theorem lam_call (T : TopOk X) {cn : Str} (I : LamIs X cn) {j : Nat} {f : Addr} {o : Obj} {ds : List D} {us : List Value} {d : D} {H' : Hp} {R : Result → Shared → Prop} (hA : Calm (n + 1) A) (ho : s.heap.get? f = some o) (hL : LamZ X W j o) (hG : gRead j ds H = some (d, H')) (rus : RVs W ds us) (ph : Phi X W H s)
    (hR : ∀ v W' s', Step X [] W s W' s' → RV W' d v → Phi X W' H' s' → R (.ok (.ret v)) s') : codeAny (model X.prog X.w) A (.call (.ref f) ⟨us, []⟩) R s := by
  obtain ⟨pm, cv, ct, c, oc, aj, rfl, hz, hoc, hj, ⟨cc, occ, xs, t, rfl, hcz, hcd, hcq⟩⟩ := hL
  revert hR
  refine gReadI (fun bn ed hne hG hR => ?_) hG
  obtain ⟨u, rfl, rx⟩ := (ed ▸ rus : RVs W [.int 1] us).inv1
  obtain ⟨tk, rfl⟩ := rx.inv
  clear ed rus rx
  refine kla_callFunE (fd := kla_fn "<lambda>" X.lq X.lpar X.lbody X.lsc [(X.lv, c)] pm (.ref cc) ct) hA.room ho rfl I.co I.gen rfl ⟨cc, occ, xs, t, rfl, ph.frz _ _ hcz, hcd, hcq⟩ ?_
  rw [I.bind]
  refine wpAny_pure (wpAny_newFunctionEnv I.cell (fun x hx => by rw [List.mem_singleton.mp hx]; exact I.cnt) (fun h₁ hns hsb => ⟨(ph.limit T).fresh _ hsb, ?_⟩) I.kind)
  have hk₁ : ∀ b o, s.heap.get? b = some o → h₁.get? b = some o := fun b o e => hsb.extBut b o (Nat.ne_of_lt (Heap.lt_size e)) (Heap.get?_push_of_some _ e)
  generalize henv : newEnv X.lsc s.heap.objs.size mainGlobals [(X.lv, c)] (X.lq ++ ".<locals>.") (some f) (.ref cc) none builtinsNs = env
  have hsc : env.scope = X.lsc := by rw [← henv]; rfl
  have hloc : env.locals = s.heap.objs.size := by rw [← henv]; rfl
  have hcells : env.cells = [(X.lv, c)] := by rw [← henv]; rfl
  have hE : EnvOk X.lsc env := ⟨hsc, I.kind, by rw [← henv]; rfl, by rw [← henv]; rfl, fun x hx => absurd rfl (I.cell (x, .cell) (mem_of_lookup hx))⟩
  have hkd : ∀ y, env.kindOf y = X.lsc.names.lookup y := fun y => by show env.scope.names.lookup y = _; rw [hsc]
  have p1 : Phi X W H { s with heap := h₁, toks := s.toks + 1 } := ph.ext hk₁
  have t1 : Step X [] W s W { s with heap := h₁, toks := s.toks + 1 } := .ext hk₁ (.refl _ _)
  have hn := get?_size_none s.heap
  have frc : s.heap.get? c = some oc := ph.frz _ _ hz
  have v1 : Vars X env [cn] W [some (.int 1)] { s with heap := h₁, toks := s.toks + 1 } := by
    refine ⟨fun i x d hi hd => ?_, fun a ha => ?_, ⟨_, by rw [hloc]; exact hns⟩, fun x c' hm hx => ?_, by rw [hcells]; exact List.pairwise_singleton _ _, fun x c' hm => ?_⟩
    · cases i with
      | zero =>
        simp at hi hd; subst hi hd
        exact ⟨.int 1 tk, .inl ⟨(hkd cn).trans I.cnt, _, by rw [hloc]; exact hns, by show List.lookup cn [(cn, Value.int 1 tk)] = _; simp⟩, .int _ _⟩
      | succ i => simp at hi
    · rcases of_frame ha with rfl | ⟨x, hm, hx⟩
      · rw [hloc]
        exact ⟨ph.mu_ne hn, (ph.T_none hn).2, ph.z_none hn, (ph.T_none hn).1, let ⟨o, _, _, e, _⟩ := hns; ⟨o, e⟩⟩
      · rw [hcells] at hm
        cases List.mem_singleton.mp hm
        exact absurd (List.mem_singleton.mp hx) I.ne
    · rw [hcells] at hm
      cases List.mem_singleton.mp hm
      exact absurd (List.mem_singleton.mp hx) I.ne
    · rw [hcells] at hm
      cases List.mem_singleton.mp hm
      rw [hloc]; exact Nat.ne_of_lt (Heap.lt_size frc)
  have hA' : Calm n (A.deeper env) := hA.deeper env
  have left : ∀ {B : Around} {pp : Pos} {W' : Wd} {G : Hp} {s' : Shared} {Q : Value → Shared → Prop} {E : Value → Shared → Prop}, Le W W' → Phi X W' G s' → Q (.ref aj) s' → wpAny (model X.prog X.w) B (eval (.Name X.lv pp) env) Q E s' := fun l p hq =>
    wpAny_Name (wpAny_loadName_free (by rw [hsc]; exact I.kind) ((hkd X.lv).trans I.free) (by rw [hcells]; simp) ⟨oc, p.frz c oc (l.z _ _ hz), hoc⟩ hq I.dbg4) I.dbg3
  show codeAny _ _ (.expr X.lbody env) _ _
  refine kla_codeExpr ?_
  obtain ⟨q1, k1, q2, q3, q4, q5, q6, q7, q8, q9, k2, q10, q11, k3, q12, q13, hbody, hline⟩ := I.body
  rw [hbody]
  have hB1 : SimB X n X.lsc [cn] (xTest (fInt iEq) (xVar 0) (xLit (.int 1))) (.Compare (.Name cn q1) [.Eq] [.Constant (.int 1) k1 q2] q3) := simB_cmp (sim_var 0 rfl I.dbg I.dbg2) sim_int pr_eqI
  show wpAny _ _ ((isTrue (.Compare (.Name cn q1) [.Eq] [.Constant (.int 1) k1 q2] q3) env (eval (.Compare (.Name cn q1) [.Eq] [.Constant (.int 1) k1 q2] q3) env) >>= fun b => match BoolOp.And, b with
    | .And, false => pure false
    | .Or, true => pure true
    | _, _ => (isTrue (.Compare (.Name X.lv q4) [.NotEq] [.List [] q5] q6) env (eval (.Compare (.Name X.lv q4) [.NotEq] [.List [] q5] q6) env) >>= fun b => match BoolOp.And, b with
      | .And, false => pure false
      | .Or, true => pure true
      | _, _ => pure (BoolOp.And == .And))) >>= fun b => if b = true then eval (.Call (.Attribute (.Name X.lv q8) "pop" q9) [.Constant (.int 0) k2 q10] [] q11) env else eval (.Constant (.str ⟨#[]⟩) k3 q12) env) _ _ _
  refine wpAny_bind (wpAny_bind (wpS_ans (hB1 env (A.deeper env) W _ [some (.int 1)] H true H hE hA' rfl p1 v1) fun b W2 s2 t2 e2 p2 => ?_))
  subst e2
  refine wpAny_bind (wpAny_isTrue_Compare1 (left t2.grow.le p2 ?_) (by with_unfolding_all rfl))
  have hL : SimE X n X.lsc [cn] (xLst []) (.List [] q5) := sim_lst .nil
  refine wpS_ans (hL env (A.deeper env) W2 s2 _ H (.lst []) H hE hA' rfl p2 (v1.nil t2)) fun vl W3 s3 t3 r3 p3 => ?_
  have hj3 : W3.mu[j]? = some aj := t3.grow.mu_get (t2.grow.mu_get hj)
  refine wpS_ans (pr_ne (A.deeper env) W3 s3 H (.own j) (.lst []) (.ref aj) vl _ hA' hne (.own hj3) r3 p3) fun vn W4 s4 t4 r4 p4 => ?_
  have t4' := ((t1.trans t2).trans t3).trans t4
  have e4 : vn = .bool bn := r4.inv
  subst e4
  clear r4 hne
  refine wpAny_truthy_bool ?_
  cases bn with
  | false =>
    refine some2I (P := fun d H' => (∀ v W' s', Step X [] W s W' s' → RV W' d v → Phi X W' H' s' → R (.ok (.ret v)) s') → _) (fun hR => wpAny_pure ?_) hG hR
    show wpAny _ _ (if (false = true) then _ else _) _ _ _
    rw [if_neg Bool.false_ne_true]
    refine wpS_ans (sim_str (X := X) (n := n) (sc := X.lsc) (names := [cn]) (k := k3) (pos := q12) env (A.deeper env) W4 s4 [some (.int 1)] H _ _ hE hA' rfl p4 (v1.nil ((t2.trans t3).trans t4))) fun v W5 s5 t5 r5 p5 => hR v W5 s5 (t4'.trans t5) r5 p5
  | true =>
    refine wpAny_pure ?_
    show wpAny _ _ (if (true = true) then _ else _) _ _ _
    rw [if_pos rfl]
    have hj4 : W4.mu[j]? = some aj := t4.grow.mu_get hj3
    have hok : isOwnL (.own j) H = true := gPopI (P := fun _ _ => isOwnL (.own j) H = true) (fun x xs _ hk' _ => by show (match H[j]? with | some (.list _) => true | _ => false) = true; rw [hk']) hG
    have all : SimAll X n X.lsc [cn] [xLit (.int 0)] [.Constant (.int 0) k2 q10] := .cons sim_int (fun _ => rfl) .nil
    refine methodCall_KW (pl := do return (← importBound (.Name X.lv q8) env).getD true) ?_ ?_
    · refine left (((t2.trans t3).trans t4).grow.le) p4 ?_
      refine wpAny_mono (mt_pop (X := X) (n := n) (A.deeper env) W4 s4 H (.own j) (.ref aj) _ hA' hok (.own hj4) p4) (fun fx s5 ⟨W5, t5, p5, hc, hcall⟩ => ?_) fun _ _ e => e.elim
      refine callWith_all (P := fun h => ∃ W' H' s', Le W5 W' ∧ Phi X W' H' s' ∧ s'.heap = h) all (fun h ⟨W', H', s', l, p', e⟩ => by subst e; exact hc W' H' s' l p') ?_
      refine wpS_ans (all.items hE hA' rfl p5 (v1.nil (((t2.trans t3).trans t4).trans t5))) fun us W6 s6 t6 r6 p6 => ⟨⟨W6, _, s6, t6.grow.le, p6, rfl⟩, ?_⟩
      refine wpS_ans (hcall (A.deeper env) W6 s6 H [.int 0] us d H' t6.grow.le hA' hG r6 p6) fun r W7 s7 t7 r7 p7 => hR r W7 s7 (((t4'.trans t5).trans t6).trans t7) r7 p7
    · show (eval (.Name X.lv q8) env >>= fun ov => standAt q9.atName >>= fun _ => methodCall (.Name X.lv q8) "pop" q9 q11 env ov 1 (backTo q11 (starEach [.Constant (.int 0) k2 q10] env)) (backToKw q11 (keywordEach [] env))) = _
      have hpos : methodCallPos (methodCallForm 1 (backTo q11 (starEach [.Constant (.int 0) k2 q10] env)) (backToKw q11 (keywordEach [] env))) (.Name X.lv q8) env q9 q11 = pure q11 := by
        unfold methodCallPos
        rw [hline]; simp
      unfold methodCall
      rw [hpos]
      rfl
end
end Mine
open PySem PySem.W PyProof.Rows
set_option maxRecDepth 100000
namespace Mine
section
variable {X : Cx} {n : Nat} {sc : Scope} {names : List Str} {A : Around} {W : Wd} {s : Shared} {H : Hp} {K : Frag} {C : Addr} {ns : List Str}

/-- o.read(1), `read` the lambda in o's own dict -/
noncomputable def xRead (C : Addr) (ns : List Str) (name : Str) (p : XE) : XE := fun vs H => (p vs H).bind fun a => (gAttr C ns name a.1 a.2).bind fun f => match f with
  | .own kf => match a.2[kf]? with
    | some (.lam j) => gRead j [.int 1] a.2
    | _ => none
  | _ => none
theorem sim_read (T : TopOk X) {cn : Str} (I : LamIs X cn) (ok : ClsOk X K C ns) {name : Str} {o : Expr} {apos pos p1 : Pos} {k1 : Nat} {p : XE} {pl : Env → Sem Bool} (hn : SimE X (n + 1) sc names p o) (hname : name ∈ ns)
    (he : ∀ env, eval (.Call (.Attribute o name apos) [.Constant (.int 1) k1 p1] [] pos) env = (do
      let ov ← eval o env
      standAt apos.atName
      let (f, first) ← holding [ov] (getMethod ov name (pl env))
      callWith pos f first (backTo pos (starEach [.Constant (.int 1) k1 p1] env)) (backToKw pos (keywordEach [] env))) := by intros; rfl) : SimE X (n + 1) sc names (xRead C ns name p) (.Call (.Attribute o name apos) [.Constant (.int 1) k1 p1] [] pos) := by
  intro env A W s vs H d H' hE hA hp ph hv
  revert hp
  refine bindI2 fun a H0 h0 => bindI fun fd h1 hp2 => ?_
  dsimp only at h1 hp2
  split at hp2
  case h_2 => cases hp2
  rename_i kf
  split at hp2
  case h_2 => cases hp2
  rename_i j hkf
  refine methodCall_KW (pl := pl env) ?_ (he env)
  refine wpS_ans (hn env A W s vs H a H0 hE hA h0 ph hv) fun ov W1 s1 t1 r1 p1' => ?_
  obtain ⟨k, kd, ff, rfl, hk, hkd⟩ : ∃ k kd f, a = .own k ∧ H0[k]? = some (.inst C kd) ∧ H0[kd]? = some (.attrs ns f) := gAttrI (P := fun a => ∃ k kd f, a = .own k ∧ H0[k]? = some (.inst C kd) ∧ H0[kd]? = some (.attrs ns f)) (fun k kd f a b _ _ _ => ⟨k, kd, f, rfl, a, b⟩) h1
  obtain ⟨x, rfl, ha⟩ : ∃ x, ov = .ref x ∧ W1.mu[k]? = some x := by cases r1 with | own ha => exact ⟨_, rfl, ha⟩
  obtain ⟨dd, od, g, hd, hne, e, In, N, hw, R⟩ := inst_at p1' hk hkd ha
  refine method_usual (ok.kn.in p1') In ok.ga ok.gt (ok.free name hname) rfl ?_
  refine get_attr ok h1 (.own ha) p1' fun v rv => ?_
  obtain ⟨f, rfl, hf⟩ : ∃ f, v = .ref f ∧ W1.mu[kf]? = some f := by cases rv with | own hf => exact ⟨_, rfl, hf⟩
  have all : SimAll X (n + 1) sc names [xLit (.int 1)] [.Constant (.int 1) k1 p1] := .cons sim_int (fun _ => rfl) .nil
  refine callWith_all (P := fun h => ∃ o fd, h.get? f = some o ∧ o.data = .func fd) all (fun h ⟨o, fd, e, hd⟩ => ⟨.frame, .inl rfl, (Looks.ld (part := none) e).andThen (by rw [hd]; exact .now)⟩) ?_
  have t1' : Step X [] W s W1 { s1 with toks := s1.toks + 1 } := t1.trans (.tok _)
  refine wpS_ans (all.items hE hA rfl (p1'.tok _) (hv.nil t1')) fun us W2 s2 t2 r2 p2 => ?_
  have hf2 := t2.grow.mu_get hf
  obtain ⟨fo, efo, hL⟩ := p2.own _ _ _ hkf hf2
  refine ⟨?_, ?_⟩
  · obtain ⟨pm, cv, ct, c, oc, aj, rfl, _⟩ := id hL
    exact ⟨_, _, efo, rfl⟩
  · show wpAny _ _ (call (.ref f) us) _ _ _
    exact wpAny_call (lam_call T I hA efo hL hp2 r2 p2 fun v W3 s3 t3 rv' p3 => ⟨W3, (t1'.trans t2).trans t3, rv', p3⟩)
end
end Mine
open PySem PySem.W PyProof.Rows
set_option maxRecDepth 100000
namespace Mine
section
variable {X : Cx} {n : Nat} {sc : Scope} {names : List Str} {A : Around} {W : Wd} {s : Shared} {H : Hp} {K : Frag} {C : Addr} {ns : List Str}

/-- tape.read = lambda ..: the variable of the lambda's cell is told of no more -/
noncomputable def xLam (C : Addr) (ns : List Str) (name : Str) (i m : Nat) (q : XS) : XS := fun vs H => match vs[i]?, vs[m]? with
  | some (some t), some (some (.own j)) => (gSet C ns name t (.own H.length) (H ++ [.lam j])).bind fun H' => q (vs.take m) H'
  | _, _ => none

theorem simf_lam {names' : List Str} {fd : FuncData} {cc : Addr} (T : TopOk X) (L : LamTop X cc) (ok : ClsOk X K C ns) (hnm : names = names' ++ [X.lv]) (hlv : X.lv ∉ names') {name tp : Str} {ptp ap pos : Pos} (i : Nat) (hi : names'[i]? = some tp) {q : XS} {rest : List Stmt}
    (hcode : fd.code = .ref cc) (hqual : fd.qualname ++ ".<locals>." ++ "<lambda>" = X.lq) (hdef : ∀ env, defaultsOf X.lpar env = ([], [])) (hk : sc.names.lookup X.lv = some .cell) (hclo : ∀ env c, EnvOk sc env → env.cells.lookup X.lv = some c → closureFor X.lsc env = pure [(X.lv, c)])
    (hd : (tp == ("__debug__" : Str)) = false) (hdc : (tp == ("__classdict__" : Str)) = false) (hrest : SimF X n sc names' (EnvFd fd) q rest) :
    SimF X n sc names (EnvFd fd) (xLam C ns name i names'.length q) (.Assign [.Attribute (.Name tp ptp) name ap] (.Lambda X.lpar X.lbody X.lsc X.lpos) pos :: rest) := by
  intro env A W s vs H r vs' H' hE hPe hA hp ph hv
  unfold xLam at hp
  split at hp
  case h_2 => cases hp
  rename_i t j ht hm0
  obtain ⟨H2, h2, hp2⟩ := Option.bind_eq_some_iff.mp hp
  clear hp
  have hlvn : names[names'.length]? = some X.lv := by rw [hnm]; simp
  have hmem : X.lv ∈ names := List.mem_of_getElem? hlvn
  obtain ⟨v, st, rv⟩ := hv.get _ _ _ hlvn hm0
  have hkd : env.kindOf X.lv = some .cell := by show env.scope.names.lookup X.lv = _; rw [hE.scope]; exact hk
  obtain ⟨c, hc, oc, eoc, hoc⟩ : ∃ c, env.cells.lookup X.lv = some c ∧ s.heap.IsCell c (some v) := by
    rcases st with ⟨k, _⟩ | ⟨_, c, h1, h2⟩
    · rw [hkd] at k; cases k
    · exact ⟨c, h1, h2⟩
  obtain ⟨aj, rfl, haj⟩ : ∃ aj, v = .ref aj ∧ W.mu[j]? = some aj := by cases rv with | own h => exact ⟨_, rfl, h⟩
  have hcm := mem_of_lookup hc
  have hcf : c ∈ frameOf names env := mem_frame hcm hmem
  obtain ⟨o1, o2, o3, o4, _⟩ := hv.off c hcf
  refine wpAny_execs_cons (plainObj_wpAny_Assign_Attribute ?_ rfl)
  refine lam_made T L ph hE.globals (hPe.1.trans hcode) (by rw [hPe.2]; exact hqual) (hdef env) (hclo env c hE hc) eoc hoc haj o3 o1 o2 o4 fun f W1 s1 l1 k1 g1 p1 r1 kp1 => ?_
  have sub : ∀ a ∈ frameOf names' env, a ∈ frameOf names env ∧ a ≠ c := fun a ha => by
    rcases of_frame ha with rfl | ⟨x, hx, hxn⟩
    · exact ⟨.head _, fun e => hv.far _ _ hcm e.symm⟩
    · refine ⟨mem_frame hx (by rw [hnm]; exact List.mem_append_left _ hxn), fun e => ?_⟩
      have := name_of_addr hv.apart (e ▸ hx) hcm
      exact hlv (this ▸ hxn)
  have v1 : Vars X env names' W1 (vs.take names'.length) s1 := by
    have idx : ∀ k x, names'[k]? = some x → k < names'.length ∧ names[k]? = some x := fun k x h => by
      obtain ⟨hlt, _⟩ := List.getElem?_eq_some_iff.mp h
      exact ⟨hlt, by rw [hnm, List.getElem?_append_left hlt]; exact h⟩
    refine ⟨fun k x d hx hd => ?_, fun a ha => ?_, ?_, fun x c' hm hx => ?_, hv.apart, hv.far⟩
    · obtain ⟨hlt, hx'⟩ := idx k x hx
      rw [List.getElem?_take_of_lt hlt] at hd
      obtain ⟨u, su, ru⟩ := hv.get k x d hx' hd
      exact ⟨u, su.at (names := names') (List.mem_of_getElem? hx) (fun a ha o e => kp1 a o (hv.off a (sub a ha).1).2.1 e), ru.le l1⟩
    · obtain ⟨hf, hac⟩ := sub a ha
      obtain ⟨b1, b2, b3, b4, o, e⟩ := hv.off a hf
      refine ⟨fun m => ?_, b2, ?_, b4, o, kp1 a o b2 e⟩
      · obtain ⟨nu, e1, e2⟩ := g1.mu
        rw [e1] at m
        rcases List.mem_append.mp m with m | m
        · exact b1 m
        · rw [e2 a m] at e; cases e
      · cases z : W1.Z a with
        | none => rfl
        | some o' =>
          rcases g1.zf a o' z with h | h | h | h
          · rw [b3] at h; cases h
          · rw [h] at e; cases e
          · exact absurd h b1
          · exact absurd (List.mem_singleton.mp h) hac
    · obtain ⟨m, hm⟩ := hv.ns
      exact ⟨m, ns_at hm fun o e => kp1 _ o (hv.off _ (.head _)).2.1 e⟩
    · have hxn : x ∈ names := by rw [hnm]; exact List.mem_append_left _ hx
      obtain ⟨u, o, ho, hd⟩ := hv.cell x c' hm hxn
      exact ⟨u, o, kp1 c' o (hv.off c' (mem_frame hm hxn)).2.1 ho, hd⟩
  have htk : (vs.take names'.length)[i]? = some (some t) := by
    obtain ⟨hlt, _⟩ := List.getElem?_eq_some_iff.mp hi
    rw [List.getElem?_take_of_lt hlt]; exact ht
  have hvar : SimE X n sc names' (xVar i) (.Name tp ptp) := sim_var i hi hd hdc
  refine wpS_ans (hvar env A W1 s1 _ (H ++ [.lam j]) t (H ++ [.lam j]) hE hA (by unfold xVar; rw [htk]) p1 v1) fun ov W2 s2 t2 r2 p2 => ?_
  refine set_attr ok h2 r2 (r1.le t2.grow.le) p2 fun s3 t3 p3 => ?_
  have t23 := t2.trans t3
  show wpAny _ _ (execs rest env) _ _ _
  refine wpAny_mono (hrest env A W2 s3 _ H2 r vs' H' hE hPe hA hp2 p3 (v1.nil t23)) (fun fl s4 ⟨W4, k4, g4, hfl, p4⟩ => ?_) fun _ _ e => e
  have kk : Keep (Mut X [] W1) s1 s3 := t23.keep
  have mu1 : ∀ (F : List Addr) a, Mut X F W1 a → Mut X F W a ∨ s.heap.get? a = none := fun F a hm => by
    rcases hm with h | ⟨h, hz⟩ | h
    · exact .inl (.inl h)
    · obtain ⟨nu, e1, e2⟩ := g1.mu
      rw [e1] at h
      rcases List.mem_append.mp h with h | h
      · refine .inl (.inr (.inl ⟨h, ?_⟩))
        cases z : W.Z a with
        | none => rfl
        | some o => rw [g1.z a o z] at hz; cases hz
      · exact .inr (e2 a h)
    · exact .inl (.inr (.inr h))
  have k13 : Keep (Mut X [] W) s s3 := k1.trans kk (mu1 [])
  have g14 : GrowF (frameOf names' env) s1 W1 W4 := .after t23.grow g4 t23.keep.ex
  have k34 : Keep (Mut X (frameOf names env) W) s s4 := by
    refine (k13.mono (M' := Mut X (frameOf names env) W) fun a h => .inl ?_).trans k4 fun a h => ?_
    · rcases h with h | h
      · cases h
      · exact .inr h
    · have h' : Mut X (frameOf names' env) W1 a ∨ s1.heap.get? a = none := mut_grow t23.grow a h
      rcases h' with h' | h'
      · rcases mu1 _ a h' with h'' | h''
        · rcases h'' with h'' | h''
          · exact .inl (.inl (sub a h'').1)
          · exact .inl (.inr h'')
        · exact .inr h''
      · exact .inr (none_of_ex k1.ex h')
  refine ⟨W4, k34, ⟨fun a o e => g14.z a o (g1.z a o e), fun a o e => ?_, ?_⟩, hfl, p4⟩
  · rcases g14.zf a o e with h | h | h | h
    · rcases g1.zf a o h with h | h | h | h
      · exact .inl h
      · exact .inr (.inl h)
      · exact .inr (.inr (.inl h))
      · rw [List.mem_singleton.mp h]; exact .inr (.inr (.inr hcf))
    · exact .inr (.inl (none_of_ex k1.ex h))
    · obtain ⟨nu, e1, e2⟩ := g1.mu
      rw [e1] at h
      rcases List.mem_append.mp h with h | h
      · exact .inr (.inr (.inl h))
      · exact .inr (.inl (e2 a h))
    · exact .inr (.inr (.inr (sub a h).1))
  · obtain ⟨nu, e1, e2⟩ := g1.mu
    obtain ⟨nu', e1', e2'⟩ := g14.mu
    refine ⟨nu ++ nu', by rw [e1', e1, List.append_assoc], fun a ha => ?_⟩
    rcases List.mem_append.mp ha with h | h
    · exact e2 a h
    · exact none_of_ex k1.ex (e2' a h)
end
end Mine
open PySem PySem.W PyProof.Rows
set_option maxRecDepth 100000
namespace Mine
theorem swaps_cell {elt : Expr} {gens : List Comprehension} {scope sc : Scope} {pos py : Pos} {y : Str} {line : Nat} {env : Env} (hE : EnvOk sc env) (hk : sc.names.lookup y = some .cell) : swapsWith (.ListComp elt gens scope pos) (some (.Name y py)) line env = pure false := by
  have h : env.kindOf y = some .cell := by show env.scope.names.lookup y = _; rw [hE.scope]; exact hk
  show (pure (env.blockKind == .function && env.kindOf y == some .local && py.line == pos.line && !(scope.names.any fun (n, k) => n == y && (k == .local || k == .cell))) : Sem Bool) = pure false
  rw [h]
  have : (some NameKind.cell == some NameKind.local) = false := by decide
  rw [this, Bool.and_false, Bool.false_and, Bool.false_and]
theorem swaps_local {elt : Expr} {gens : List Comprehension} {scope sc : Scope} {pos py : Pos} {y : Str} {line : Nat} {env : Env} (hE : EnvOk sc env) (hk : sc.names.lookup y = some .local) (hl : (py.line == pos.line) = true) (hn : (scope.names.any fun x => x.1 == y && (x.2 == .local || x.2 == .cell)) = false) : swapsWith (.ListComp elt gens scope pos) (some (.Name y py)) line env = pure true := by
  have h : env.kindOf y = some .local := by show env.scope.names.lookup y = _; rw [hE.scope]; exact hk
  have hb : (env.blockKind == .function) = true := by unfold Env.blockKind; rw [hE.scope, hE.kind]; rfl
  show (pure (env.blockKind == .function && env.kindOf y == some .local && py.line == pos.line && !(scope.names.any fun x => x.1 == y && (x.2 == .local || x.2 == .cell))) : Sem Bool) = pure true
  rw [h, hb, hl, hn]
  rfl
end Mine
open PySem PySem.W PyProof.Rows
set_option maxRecDepth 100000
namespace Mine
noncomputable def isKind (sc : Scope) (x : Str) (k : NameKind) : Bool := sc.names.lookup x == some k
theorem isKind_of {sc : Scope} {x : Str} {k : NameKind} (h : isKind sc x k = true) : sc.names.lookup x = some k := eq_of_beq h
noncomputable def asgB (sc : Scope) (x : Str) : Bool := isKind sc x .local || isKind sc x .cell
theorem asg_of {sc : Scope} {x : Str} (h : asgB sc x = true) : Asg sc x := by
  rcases Bool.or_eq_true_iff.mp h with h | h
  · exact .inl (isKind_of h)
  · exact .inr (isKind_of h)
theorem asgC_of {sc : Scope} {x : Str} (h : asgB sc x = true) : AsgC sc x := by
  rcases Bool.or_eq_true_iff.mp h with h | h
  · exact .inl (isKind_of h)
  · exact .inr (isKind_of h)
noncomputable def blockB (sc scope : Scope) (names : List Str) (vis : List Nat) (i : Nat) (ris : List Nat) : Bool :=
  scOk sc scope && scope.names.all (fun p => !(p.2 == .free || p.2 == .cell) || names.contains p.1) && vis.all (fun j => match names[j]? with | some x => isKind scope x .free | none => true) && !vis.contains i && ris.all (fun j => !vis.contains j && j != i)
theorem block_of {X : Cx} {sc scope : Scope} {names : List Str} {vis : List Nat} {i : Nat} {rest : List Clause} (h : blockB sc scope names vis i (rest.map (·.i)) = true) : BlockOk X sc scope names vis i rest := by
  unfold blockB at h
  simp only [Bool.and_eq_true] at h
  obtain ⟨⟨⟨⟨h1, h2⟩, h3⟩, h4⟩, h5⟩ := h
  refine ⟨scOk_of h1, fun x k hm hk => ?_, fun j hj x hx => ?_, by simpa using h4, fun cl hcl => ?_⟩
  · have := List.all_eq_true.mp h2 (x, k) hm
    rcases hk with rfl | rfl
    · simpa using this
    · simpa using this
  · have := List.all_eq_true.mp h3 j hj
    rw [hx] at this
    exact isKind_of this
  · have := List.all_eq_true.mp h5 cl.i (List.mem_map.mpr ⟨cl, hcl, rfl⟩)
    simpa using this
noncomputable def slotsB (names : List Str) : Bool := decide names.Nodup
theorem slots_of {names : List Str} (h : slotsB names = true) : Slots names := by
  have hn : names.Nodup := of_decide_eq_true h
  refine ⟨fun i j x hi hj => ?_⟩
  obtain ⟨h1, e1⟩ := List.getElem?_eq_some_iff.mp hi
  obtain ⟨h2, e2⟩ := List.getElem?_eq_some_iff.mp hj
  rcases Nat.lt_trichotomy i j with h | h | h
  · exact absurd (e1.trans e2.symm) ((List.pairwise_iff_getElem.mp hn) i j h1 h2 h)
  · exact h
  · exact absurd (e2.trans e1.symm) ((List.pairwise_iff_getElem.mp hn) j i h2 h1 h)
noncomputable def fnB (sc : Scope) (names params : List Str) : Bool :=
  sc.kind == .function && !sc.isCoroutine && !sc.isGenerator && decide (((cellsFrom 0 sc.names []).map (·.1)).Nodup) && decide params.Nodup && params.isPrefixOf names && params.all (asgB sc)
theorem fn_of {sc : Scope} {names params : List Str} (h : fnB sc names params = true) : FnScope sc names params := by
  unfold fnB at h
  simp only [Bool.and_eq_true, Bool.not_eq_true'] at h
  obtain ⟨⟨⟨⟨⟨⟨h1, h2⟩, h3⟩, h4⟩, h5⟩, h6⟩, h7⟩ := h
  exact ⟨eq_of_beq h1, h2, h3, of_decide_eq_true h4, of_decide_eq_true h5, List.isPrefixOf_iff_prefix.mp h6, fun x hx => asg_of (List.all_eq_true.mp h7 x hx)⟩
end Mine
open PySem PySem.W PyProof.Rows
set_option maxRecDepth 100000
namespace Mine
/-! an own list that is handed on becomes frozen -/
noncomputable def sealAll (f : D → Hp → Option (D × Hp)) : List D → Hp → Option (List D × Hp)
  | [], H => some ([], H)
  | d :: ds, H => (f d H).bind fun a => (sealAll f ds a.2).map fun b => (a.1 :: b.1, b.2)
noncomputable def sealD : Nat → D → Hp → Option (D × Hp)
  | 0, _, _ => none
  | n + 1, d, H => match d with
    | .own k => match H[k]? with
      | some (.list xs) => some (.lst xs, H.set k .junk)
      | _ => none
    | .lst xs => (sealAll (sealD n) xs H).map fun a => (.lst a.1, a.2)
    | .tup xs => (sealAll (sealD n) xs H).map fun a => (.tup a.1, a.2)
    | d => some (d, H)
section
variable {X : Cx} {n : Nat} {sc : Scope} {names : List Str} {s : Shared}
theorem sealAll_ok {f : D → Hp → Option (D × Hp)} (hf : ∀ (d : D) (H : Hp) (d' : D) (H' : Hp) (W : Wd) (v : Value), f d H = some (d', H') → RV W d v → Phi X W H s → ∃ W', Grow s W W' ∧ RV W' d' v ∧ Phi X W' H' s) :
    ∀ (ds : List D) (H : Hp) (ds' : List D) (H' : Hp) (W : Wd) (vs : List Value), sealAll f ds H = some (ds', H') → RVs W ds vs → Phi X W H s → ∃ W', Grow s W W' ∧ RVs W' ds' vs ∧ Phi X W' H' s
  | [], H, ds', H', W, vs, h, r, p => by
    cases h; cases r; exact ⟨W, .refl _ _, .nil, p⟩
  | d :: ds, H, ds', H', W, vs, h, r, p => by
    unfold sealAll at h
    obtain ⟨⟨a, H1⟩, h1, h⟩ := Option.bind_eq_some_iff.mp h
    obtain ⟨⟨b, H2⟩, h2, h⟩ := Option.map_eq_some_iff.mp h
    cases h
    cases r with
    | cons r rs =>
      obtain ⟨W1, g1, r1, p1⟩ := hf _ _ _ _ _ _ h1 r p
      obtain ⟨W2, g2, r2, p2⟩ := sealAll_ok hf ds H1 b H2 W1 _ h2 (rs.grow g1) p1
      exact ⟨W2, g1.trans g2 (fun a o e => ⟨o, e⟩), .cons (r1.grow g2) r2, p2⟩
theorem sealD_ok : ∀ (m : Nat) (d : D) (H : Hp) (d' : D) (H' : Hp) (W : Wd) (v : Value), sealD m d H = some (d', H') → RV W d v → Phi X W H s → ∃ W', Grow s W W' ∧ RV W' d' v ∧ Phi X W' H' s
  | 0, _, _, _, _, _, _, h, _, _ => by cases h
  | m + 1, d, H, d', H', W, v, h, r, p => by
    have ih := sealAll_ok (X := X) (s := s) (sealD_ok m)
    cases d with
    | own k =>
      unfold sealD at h
      dsimp only at h
      split at h
      · rename_i xs hk
        cases h
        cases r with
        | own ha =>
          obtain ⟨vs, n, e, r, p', g, z⟩ := p.seal hk ha
          exact ⟨_, g, .lst z (r.grow g), p'⟩
      · cases h
    | lst xs =>
      unfold sealD at h
      obtain ⟨⟨a, H1⟩, h1, h⟩ := Option.map_eq_some_iff.mp h
      cases h
      cases r with
      | lst z rs =>
        obtain ⟨W', g, r', p'⟩ := ih _ _ _ _ _ _ h1 rs p
        exact ⟨W', g, .lst (g.z _ _ z) r', p'⟩
    | tup xs =>
      unfold sealD at h
      obtain ⟨⟨a, H1⟩, h1, h⟩ := Option.map_eq_some_iff.mp h
      cases h
      cases r with
      | tup z rs =>
        obtain ⟨W', g, r', p'⟩ := ih _ _ _ _ _ _ h1 rs p
        exact ⟨W', g, .tup (g.z _ _ z) r', p'⟩
    | none => cases h; exact ⟨W, .refl _ _, r, p⟩
    | bool b => cases h; exact ⟨W, .refl _ _, r, p⟩
    | int b => cases h; exact ⟨W, .refl _ _, r, p⟩
    | str b => cases h; exact ⟨W, .refl _ _, r, p⟩
    | val b => cases h; exact ⟨W, .refl _ _, r, p⟩
noncomputable def xSeal (p : XE) : XE := fun vs H => (p vs H).bind fun a => sealD 4 a.1 a.2
theorem sim_seal {p : XE} {e : Expr} (h : SimE X n sc names p e) : SimE X n sc names (xSeal p) e := by
  intro env A W s vs H d H' hE hA hp ph hv
  unfold xSeal at hp
  obtain ⟨⟨a, H1⟩, h1, hp⟩ := Option.bind_eq_some_iff.mp hp
  refine wpS_ans (h env A W s vs H a H1 hE hA h1 ph hv) fun v W1 s1 t1 r1 p1 => ?_
  obtain ⟨W', g, r', p'⟩ := sealD_ok 4 _ _ _ _ _ _ hp r1 p1
  exact ⟨W', t1.trans ⟨.refl _ _, g⟩, r', p'⟩
theorem Ct.mono {v : Value} {m : Nat} {G : List D → Hp → Option (D × Hp)} (h : Ct X m v G) (l : m ≤ n) : Ct X n v G := fun A W s H ds us d H' hA => h A W s H ds us d H' (hA.mono l)
/-- the truth of a bool -/
noncomputable def tBool (d : D) (_ : Hp) : Option Bool := match d with
  | .bool b => some b
  | _ => none
theorem pr_truthyB : Pr1 X n truthy tBool := by
  intro A W s H a u d hA h r p
  unfold tBool at h
  split at h
  · cases h; cases r
    exact wpAny_truthy_bool ⟨W, .refl, rfl, p⟩
  · cases h
end
end Mine
open PySem PySem.W PyProof.Rows
set_option maxRecDepth 100000
namespace Mine
section
variable {X : Cx} {n : Nat} {sc : Scope} {names : List Str} {s : Shared}
theorem sim_neg {i : Int} {k : Nat} {p p' : Pos} : SimE X n sc names (xLit (.int (-i))) (.UnaryOp .USub (.Constant (.int i) k p) p') := by
  intro env A W s vs H d H' hE hA hp ph hv
  cases hp
  exact wpS_here (wpAny_UnaryOp (wpAny_Constant_int (neg_int ⟨.tok _, .int _ _, (ph.tok _)⟩)))
/-- x += text -/
noncomputable def fIAddS (a b : D) (H : Hp) : Option D := match a, b with
  | .int i, .int j => some (.int (i + j))
  | .str x, .str y => if x.length + y.length ≤ 1000000 then some (.str (x ++ y)) else none
  | _, _ => none
theorem pr_iaddS' : Pr2 X n (inplaceOp .Add) fIAddS := by
  intro A W s H a b u v d hA h
  exact pr_iaddS A W s H a b u v d hA (by unfold fIAddS at h; exact h)
end
/-- the attributes that the lexer class's objects have -/
noncomputable def lexNs : List Str := ["lineno", "instream", "whitespace", "pushback", "read"]
/-- a name of the builtins -/
structure Blt (X : Cx) (x : Str) (v : Value) : Prop where
  g : X.mg x = none
  b : X.mb x = some v
/-- what iter(self._read_char, '') asks -/
structure IterOk (X : Cx) (K : Frag) (C : Addr) : Prop where
  f : findIn K (.ref C) "_read_char" = some (some (.ref X.rc))
  t : typeIn K (.ref X.rc) = some (.type "function")
  g : specialIn K (.ref X.rc) "__get__" = some (some (.builtin "function.__get__"))
  k : takesIn K (.ref X.rc) = some false
  c : copiedNames.contains ("_read_char" : Str) = false
  n : ("_read_char" : Str) ∉ lexNs
noncomputable def bodyOf : Stmt → List Stmt
  | .FunctionDef _ _ b _ _ _ _ _ _ _ => b
  | .ClassDef _ _ _ b _ _ _ _ _ _ _ => b
  | _ => []
noncomputable def scopeOf : Stmt → Scope
  | .FunctionDef _ _ _ _ _ _ s _ _ _ => s
  | _ => default
noncomputable def topAt (P : Program) (k : Nat) : Stmt := P.main.body.getD k (.Pass default)
noncomputable def methAt (P : Program) (k j : Nat) : Stmt := (bodyOf (topAt P k)).getD j (.Pass default)
/-- the code of the table that filemode runs over -/
noncomputable def tableD : D :=
  let p : Int → Str → D := fun i x => .tup [.int i, .str x]
  .tup [.tup [p 40960 "l", p 49152 "s", p 32768 "-", p 24576 "b", p 16384 "d", p 8192 "c", p 4096 "p"],
    .tup [p 256 "r"], .tup [p 128 "w"], .tup [p 2112 "s", p 2048 "S", p 64 "x"],
    .tup [p 32 "r"], .tup [p 16 "w"], .tup [p 1032 "s", p 1024 "S", p 8 "x"],
    .tup [p 4 "r"], .tup [p 2 "w"], .tup [p 513 "t", p 512 "T", p 1 "x"]]
/-- the text of _read_char, as a call's contract -/
structure RcOk (X : Cx) (n : Nat) (G : List D → Hp → Option (D × Hp)) (orc : Obj) (frc : FuncData) : Prop where
  h : Cc X n (.ref X.rc) G
  o : X.T.get? X.rc = some orc
  p : X.rc ≠ X.PT
  f : orc.data = .func frc
noncomputable def lamE : Stmt → Expr
  | .Assign _ v _ => v
  | _ => .Constant .none 0 default
noncomputable def lamPar : Expr → Arguments
  | .Lambda a _ _ _ => a
  | _ => default
noncomputable def lamBody : Expr → Expr
  | .Lambda _ b _ _ => b
  | e => e
noncomputable def lamSc : Expr → Scope
  | .Lambda _ _ s _ => s
  | _ => default
noncomputable def lamPos : Expr → Pos
  | .Lambda _ _ _ p => p
  | _ => default
/-- the lambda that X tells of is the text's -/
structure LamOf (X : Cx) (e : Expr) : Prop where
  par : X.lpar = lamPar e
  body : X.lbody = lamBody e
  sc : X.lsc = lamSc e
  pos : X.lpos = lamPos e
  v : X.lv = "left"
  names : X.lsc.names = ([(("count" : Str), NameKind.local), (X.lv, NameKind.free)] : List (Str × NameKind))
theorem LamOf.clo {X : Cx} {e : Expr} (h : LamOf X e) {sc : Scope} (env : Env) (c : Addr) (_ : EnvOk sc env) (hc : env.cells.lookup X.lv = some c) : closureFor X.lsc env = pure [(X.lv, c)] := by
  refine closureFor_eq ?_
  rw [h.names]
  unfold closeL
  rw [if_neg (by decide)]
  unfold closeL
  rw [if_pos (by decide), hc]
  rfl
theorem lam_eq {X : Cx} {e : Expr} (lo : LamOf X e) (h : e = .Lambda (lamPar e) (lamBody e) (lamSc e) (lamPos e)) : e = .Lambda X.lpar X.lbody X.lsc X.lpos :=
  h.trans (by rw [lo.par, lo.body, lo.sc, lo.pos])
section
variable {X : Cx} {n : Nat} {sc : Scope} {names : List Str} {K : Frag} {C : Addr} {ns : List Str}
theorem simf_lam' {e : Expr} (he : e = .Lambda X.lpar X.lbody X.lsc X.lpos) {names' : List Str} {fd : FuncData} {cc : Addr} (T : TopOk X) (L : LamTop X cc) (ok : ClsOk X K C ns) (hnm : names = names' ++ [X.lv]) (hlv : X.lv ∉ names') {name tp : Str} {ptp ap pos : Pos} (i : Nat) (hi : names'[i]? = some tp) {q : XS} {rest : List Stmt}
    (hcode : fd.code = .ref cc) (hqual : fd.qualname ++ ".<locals>." ++ "<lambda>" = X.lq) (hdef : ∀ env, defaultsOf X.lpar env = ([], [])) (hk : sc.names.lookup X.lv = some .cell) (hclo : ∀ env c, EnvOk sc env → env.cells.lookup X.lv = some c → closureFor X.lsc env = pure [(X.lv, c)])
    (hd : (tp == ("__debug__" : Str)) = false) (hdc : (tp == ("__classdict__" : Str)) = false) (hrest : SimF X n sc names' (EnvFd fd) q rest) :
    SimF X n sc names (EnvFd fd) (xLam C ns name i names'.length q) (.Assign [.Attribute (.Name tp ptp) name ap] e pos :: rest) := by
  subst he
  exact simf_lam T L ok hnm hlv i hi hcode hqual hdef hk hclo hd hdc hrest
end
end Mine
open PySem PySem.W PyProof.Rows
set_option maxRecDepth 100000
namespace Mine
/-! from the fragment of the top's heap to what the derivations ask -/
noncomputable def kPT (K : Frag) (P : Addr) : Frag := K.filter fun p => p.1 != P
theorem lookup_filter {P : Addr} : ∀ {K : Frag} {a : Addr} {o : Obj}, (kPT K P).lookup a = some o → K.lookup a = some o ∧ a ≠ P
  | [], _, _, h => by cases h
  | (b, x) :: r, a, o, h => by
    unfold kPT at h
    rw [List.filter_cons] at h
    by_cases hb : b = P
    · subst hb
      rw [if_neg (by simp)] at h
      obtain ⟨h1, h2⟩ := lookup_filter (K := r) h
      refine ⟨?_, h2⟩
      rw [List.lookup_cons]
      have : (a == b) = false := by simpa using h2
      rw [this]; exact h1
    · rw [if_pos (by simpa using hb), List.lookup_cons] at h
      rw [List.lookup_cons]
      cases q : a == b with
      | true =>
        rw [q] at h
        have : a = b := beq_iff_eq.mp q
        exact ⟨h, this ▸ hb⟩
      | false =>
        rw [q] at h
        exact lookup_filter (K := r) h
noncomputable def mkX (prog : Program) (w : World) (h : Heap) (P : Addr) (mg mb : Str → Option Value) (lq : Str) (e : Expr) (rc : Addr) : Cx where
  prog := prog
  w := w
  T := h
  PT := P
  ps := #[]
  mg := mg
  mb := mb
  lq := lq
  lpar := lamPar e
  lbody := lamBody e
  lsc := lamSc e
  lv := "left"
  lpos := lamPos e
  rc := rc
  Z0 := fun a => if a = P then none else h.get? a

section
variable {prog : Program} {w : World} {h : Heap} {P : Addr} {mg mb : Str → Option Value} {lq : Str} {e : Expr} {rc : Addr} {K : Frag}
theorem kn_of (KX : K.In h) : Kn (mkX prog w h P mg mb lq e rc) (kPT K P) := fun a o q => let ⟨h1, h2⟩ := lookup_filter q; ⟨KX a o h1, h2⟩
theorem isSome_obj {h : Heap} (KX : K.In h) {a : Addr} (q : (K.lookup a).isSome = true) : ∃ o, h.get? a = some o := by
  obtain ⟨o, q⟩ := Option.isSome_iff_exists.mp q
  exact ⟨o, KX _ _ q⟩
theorem topOk_of (KX : K.In h) (g : h.Ns mainGlobals mg) (b : h.Ns builtinsNs mb) (l : h.NoLimit) (h1 : (mainGlobals != P) = true) (h2 : (builtinsNs != P) = true) (h3 : (cStatics != P) = true) (h4 : (K.lookup sysModules).isSome = true) : TopOk (mkX prog w h P mg mb lq e rc) :=
  ⟨g, b, l, bne_iff_ne.mp h1, bne_iff_ne.mp h2, bne_iff_ne.mp h3, isSome_obj KX h4⟩
theorem mg_none {n : Str} (KX : K.In h) (G : h.Ns mainGlobals mg) (e : nsIn K mainGlobals n = some none) : mg n = none := by
  obtain ⟨o, es, ep, ho, hd, _, hf⟩ := G
  unfold nsIn at e
  split at e
  · rename_i c d es' n' sl q
    have := KX _ _ q
    rw [ho] at this
    cases this
    cases hd
    split at e
    · cases e
    · rename_i he
      rw [← hf]
      unfold nsFind findBy
      rw [← Array.find?_toList, he]
      rfl
  · cases e
theorem blt_of {p : Program} {loose : List Str} {mean : ExcName → Option Value} {x : Str} {v : Value} (KX : K.In h) (T : Top p loose mean mg mb h) (e1 : nsIn K mainGlobals x = some none) (e2 : (x != ("__name__" : Str)) = true) (e3 : bootBuiltins x = some v) : Blt (mkX prog w h P mg mb lq e rc) x v :=
  ⟨mg_none KX T.g e1, (T.builtins x (by simpa using e2)).trans e3⟩

/-! defs -/
noncomputable def fdOf (K : Frag) (a : Addr) : FuncData := match K.lookup a with
  | some ⟨_, _, .func fd, _⟩ => fd
  | _ => default
noncomputable def isFn (K : Frag) (a : Addr) : Bool := match K.lookup a with
  | some ⟨_, _, .func _, _⟩ => true
  | _ => false
theorem fn_obj {a : Addr} (h1 : isFn K a = true) : ∃ o, K.lookup a = some o ∧ o.data = .func (fdOf K a) := by
  unfold isFn at h1
  split at h1
  · rename_i c d fd sl q
    refine ⟨_, q, ?_⟩
    unfold fdOf; rw [q]
  · cases h1
noncomputable def codeB (K : Frag) (fd : FuncData) : Bool := match fd.code with
  | .ref c => match K.lookup c with
    | some ⟨_, _, .fields xs, _⟩ => match (xs[1]? : Option Value) with
      | some (.str q _) => q == fd.qualname
      | _ => false
    | _ => false
  | _ => false
theorem code_of {fd : FuncData} (hc : codeB K fd = true) : ∃ c oc xs t, fd.code = .ref c ∧ K.lookup c = some oc ∧ oc.data = .fields xs ∧ xs[1]? = some (.str fd.qualname t) := by
  unfold codeB at hc
  split at hc
  · rename_i c e1
    split at hc
    · rename_i q1 q2 xs q3 e2
      split at hc
      · rename_i q t e3
        exact ⟨c, _, xs, t, e1, e2, rfl, by rw [e3, eq_of_beq hc]⟩
      · cases hc
    · cases hc
  · cases hc
theorem funAt_of {X : Cx} (kn : Kn X K) {a : Addr} {sc : Scope} {body : List Stmt} {params : List Str} (h1 : isFn K a = true) (hb : (fdOf K a).body = .stmts body) (hs : (fdOf K a).scope = sc) (hg : (fdOf K a).globals = mainGlobals) (hbu : (fdOf K a).builtins = builtinsNs) (hcl : (fdOf K a).closure = [])
    (hbind : ∀ us : List Value, us.length = params.length → bindArgs (fdOf K a) ⟨us, []⟩ = pure (params.zip us)) (hc : codeB K (fdOf K a) = true) : FunAt X a (fdOf K a) sc body params := by
  obtain ⟨o, q, hd⟩ := fn_obj h1
  obtain ⟨c, oc, xs, t, e1, e2, e3, e4⟩ := code_of hc
  exact ⟨o, c, oc, xs, t, (kn _ _ q).1, (kn _ _ q).2, hd, hb, hs, hg, hbu, hcl, hbind, e1, (kn _ _ e2).2, (kn _ _ e2).1, e3, e4⟩
/-- frozen data of the top, checked -/
noncomputable def rvChk (K : Frag) : Nat → D → Value → Bool
  | 0, _, _ => false
  | n + 1, d, v => match d, v with
    | .int i, .int j _ => i == j
    | .str x, .str y _ => x == y
    | .tup ds, .ref a => match K.lookup a with
      | some ⟨.type t, none, .seq arr _, sl⟩ => t == "tuple" && sl.isEmpty && (ds.length == arr.toList.length) && (ds.zip arr.toList).all fun p => rvChk K n p.1 p.2
      | _ => false
    | _, _ => false
theorem rvs_zip {W : Wd} : ∀ {ds : List D} {vs : List Value}, ds.length = vs.length → (∀ p ∈ ds.zip vs, RV W p.1 p.2) → RVs W ds vs
  | [], [], _, _ => .nil
  | d :: ds, v :: vs, h, k => .cons (k (d, v) (by simp)) (rvs_zip (by simpa using h) fun p hp => k p (by rw [List.zip_cons_cons]; exact List.mem_cons_of_mem _ hp))
  | [], _ :: _, h, _ => by simp at h
  | _ :: _, [], h, _ => by simp at h
theorem rvChk_ok {W : Wd} (hz : ∀ a o, K.lookup a = some o → W.Z a = some o) : ∀ (n : Nat) (d : D) (v : Value), rvChk K n d v = true → RV W d v
  | 0, _, _, h => by cases h
  | n + 1, d, v, h => by
    unfold rvChk at h
    split at h
    · rw [eq_of_beq h]; exact .int _ _
    · rw [eq_of_beq h]; exact .str _ _
    · rename_i ds a
      split at h
      · rename_i t arr m sl q
        simp only [Bool.and_eq_true] at h
        obtain ⟨⟨⟨h1, h2⟩, h3⟩, h4⟩ := h
        have h1 : t = "tuple" := eq_of_beq h1
        subst h1
        have h2 : sl = #[] := Array.isEmpty_iff.mp h2
        subst h2
        refine .tup (vs := arr.toList) (n := m) (hz _ _ q) (rvs_zip (eq_of_beq h3) fun p hp => ?_)
        exact rvChk_ok hz n _ _ (List.all_eq_true.mp h4 p hp)
      · cases h
    · cases h
theorem lamTop_of {cc : Addr} (KX : K.In h) {p : Program} {loose : List Str} {mean : ExcName → Option Value} (T : Top p loose mean mg mb h) (h1 : codeHdIn K cc P = true) {bm : Addr} (h2 : nsIn K mainGlobals "__builtins__" = some (some (.ref bm))) (h3 : (bm != mainGlobals && bm != P) = true)
    {v : Value} (h4 : nsIn K mainGlobals "__name__" = some (some v)) : LamTop (mkX prog w h P mg mb lq e rc) cc := by
  refine ⟨codeHd_of_K KX h1, rfl, ?_, ⟨v, mg_of KX T.g h4⟩⟩
  obtain ⟨bm', ob, e1, e2, e3, e4, e5, e6⟩ := T.bmain
  have := mg_of KX T.g h2
  rw [e1] at this
  cases this
  rw [Bool.and_eq_true] at h3
  exact ⟨bm, ob, e1, e2, bne_iff_ne.mp h3.1, bne_iff_ne.mp h3.2, e3, e4, e5, e6⟩
/-- the start -/
theorem phi_start (ht : h.get? P = some (PySem.W.X.tableObj #[])) {s : Shared} (hs : s.heap = h) : Phi (mkX prog w h P mg mb lq e rc) ⟨fun a => if a = P then none else h.get? a, []⟩ [] s where
  top := fun a o q _ => by rw [hs]; exact q
  tab := ⟨#[], by rw [hs]; exact ht, .inl rfl⟩
  frz := fun a o q => by
    have q : (if a = P then none else h.get? a) = some o := q
    split at q
    · cases q
    · rw [hs]; exact q
  len := rfl
  own := fun k co a q => by simp at q
  apart := fun k co a q => by simp at q
  off := fun a q => by simp at q
  nodup := List.nodup_nil
  zPT := by show (if P = P then _ else _) = _; simp
  z0 := fun a o q => q
/-- what stood before the call stands -/
theorem oldK_of {X : Cx} {s₁ s' : Shared} {Z : Addr → Option Obj} (k : Keep (Mut X [] ⟨Z, []⟩) s₁ s') (ht : s₁.heap.get? X.PT = some (PySem.W.X.tableObj #[])) (hc : isCodeTable s₁.heap X.PT) {H : Hp} {W' : Wd} (p : Phi X W' H s') (hps : X.ps = #[]) : OldK s₁.heap s'.heap := by
  refine ⟨fun b o q => ?_, fun b o q => k.ex b o q⟩
  by_cases hb : b = X.PT
  · subst hb
    rw [ht] at q; cases q
    obtain ⟨m, e, _⟩ := p.tab
    rw [hps] at e
    exact .inr (.inl ⟨hc, rfl, #[], m, rfl, by rw [e]; rfl⟩)
  · refine .inl (k.obj b o q ?_)
    rintro (m | m | m)
    · simp at m
    · simp at m
    · exact hb m
noncomputable def named (K : Frag) (x : Str) : Bool := match nsIn K mainGlobals x with
  | some (some _) => true
  | _ => false
theorem named_of {x : Str} (e : named K x = true) : ∃ v, nsIn K mainGlobals x = some (some v) := by
  unfold named at e
  split at e
  · rename_i v q; exact ⟨v, q⟩
  · cases e
theorem Cal.cls {X : Cx} {a : Addr} (kn : Kn X K) (hk : keepIn K (.ref a) = true) (W : Wd) : Cal X W (.ref a) := fun W' H' s' l p => keeps_K hk s'.heap (kn.in p)
theorem isCT_of {c : Addr} (KX : K.In h) (e : codeHdIn K c P = true) : isCodeTable h P := by
  unfold codeHdIn at e
  split at e
  · rename_i vs _ hk
    simp only [Bool.and_eq_true] at e
    obtain ⟨⟨⟨⟨⟨e1, e2⟩, e3⟩, e4⟩, e5⟩, e6⟩ := e
    split at e1
    · rename_i P' hv
      rw [eq_of_beq e1] at hv
      exact ⟨c, _, vs, KX _ _ hk, rfl, rfl, hv⟩
    · cases e1
  · cases e
end
end Mine
open PySem PySem.W PyProof.Rows
set_option maxRecDepth 100000
namespace Mine
/-! the head by hand: what is seen of the top's end -/
noncomputable def view (p : Program) (drop : List Nat) : Program := { p with main := { p.main with body := (p.main.body.zipIdx.filter fun x => !drop.contains x.2).map (·.1) } }
noncomputable def Kof (n : Nat) (s : Shared) : Frag := (List.range n).filterMap fun a => (s.heap.get? a).map fun o => (a, o)
noncomputable def parOf : Stmt → Arguments
  | .FunctionDef _ a _ _ _ _ _ _ _ _ => a
  | _ => default
noncomputable def nameOf : Stmt → Str
  | .FunctionDef n _ _ _ _ _ _ _ _ _ => n
  | _ => ""
noncomputable def posOf : Stmt → Pos
  | .FunctionDef _ _ _ _ _ _ _ _ _ p => p
  | _ => default
noncomputable def recOf (st : Stmt) : DefRec := { name := nameOf st, params := parOf st, body := bodyOf st, scope := scopeOf st, pos := posOf st }
theorem kof_in (n : Nat) (s : Shared) : (Kof n s).In s.heap := by
  intro a o h
  have key : ∀ l : List Addr, (l.filterMap fun a => (s.heap.get? a).map fun o => (a, o)).lookup a = some o → s.heap.get? a = some o := by
    intro l
    induction l with
    | nil => intro h; cases h
    | cons b l ih =>
      intro h
      rw [List.filterMap_cons] at h
      cases q : s.heap.get? b with
      | none => rw [q] at h; exact ih h
      | some x =>
        rw [q] at h
        have h : ((b, x) :: (l.filterMap fun a => (s.heap.get? a).map fun o => (a, o))).lookup a = some o := h
        rw [List.lookup_cons] at h
        split at h
        · rename_i e
          rw [beq_iff_eq.mp e, q]; exact h
        · exact ih h
  exact key _ h
noncomputable def four (k : Nat) (a b c d : Value) : List Value := [a, b, c, d].take k
noncomputable def obF (K : Frag) (a : Addr) (k : Nat) : Bool × FuncBody × Scope × Addr × Addr × List (Str × Addr) × Bool × (Value → Value → Value → Value → Sem (List (Str × Value))) :=
  (isFn K a, (fdOf K a).body, (fdOf K a).scope, (fdOf K a).globals, (fdOf K a).builtins, (fdOf K a).closure, codeB K (fdOf K a), fun u v x y => bindArgs (fdOf K a) ⟨four k u v x y, []⟩)
noncomputable def exF (st : Stmt) (names : List Str) : Bool × FuncBody × Scope × Addr × Addr × List (Str × Addr) × Bool × (Value → Value → Value → Value → Sem (List (Str × Value))) :=
  (true, .stmts (bodyOf st), scopeOf st, mainGlobals, builtinsNs, [], true, fun u v x y => pure (names.zip (four names.length u v x y)))
theorem four_of (us : List Value) (h : us.length ≤ 4) : ∃ u v x y, four us.length u v x y = us := by
  match us, h with
  | [], _ => exact ⟨.none, .none, .none, .none, rfl⟩
  | [a], _ => exact ⟨a, .none, .none, .none, rfl⟩
  | [a, b], _ => exact ⟨a, b, .none, .none, rfl⟩
  | [a, b, c], _ => exact ⟨a, b, c, .none, rfl⟩
  | [a, b, c, d], _ => exact ⟨a, b, c, d, rfl⟩
  | _ :: _ :: _ :: _ :: _ :: _, h => simp at h
theorem funAt_ob {X : Cx} {K : Frag} (kn : Kn X K) {a : Addr} {st : Stmt} {names : List Str} (h : obF K a names.length = exF st names) (hl : names.length ≤ 4) : FunAt X a (fdOf K a) (scopeOf st) (bodyOf st) names := by
  obtain ⟨h1, h⟩ := Prod.mk.inj h
  obtain ⟨h2, h⟩ := Prod.mk.inj h
  obtain ⟨h3, h⟩ := Prod.mk.inj h
  obtain ⟨h4, h⟩ := Prod.mk.inj h
  obtain ⟨h5, h⟩ := Prod.mk.inj h
  obtain ⟨h6, h⟩ := Prod.mk.inj h
  obtain ⟨h7, h⟩ := Prod.mk.inj h
  refine funAt_of kn h1 h2 h3 h4 h5 h6 (fun us hu => ?_) h7
  obtain ⟨u, v, x, y, e⟩ := four_of us (by omega)
  rw [hu] at e
  have := congrFun (congrFun (congrFun (congrFun h u) v) x) y
  rw [e] at this
  exact this
end Mine
open PySem PySem.W PyProof.Rows
set_option maxRecDepth 100000
namespace Mine
theorem rvs_ints {W : Wd} : ∀ {vs : List Value} {ns : List Int}, IntsAre vs ns → RVs W (ns.map D.int) vs
  | _, _, .nil => .nil
  | _, _, .cons i t r => .cons (.int i t) (rvs_ints r)
theorem len_of {n : Nat} {l : List Int} (h : ¬ ((n : Nat) : Int) < (l.length : Int)) : l.length ≤ n := by omega
end Mine
open PySem PySem.W PyProof.Rows
set_option maxRecDepth 100000
namespace Mine
noncomputable def b_S_IFMT : XS := (xSeq (xRet (xOp2 (fInt iAnd) (xVar 0) (xLit (.int 61440)))) xSkip)
noncomputable def G_S_IFMT : List D → Hp → Option (D × Hp) := xFun (b_S_IFMT) 1 1
noncomputable def b_filemode : XS := (xSeq (xAssign 1 (xNew [])) (xSeq (xFor2 2 3 (xEnum (xLit tableD)) (xSeq (xFor2 4 5 (xPairs (xVar 3)) (xSeq (xBr (xTest (fInt iEq) (xVar 2) (xLit (.int 0))) (xSeq (xBr (xTest (fInt iEq) (xCall G_S_IFMT [(xVar 0)]) (xVar 4)) (xSeq (xDo (xMeth isOwnL gAppend (xVar 1) [(xVar 5)])) (xSeq xBrk xSkip)) xSkip) xSkip) (xSeq (xBr (xTest (fInt iEq) (xOp2 (fInt iAnd) (xVar 0) (xVar 4)) (xVar 4)) (xSeq (xDo (xMeth isOwnL gAppend (xVar 1) [(xVar 5)])) (xSeq xBrk xSkip)) xSkip) xSkip)) xSkip) (xSeq (xBr (xTest (fInt iEq) (xVar 2) (xLit (.int 0))) (xSeq (xDo (xMeth isOwnL gAppend (xVar 1) [(xLit (.str "?"))])) xSkip) (xSeq (xDo (xMeth isOwnL gAppend (xVar 1) [(xLit (.str "-"))])) xSkip)) xSkip)) xSkip) xSkip) (xSeq (xRet (xMeth isStrD gJoin (xLit (.str "")) [(xVar 1)])) xSkip)))
noncomputable def G_filemode : List D → Hp → Option (D × Hp) := xFun (b_filemode) 1 6
noncomputable def b_init (C : Addr) : XS := (xSeq (xSetA C lexNs "lineno" (xVar 0) (xLit (.int 1))) (xSeq (xSetA C lexNs "instream" (xVar 0) (xVar 1)) (xSeq (xSetA C lexNs "whitespace" (xVar 0) (xLit (.str "\n\t\r "))) (xSeq (xSetA C lexNs "pushback" (xVar 0) (xNew [])) xSkip))))
noncomputable def G_init (C : Addr) : List D → Hp → Option (D × Hp) := xFun (b_init C) 2 2
noncomputable def b_read_char (C : Addr) : XS := (xSeq (xAssign 1 (xRead C lexNs "read" (xAttr C lexNs "instream" (xVar 0)))) (xSeq (xBr (xTest fEq (xVar 1) (xLit (.str "\n"))) (xSeq (xAugA C lexNs "lineno" (fInt iAdd) (xVar 0) (xLit (.int 1))) xSkip) xSkip) (xSeq (xRet (xVar 1)) xSkip)))
noncomputable def G_read_char (C : Addr) : List D → Hp → Option (D × Hp) := xFun (b_read_char C) 1 2
noncomputable def b_get_token (C : Addr) : XS := (xSeq (xBr (xTru tLst (xAttr C lexNs "pushback" (xVar 0))) (xSeq (xRet (xMeth isOwnL gPop (xAttr C lexNs "pushback" (xVar 0)) [(xLit (.int 0))])) xSkip) xSkip) (xSeq (xAssign 1 (xLit (.str ""))) (xSeq (xAssign 2 (xIter (isInst C lexNs) (xVar 0))) (xSeq (xForC (G_read_char C) 1000 3 (xVar 2) (xSeq (xBr (xTest fIn (xVar 3) (xAttr C lexNs "whitespace" (xVar 0))) (xSeq xCont xSkip) xSkip) (xSeq (xBr (xTest fEq (xVar 3) (xLit (.str "\""))) (xSeq (xForC (G_read_char C) 1000 3 (xVar 2) (xSeq (xBr (xTest fEq (xVar 3) (xLit (.str "\""))) (xSeq (xRet (xVar 1)) xSkip) (xSeq (xBr (xTest fEq (xVar 3) (xLit (.str "\\"))) (xSeq (xAssign 3 (xMeth (isInst C lexNs) (fun o ds H => (G_read_char C) (o :: ds) H) (xVar 0) [])) xSkip) xSkip) xSkip)) (xSeq (xAug 1 fIAddS (xVar 3)) xSkip)) xSkip) xSkip) (xSeq (xBr (xTest fEq (xVar 3) (xLit (.str "\\"))) (xSeq (xAssign 3 (xMeth (isInst C lexNs) (fun o ds H => (G_read_char C) (o :: ds) H) (xVar 0) [])) xSkip) xSkip) (xSeq (xAug 1 fIAddS (xVar 3)) (xSeq (xForC (G_read_char C) 1000 3 (xVar 2) (xSeq (xBr (xTest fIn (xVar 3) (xAttr C lexNs "whitespace" (xVar 0))) (xSeq (xRet (xVar 1)) xSkip) (xSeq (xBr (xTest fEq (xVar 3) (xLit (.str "\\"))) (xSeq (xAssign 3 (xMeth (isInst C lexNs) (fun o ds H => (G_read_char C) (o :: ds) H) (xVar 0) [])) xSkip) xSkip) xSkip)) (xSeq (xAug 1 fIAddS (xVar 3)) xSkip)) xSkip) xSkip)))) xSkip)) xSkip) (xSeq (xRet (xVar 1)) xSkip)))))
noncomputable def G_get_token (C : Addr) : List D → Hp → Option (D × Hp) := xFun (b_get_token C) 1 4
noncomputable def b_push_token (C : Addr) : XS := (xSeq (xDo (xMeth isOwnL gAppend (xAttr C lexNs "pushback" (xVar 0)) [(xVar 1)])) xSkip)
noncomputable def G_push_token (C : Addr) : List D → Hp → Option (D × Hp) := xFun (b_push_token C) 2 2
noncomputable def b_law_row : XS := (xSeq (xAssign 1 (xNew [(xOp2 fItem (xLit (.str "?pc?d?b?-?l?s???")) (xOp2 (fInt iMod) (xOp2 (fInt iDiv) (xVar 0) (xLit (.int 4096))) (xLit (.int 16))))])) (xSeq (xFor 2 (xRange1 (xLit (.int 3))) (xSeq (xAssign 3 (xOp2 (fInt iMod) (xOp2 (fInt iDiv) (xVar 0) (xOp2 (fInt iPow) (xLit (.int 8)) (xOp2 (fInt iSub) (xLit (.int 2)) (xVar 2)))) (xLit (.int 8)))) (xSeq (xAssign 4 (xOp2 (fInt iMod) (xOp2 (fInt iDiv) (xVar 0) (xOp2 (fInt iPow) (xLit (.int 2)) (xOp2 (fInt iSub) (xLit (.int 11)) (xVar 2)))) (xLit (.int 2)))) (xSeq (xDo (xMeth isOwnL gAppend (xVar 1) [(xOp2 fItem (xLit (.str "-r")) (xOp2 (fInt iDiv) (xVar 3) (xLit (.int 4))))])) (xSeq (xDo (xMeth isOwnL gAppend (xVar 1) [(xOp2 fItem (xLit (.str "-w")) (xOp2 (fInt iMod) (xOp2 (fInt iDiv) (xVar 3) (xLit (.int 2))) (xLit (.int 2))))])) (xSeq (xDo (xMeth isOwnL gAppend (xVar 1) [(xOp2 fItem (xOp2 fItem (xLst [(xLit (.str "-xSs")), (xLit (.str "-xSs")), (xLit (.str "-xTt"))]) (xVar 2)) (xOp2 fAdd (xOp2 (fInt iMod) (xVar 3) (xLit (.int 2))) (xOp2 (fInt iMul) (xLit (.int 2)) (xVar 4))))])) xSkip))))) xSkip) (xSeq (xRet (xMeth isStrD gJoin (xLit (.str "")) [(xVar 1)])) xSkip)))
noncomputable def G_law_row : List D → Hp → Option (D × Hp) := xFun (b_law_row) 1 5
end Mine
open PySem PySem.W PyProof.Rows
set_option maxRecDepth 100000
namespace Mine
noncomputable def b_law_tape (C : Addr) : XS := (xSeq (xAssign 2 (xCall gList [(xVar 0)])) (xSeq (xAssign 1 (xCall (gNew C lexNs (G_init C)) [(xVar 2)])) (xLam C lexNs "read" 1 2 (xSeq (xRet (xVar 1)) xSkip))))
noncomputable def G_law_tape (C : Addr) : List D → Hp → Option (D × Hp) := xFun (b_law_tape C) 1 3
noncomputable def b_law_pieces : XS := (xSeq (xAssign 2 (xNew [])) (xSeq (xFor 3 (xRange1 (xLit (.int 4))) (xSeq (xAssign 4 (xOp2 (fInt iEq) (xOp2 (fInt iMod) (xOp2 (fInt iDiv) (xOp2 fItem (xVar 1) (xVar 3)) (xLit (.int 16))) (xLit (.int 2))) (xLit (.int 1)))) (xSeq (xAssign 5 (xOp2 (fInt iMod) (xOp2 (fInt iDiv) (xOp2 fItem (xVar 1) (xVar 3)) (xLit (.int 4))) (xLit (.int 4)))) (xSeq (xAssign 6 (xNew [(xOp2 fItem (xLst [(xLit (.str "")), (xLit (.str " ")), (xLit (.str "\n")), (xLit (.str "\r\t"))]) (xOp2 (fInt iMod) (xOp2 fItem (xVar 1) (xVar 3)) (xLit (.int 4)))), (xIf (xTru tBool (xVar 4)) (xLit (.str "\"")) (xLit (.str "")))])) (xSeq (xFor 7 (xRange1 (xLit (.int 12))) (xSeq (xAssign 8 (xOp2 fItem (xOp2 fItem (xVar 0) (xVar 3)) (xVar 7))) (xSeq (xAssign 9 (xOrV (xOp2 fIn (xVar 8) (xIf (xTru tBool (xVar 4)) (xLit (.str "\"\\")) (xLit (.str "\\ \n\t\r")))) (xAndV (xOp2 fEq (xVar 8) (xLit (.str "\""))) (xOp2 (fInt iEq) (xVar 7) (xLit (.int 0)))))) (xSeq (xBr (xIf (xTru tBool (xVar 9)) xTT (xTest (fInt iEq) (xOp2 (fInt iMod) (xOp2 (fInt iDiv) (xOp2 fItem (xVar 1) (xVar 3)) (xOp2 (fInt iPow) (xLit (.int 2)) (xOp2 fAdd (xVar 7) (xLit (.int 8))))) (xLit (.int 2))) (xLit (.int 1)))) (xSeq (xDo (xMeth isOwnL gAppend (xVar 6) [(xLit (.str "\\"))])) xSkip) xSkip) (xSeq (xDo (xMeth isOwnL gAppend (xVar 6) [(xVar 8)])) xSkip)))) xSkip) (xSeq (xBr (xIf (xTest (fInt iEq) (xVar 3) (xLit (.int 3))) (xTest (fInt iLt) (xVar 5) (xLit (.int 2))) xFF) (xSeq (xDo (xMeth isOwnL gAppend (xVar 6) [(xOp2 fItem (xLst [(xLit (.str "")), (xLit (.str "\\"))]) (xVar 5))])) xSkip) (xSeq (xDo (xMeth isOwnL gAppend (xVar 6) [(xIf (xTru tBool (xVar 4)) (xLit (.str "\"")) (xOp2 fItem (xLit (.str " \n\t\r")) (xVar 5)))])) xSkip)) (xSeq (xDo (xMeth isOwnL gAppend (xVar 2) [(xMeth isStrD gJoin (xLit (.str "")) [(xVar 6)])])) xSkip)))))) xSkip) (xSeq (xBr (xTest (fInt iLt) (xOp2 (fInt iMod) (xOp2 (fInt iDiv) (xOp2 fItem (xVar 1) (xLit (.int 3))) (xLit (.int 4))) (xLit (.int 4))) (xLit (.int 2))) (xSeq (xRet (xOp2 fAdd (xVar 2) (xLst [(xLit (.str "")), (xLit (.str ""))]))) xSkip) xSkip) (xSeq (xRet (xOp2 fAdd (xVar 2) (xOp2 fItem (xLst [(xLst [(xLit (.str "")), (xLit (.str ""))]), (xLst [(xLit (.str " \r\n")), (xLit (.str ""))]), (xLst [(xLit (.str "\"\"")), (xLit (.str ""))]), (xLst [(xLit (.str "\t\"\"")), (xLit (.str "\n "))])]) (xOp2 (fInt iMod) (xOp2 (fInt iDiv) (xOp2 fItem (xVar 1) (xLit (.int 3))) (xLit (.int 32))) (xLit (.int 4)))))) xSkip))))
noncomputable def G_law_pieces : List D → Hp → Option (D × Hp) := xFun (b_law_pieces) 2 10
noncomputable def b_law_desks (C : Addr) : XS := (xSeq (xAssign 3 xDict) (xSeq (xFor 4 (xRange1 (xLit (.int 4))) (xSeq (xSetI (xVar 3) (xOp2 fItem (xVar 1) (xVar 4)) (xOp2 fItem (xVar 2) (xVar 4))) xSkip) xSkip) (xSeq (xAssign 5 (xLst [(xVar 0), (xCall (gNew C lexNs (G_init C)) [(xCall (G_law_tape C) [(xLit (.str ""))])]), (xCall (gNew C lexNs (G_init C)) [(xCall (G_law_tape C) [(xLit (.str ""))])])])) (xSeq (xAssign 6 (xNew [(xLit (.str "")), (xLit (.str "")), (xLit (.str ""))])) (xSeq (xAssign 7 (xLst [(xNew []), (xNew []), (xNew [])])) (xSeq (xAssign 8 (xNew [])) (xSeq (xFor 9 (xRange1 (xLit (.int 26))) (xSeq (xFor 10 (xRange1 (xLit (.int 3))) (xSeq (xAssign 11 (xOp2 fItem (xVar 6) (xVar 10))) (xSeq (xBr (xIf (xTest fNe (xVar 11) (xLit (.str ""))) (xTest fNotIn (xVar 11) (xVar 3)) xFF) (xSeq (xRet (xSeal (xTup [(xVar 7), (xVar 8)]))) xSkip) xSkip) (xSeq (xBr (xTest fNe (xComp [] 15 (xIt (xSlice (xVar 11) (some (xOp2 fAdd (xOp2 (fInt iMul) (xLit (.int 3)) (xVar 10)) (xLit (.int 3)))) (some (xOp2 fAdd (xOp2 (fInt iMul) (xLit (.int 3)) (xVar 10)) (xLit (.int 6)))) none)) (some (xTest fIn (xVar 15) (xLit (.str "rwxst")))) [] (xVar 15)) (xLst [])) (xSeq (xAssign 12 (xOp2 (fInt iMod) (xOp2 (fInt iDiv) (xOp2 fItem (xVar 3) (xVar 11)) (xOp2 (fInt iPow) (xLit (.int 8)) (xOp2 (fInt iSub) (xLit (.int 2)) (xVar 10)))) (xLit (.int 8)))) (xSeq (xAssign 13 (xIf (xTest (fInt iEq) (xOp2 (fInt iMod) (xVar 12) (xLit (.int 2))) (xLit (.int 1))) (xLit (.int 1)) (xIf (xTest (fInt iEq) (xOp2 (fInt iMod) (xOp2 (fInt iDiv) (xVar 12) (xLit (.int 2))) (xLit (.int 2))) (xLit (.int 1))) (xLit (.int 2)) (xLit (.int 4))))) (xSeq (xAssign 14 (xOp2 (fInt iSub) (xOp2 fItem (xVar 3) (xVar 11)) (xOp2 (fInt iMul) (xVar 13) (xOp2 (fInt iPow) (xLit (.int 8)) (xOp2 (fInt iSub) (xLit (.int 2)) (xVar 10)))))) (xSeq (xSetI (xVar 6) (xVar 10) (xOp2 fAdd (xSlice (xVar 11) none (some (xLit (.int 2))) none) (xCall G_filemode [(xVar 14)]))) (xSeq (xSetI (xVar 3) (xOp2 fItem (xVar 6) (xVar 10)) (xVar 14)) xSkip))))) (xSeq (xBr (xTest fNe (xVar 11) (xLit (.str ""))) (xSeq (xDo (xMeth isOwnL gAppend (xOp2 fItem (xVar 7) (xVar 10)) [(xTup [(xVar 9), (xVar 11)])])) xSkip) xSkip) (xSeq (xBr (xIf (xTest fNe (xVar 11) (xLit (.str ""))) (xTest (fInt iLt) (xVar 10) (xLit (.int 2))) xFF) (xSeq (xDo (xMeth (isInst C lexNs) (fun o ds H => (G_push_token C) (o :: ds) H) (xOp2 fItem (xVar 5) (xOp2 fAdd (xVar 10) (xLit (.int 1)))) [(xVar 11)])) xSkip) xSkip) (xSeq (xSetI (xVar 6) (xVar 10) (xMeth (isInst C lexNs) (fun o ds H => (G_get_token C) (o :: ds) H) (xOp2 fItem (xVar 5) (xVar 10)) [])) xSkip)))) (xSeq (xBr (xTest (fInt iEq) (xVar 10) (xLit (.int 0))) (xSeq (xDo (xMeth (isInst C lexNs) (fun o ds H => (G_push_token C) (o :: ds) H) (xVar 0) [(xMeth (isInst C lexNs) (fun o ds H => (G_get_token C) (o :: ds) H) (xVar 0) [])])) xSkip) xSkip) xSkip)))) xSkip) (xSeq (xDo (xMeth isOwnL gAppend (xVar 8) [(xTup [(xCall gLen [(xAttr C lexNs "instream" (xAttr C lexNs "instream" (xVar 0)))]), (xAttr C lexNs "lineno" (xVar 0)), (xCall gList [(xAttr C lexNs "pushback" (xVar 0))])])])) (xSeq (xBr (xTest (fInt iEq) (xCall gLen [(xOp2 fItem (xVar 7) (xLit (.int 2)))]) (xLit (.int 4))) (xSeq (xRet (xSeal (xTup [(xVar 7), (xVar 8)]))) xSkip) xSkip) xSkip))) xSkip) (xSeq (xRet (xSeal (xTup [(xVar 7), (xVar 8)]))) xSkip))))))))
noncomputable def G_law_desks (C : Addr) : List D → Hp → Option (D × Hp) := xFun (b_law_desks C) 3 16
noncomputable def b_law_greatest : XS := (xSeq (xAssign 3 (xLst [(xLst [(xLit (.int 0))])])) (xSeq (xFor 4 (xRange1 (xVar 2)) (xSeq (xAssign 3 (xComp [1] 6 (xIt (xVar 3)) none [⟨8, (xRange2 (xOp2 fItem (xVar 6) (xLit (.int (-1)))) (xOp2 fAdd (xVar 1) (xLit (.int 1)))), none⟩] (xOp2 fAdd (xVar 6) (xLst [(xVar 8)])))) xSkip) xSkip) (xSeq (xAssign 5 (xNew [])) (xSeq (xFor 6 (xIt (xVar 3)) (xSeq (xAssign 7 (xOp2 fAdd (xSlice (xVar 6) (some (xLit (.int 1))) none none) (xLst [(xVar 1)]))) (xSeq (xDo (xMeth isOwnL gAppend (xVar 5) [(xCall gSum [(xComp [0, 6, 7] 4 (xRange1 (xOp2 fAdd (xVar 2) (xLit (.int 1)))) none [⟨9, (xRange2 (xOp2 fItem (xVar 6) (xVar 4)) (xOp2 fAdd (xOp2 fItem (xVar 7) (xVar 4)) (xLit (.int 1)))), none⟩] (xOp2 fItem (xOp2 fItem (xVar 0) (xVar 9)) (xVar 4)))])])) xSkip)) xSkip) (xSeq (xRet (xCall gMax [(xVar 5)])) xSkip)))))
noncomputable def G_law_greatest : List D → Hp → Option (D × Hp) := xFun (b_law_greatest) 3 10
noncomputable def b_law (C : Addr) : XS := (xSeq (xAssign 1 (xComp [0] 16 (xRange1 (xLit (.int 4))) none [] (xCall gSum [(xSlice (xVar 0) (some (xVar 16)) none (some (xLit (.int 4))))]))) (xSeq (xAssign 2 (xComp [1] 16 (xRange1 (xLit (.int 4))) none [] (xOp2 fAdd (xOp2 fItem (xLst [(xLit (.int 18108)), (xLit (.int 14350)), (xLit (.int 35432)), (xLit (.int 51079))]) (xVar 16)) (xOp2 (fInt iMod) (xOp2 fItem (xVar 1) (xVar 16)) (xLit (.int 524288)))))) (xSeq (xAssign 3 (xComp [1] 16 (xRange1 (xLit (.int 4))) none [] (xOp2 (fInt iMod) (xOp2 fAdd (xOp2 fItem (xLst [(xLit (.int 8625594372)), (xLit (.int 9163505938)), (xLit (.int 9228517391)), (xLit (.int 24707072017))]) (xVar 16)) (xOp2 (fInt iDiv) (xOp2 fItem (xVar 1) (xVar 16)) (xLit (.int 524288)))) (xOp2 (fInt iPow) (xLit (.int 2)) (xLit (.int 44)))))) (xSeq (xAssign 4 (xComp [] 17 (xIt (xVar 2)) none [] (xCall G_filemode [(xVar 17)]))) (xSeq (xBr (xTest fNe (xVar 4) (xComp [] 17 (xIt (xVar 2)) none [] (xCall G_law_row [(xVar 17)]))) (xSeq (xRet (xLit (.bool false))) xSkip) xSkip) (xSeq (xAssign 5 (xComp [] 18 (xIt (xVar 3)) none [] (xOp2 fAdd (xCall gChr [(xOp2 (fInt iMod) (xOp2 (fInt iDiv) (xVar 18) (xOp2 (fInt iPow) (xLit (.int 2)) (xLit (.int 20)))) (xLit (.int 256)))]) (xCall gChr [(xOp2 (fInt iMod) (xOp2 (fInt iDiv) (xVar 18) (xOp2 (fInt iPow) (xLit (.int 2)) (xLit (.int 28)))) (xLit (.int 55296)))])))) (xSeq (xAssign 6 (xComp [4, 5] 16 (xRange1 (xLit (.int 4))) none [] (xOp2 fAdd (xOp2 fItem (xVar 5) (xVar 16)) (xOp2 fItem (xVar 4) (xVar 16))))) (xSeq (xAssign 7 (xCall G_law_pieces [(xVar 6), (xVar 3)])) (xSeq (xAssign 8 (xCall (G_law_desks C) [(xCall (gNew C lexNs (G_init C)) [(xCall (G_law_tape C) [(xMeth isStrD gJoin (xLit (.str "")) [(xVar 7)])])]), (xVar 6), (xVar 2)])) (xSeq (xAssign 9 (xComp [] 17 (xIt (xVar 2)) none [] (xComp [17] 19 (xRange1 (xLit (.int 3))) none [] (xOp2 fItem (xLst [(xLit (.int 0)), (xLit (.int 1)), (xLit (.int 1)), (xLit (.int 2)), (xLit (.int 1)), (xLit (.int 2)), (xLit (.int 2)), (xLit (.int 3))]) (xOp2 (fInt iMod) (xOp2 (fInt iDiv) (xVar 17) (xOp2 (fInt iPow) (xLit (.int 8)) (xOp2 (fInt iSub) (xLit (.int 2)) (xVar 19)))) (xLit (.int 8))))))) (xSeq (xAssign 10 (xComp [2] 19 (xRange1 (xLit (.int 3))) none [] (xComp [19] 17 (xIt (xVar 2)) none [] (xOp2 (fInt iSub) (xVar 17) (xOp2 (fInt iMul) (xOp2 (fInt iDiv) (xOp2 (fInt iMod) (xVar 17) (xLit (.int 512))) (xOp2 (fInt iPow) (xLit (.int 8)) (xOp2 (fInt iSub) (xLit (.int 2)) (xVar 19)))) (xOp2 (fInt iPow) (xLit (.int 8)) (xOp2 (fInt iSub) (xLit (.int 2)) (xVar 19)))))))) (xSeq (xAssign 11 (xComp [5, 9, 10] 19 (xRange1 (xLit (.int 3))) none [] (xComp [5, 9, 10, 19] 16 (xRange1 (xLit (.int 4))) none [] (xTup [(xOp2 fAdd (xOp2 fAdd (xOp2 fAdd (xVar 16) (xVar 19)) (xLit (.int 1))) (xCall G_law_greatest [(xVar 9), (xVar 16), (xVar 19)])), (xOp2 fAdd (xOp2 fItem (xVar 5) (xVar 16)) (xCall G_law_row [(xOp2 fItem (xOp2 fItem (xVar 10) (xVar 19)) (xVar 16))]))])))) (xSeq (xAssign 12 (xNew [])) (xSeq (xFor 13 (xRange1 (xOp2 fAdd (xOp2 fItem (xOp2 fItem (xOp2 fItem (xVar 11) (xLit (.int 2))) (xLit (.int 3))) (xLit (.int 0))) (xLit (.int 1)))) (xSeq (xAssign 14 (xCall gLen [(xComp [13] 20 (xIt (xOp2 fItem (xVar 11) (xLit (.int 0)))) (some (xTest (fInt iLe) (xOp2 fItem (xVar 20) (xLit (.int 0))) (xVar 13))) [] (xVar 20))])) (xSeq (xAssign 15 (xCall gLen [(xMeth isStrD gJoin (xLit (.str "")) [(xSlice (xVar 7) (some (xOp2 fAdd (xVar 14) (xLit (.int 2)))) none none)])])) (xSeq (xDo (xMeth isOwnL gAppend (xVar 12) [(xTup [(xVar 15), (xOp2 fAdd (xLit (.int 1)) (xMeth isStrD gCountS (xMeth isStrD gJoin (xLit (.str "")) [(xSlice (xVar 7) none (some (xOp2 fAdd (xVar 14) (xLit (.int 2)))) none)]) [(xLit (.str "\n"))])), (xSlice (xOp2 fAdd (xVar 6) (xLst [(xLit (.str "")), (xLit (.str ""))])) (some (xOp2 fAdd (xVar 14) (xLit (.int 1)))) (some (xOp2 fAdd (xVar 14) (xLit (.int 2)))) none)])])) xSkip))) xSkip) (xSeq (xRet (xOp2 fEq (xVar 8) (xTup [(xVar 11), (xVar 12)]))) xSkip)))))))))))))))
noncomputable def G_law (C : Addr) : List D → Hp → Option (D × Hp) := xFun (b_law C) 1 21
end Mine
open PySem PySem.W PyProof.Rows
set_option maxRecDepth 100000
namespace Mine
set_option maxHeartbeats 2000000 in
theorem sb_init {X : Cx} {n : Nat} (T : TopOk X) {C : Addr} {K : Frag} (ok : ClsOk X K C lexNs) : SimSs X n (scopeOf (methAt PySem.Challenge.pw_ph0077_01 1 0)) ["self", "fp"] (b_init C) (bodyOf (methAt PySem.Challenge.pw_ph0077_01 1 0)) := by
  have hS : Slots ["self", "fp"] := slots_of (by decide +kernel)
  unfold b_init
  dsimp only [topAt, methAt, bodyOf, scopeOf, PySem.Challenge.pw_ph0077_01, List.getD_cons_succ, List.getD_cons_zero]
  exact (sims_cons (sim_setattr ok (sim_var 0 rfl) sim_int) (sims_cons (sim_setattr ok (sim_var 0 rfl) (sim_var 1 rfl)) (sims_cons (sim_setattr ok (sim_var 0 rfl) sim_str) (sims_cons (sim_setattr ok (sim_var 0 rfl) (sim_new SimAll.nil)) sims_nil))))
set_option maxHeartbeats 2000000 in
theorem sb_read_char {X : Cx} {n : Nat} (T : TopOk X) {C : Addr} {K : Frag} (ok : ClsOk X K C lexNs) {cn : Str} (li : LamIs X cn) : SimSs X (n + 1) (scopeOf (methAt PySem.Challenge.pw_ph0077_01 1 1)) ["self", "ch"] (b_read_char C) (bodyOf (methAt PySem.Challenge.pw_ph0077_01 1 1)) := by
  have hS : Slots ["self", "ch"] := slots_of (by decide +kernel)
  unfold b_read_char
  dsimp only [topAt, methAt, bodyOf, scopeOf, PySem.Challenge.pw_ph0077_01, List.getD_cons_succ, List.getD_cons_zero]
  exact (sims_cons (sim_assign hS 1 rfl (asg_of (by decide +kernel)) (sim_read T li ok (sim_attr ok (sim_var 0 rfl)) (by decide +kernel))) (sims_cons (sim_branch (simB_cmp (sim_var 1 rfl) sim_str pr_eq) (sims_cons (sim_augattr ok (sim_var 0 rfl) sim_int pr_iadd) sims_nil) sims_nil) (sims_cons (sim_ret (sim_var 1 rfl)) sims_nil)))
set_option maxHeartbeats 2000000 in
theorem sb_get_token {X : Cx} {n : Nat} (T : TopOk X) {C : Addr} {K : Frag} (ok : ClsOk X K C lexNs) (h_read_char : Mt X (n + 1) "_read_char" (isInst C lexNs) (fun o ds H => (G_read_char C) (o :: ds) H)) {orc : Obj} {frc : FuncData} (rc : RcOk X n (G_read_char C) orc frc) (b_iter : Blt X "iter" (.builtin "iter")) (it : IterOk X K C) : SimSs X (n + 1) (scopeOf (methAt PySem.Challenge.pw_ph0077_01 1 2)) ["self", "token", "fiter", "ch"] (b_get_token C) (bodyOf (methAt PySem.Challenge.pw_ph0077_01 1 2)) := by
  have hS : Slots ["self", "token", "fiter", "ch"] := slots_of (by decide +kernel)
  unfold b_get_token
  dsimp only [topAt, methAt, bodyOf, scopeOf, PySem.Challenge.pw_ph0077_01, List.getD_cons_succ, List.getD_cons_zero]
  exact (sims_cons (sim_branch (simB_tru (sim_attr ok (sim_var 0 rfl)) pr_truthy) (sims_cons (sim_ret (sim_meth (sim_attr ok (sim_var 0 rfl)) (SimAll.cons sim_int (fun _ => rfl) SimAll.nil) mt_pop)) sims_nil) sims_nil) (sims_cons (sim_assign hS 1 rfl (asg_of (by decide +kernel)) sim_str) (sims_cons (sim_assign hS 2 rfl (asg_of (by decide +kernel)) (sim_iter ok it.f it.t it.g it.k it.c it.n (sim_built T (isKind_of (by decide +kernel)) b_iter.g b_iter.b) (sim_var 0 rfl))) (sims_cons (sim_forC rc.h rc.o rc.p rc.f hS 3 1000 rfl (asg_of (by decide +kernel)) (sim_var 2 rfl) (sims_cons (sim_branch (simB_cmp (sim_var 3 rfl) (sim_attr ok (sim_var 0 rfl)) (pr_in T)) (sims_cons sim_continue sims_nil) sims_nil) (sims_cons (sim_branch (simB_cmp (sim_var 3 rfl) sim_str pr_eq) (sims_cons (sim_forC rc.h rc.o rc.p rc.f hS 3 1000 rfl (asg_of (by decide +kernel)) (sim_var 2 rfl) (sims_cons (sim_branch (simB_cmp (sim_var 3 rfl) sim_str pr_eq) (sims_cons (sim_ret (sim_var 1 rfl)) sims_nil) (sims_cons (sim_branch (simB_cmp (sim_var 3 rfl) sim_str pr_eq) (sims_cons (sim_assign hS 3 rfl (asg_of (by decide +kernel)) (sim_meth (sim_var 0 rfl) SimAll.nil h_read_char)) sims_nil) sims_nil) sims_nil)) (sims_cons (sim_aug hS 1 rfl (asg_of (by decide +kernel)) (sim_var 3 rfl) pr_iaddS') sims_nil)) sims_nil) sims_nil) (sims_cons (sim_branch (simB_cmp (sim_var 3 rfl) sim_str pr_eq) (sims_cons (sim_assign hS 3 rfl (asg_of (by decide +kernel)) (sim_meth (sim_var 0 rfl) SimAll.nil h_read_char)) sims_nil) sims_nil) (sims_cons (sim_aug hS 1 rfl (asg_of (by decide +kernel)) (sim_var 3 rfl) pr_iaddS') (sims_cons (sim_forC rc.h rc.o rc.p rc.f hS 3 1000 rfl (asg_of (by decide +kernel)) (sim_var 2 rfl) (sims_cons (sim_branch (simB_cmp (sim_var 3 rfl) (sim_attr ok (sim_var 0 rfl)) (pr_in T)) (sims_cons (sim_ret (sim_var 1 rfl)) sims_nil) (sims_cons (sim_branch (simB_cmp (sim_var 3 rfl) sim_str pr_eq) (sims_cons (sim_assign hS 3 rfl (asg_of (by decide +kernel)) (sim_meth (sim_var 0 rfl) SimAll.nil h_read_char)) sims_nil) sims_nil) sims_nil)) (sims_cons (sim_aug hS 1 rfl (asg_of (by decide +kernel)) (sim_var 3 rfl) pr_iaddS') sims_nil)) sims_nil) sims_nil)))) sims_nil)) sims_nil) (sims_cons (sim_ret (sim_var 1 rfl)) sims_nil)))))
set_option maxHeartbeats 2000000 in
theorem sb_push_token {X : Cx} {n : Nat} (T : TopOk X) {C : Addr} {K : Frag} (ok : ClsOk X K C lexNs) : SimSs X n (scopeOf (methAt PySem.Challenge.pw_ph0077_01 1 3)) ["self", "token"] (b_push_token C) (bodyOf (methAt PySem.Challenge.pw_ph0077_01 1 3)) := by
  have hS : Slots ["self", "token"] := slots_of (by decide +kernel)
  unfold b_push_token
  dsimp only [topAt, methAt, bodyOf, scopeOf, PySem.Challenge.pw_ph0077_01, List.getD_cons_succ, List.getD_cons_zero]
  exact (sims_cons (sim_do (sim_meth (sim_attr ok (sim_var 0 rfl)) (SimAll.cons (sim_var 1 rfl) (fun _ => rfl) SimAll.nil) mt_append)) sims_nil)
set_option maxHeartbeats 2000000 in
theorem sb_S_IFMT {X : Cx} {n : Nat} (T : TopOk X) : SimSs X n (scopeOf (topAt PySem.Challenge.pw_ph0077_01 3)) ["mode"] (b_S_IFMT) (bodyOf (topAt PySem.Challenge.pw_ph0077_01 3)) := by
  have hS : Slots ["mode"] := slots_of (by decide +kernel)
  unfold b_S_IFMT
  dsimp only [topAt, methAt, bodyOf, scopeOf, PySem.Challenge.pw_ph0077_01, List.getD_cons_succ, List.getD_cons_zero]
  exact (sims_cons (sim_ret (sim_bin (sim_var 0 rfl) sim_int pr_and)) sims_nil)
set_option maxHeartbeats 2000000 in
theorem sb_filemode {X : Cx} {n : Nat} (T : TopOk X) {a_S_IFMT : Addr} (m_S_IFMT : X.mg "S_IFMT" = some (.ref a_S_IFMT)) (k_S_IFMT : ∀ W, Cal X W (.ref a_S_IFMT)) (c_S_IFMT : Ct X n (.ref a_S_IFMT) G_S_IFMT) (b_enumerate : Blt X "enumerate" (.type "enumerate")) {v_table : Value} (m_table : X.mg "_filemode_table" = some v_table) (r_table : RV ⟨X.Z0, []⟩ tableD v_table) : SimSs X n (scopeOf (topAt PySem.Challenge.pw_ph0077_01 24)) ["mode", "perm", "index", "table", "bit", "char"] (b_filemode) (bodyOf (topAt PySem.Challenge.pw_ph0077_01 24)) := by
  have hS : Slots ["mode", "perm", "index", "table", "bit", "char"] := slots_of (by decide +kernel)
  unfold b_filemode
  dsimp only [topAt, methAt, bodyOf, scopeOf, PySem.Challenge.pw_ph0077_01, List.getD_cons_succ, List.getD_cons_zero]
  exact (sims_cons (sim_assign hS 1 rfl (asg_of (by decide +kernel)) (sim_new SimAll.nil)) (sims_cons (sim_for2 hS 2 3 rfl rfl (asg_of (by decide +kernel)) (asg_of (by decide +kernel)) (simI2_enum (sim_built T (isKind_of (by decide +kernel)) b_enumerate.g b_enumerate.b) (sim_globD T (isKind_of (by decide +kernel)) m_table r_table) (fun _ => rfl)) (sims_cons (sim_for2 hS 4 5 rfl rfl (asg_of (by decide +kernel)) (asg_of (by decide +kernel)) (simI2_pairs (sim_var 3 rfl)) (sims_cons (sim_branch (simB_cmp (sim_var 2 rfl) sim_int pr_eqI) (sims_cons (sim_branch (simB_cmp (sim_callG (sim_glob T (isKind_of (by decide +kernel)) m_S_IFMT) (SimAll.cons (sim_var 0 rfl) (fun _ => rfl) SimAll.nil) c_S_IFMT k_S_IFMT) (sim_var 4 rfl) pr_eqI) (sims_cons (sim_do (sim_meth (sim_var 1 rfl) (SimAll.cons (sim_var 5 rfl) (fun _ => rfl) SimAll.nil) mt_append)) (sims_cons sim_break sims_nil)) sims_nil) sims_nil) (sims_cons (sim_branch (simB_cmp (sim_bin (sim_var 0 rfl) (sim_var 4 rfl) pr_and) (sim_var 4 rfl) pr_eqI) (sims_cons (sim_do (sim_meth (sim_var 1 rfl) (SimAll.cons (sim_var 5 rfl) (fun _ => rfl) SimAll.nil) mt_append)) (sims_cons sim_break sims_nil)) sims_nil) sims_nil)) sims_nil) (sims_cons (sim_branch (simB_cmp (sim_var 2 rfl) sim_int pr_eqI) (sims_cons (sim_do (sim_meth (sim_var 1 rfl) (SimAll.cons sim_str (fun _ => rfl) SimAll.nil) mt_append)) sims_nil) (sims_cons (sim_do (sim_meth (sim_var 1 rfl) (SimAll.cons sim_str (fun _ => rfl) SimAll.nil) mt_append)) sims_nil)) sims_nil)) sims_nil) sims_nil) (sims_cons (sim_ret (sim_meth sim_str (SimAll.cons (sim_var 1 rfl) (fun _ => rfl) SimAll.nil) mt_join)) sims_nil)))
set_option maxHeartbeats 2000000 in
theorem sb_law_tape {X : Cx} {n : Nat} (T : TopOk X) {C : Addr} {K : Frag} (b_list : Blt X "list" (.type "list")) (m_netrclex : X.mg "_netrclex" = some (.ref C)) (k_netrclex : ∀ W, Cal X W (.ref C)) (c_netrclex : Ct X n (.ref C) (gNew C lexNs (G_init C))) (ok : ClsOk X K C lexNs) {cc : Addr} (lt : LamTop X cc) (lo : LamOf X (lamE ((bodyOf (topAt PySem.Challenge.pw_ph0077_01 26)).getD 2 (.Pass default)))) {fd : FuncData} (hcode : fd.code = .ref cc) (hqual : fd.qualname ++ ".<locals>." ++ "<lambda>" = X.lq) : SimF X n (scopeOf (topAt PySem.Challenge.pw_ph0077_01 26)) ["text", "tape", "left"] (EnvFd fd) (b_law_tape C) (bodyOf (topAt PySem.Challenge.pw_ph0077_01 26)) := by
  have hS : Slots ["text", "tape", "left"] := slots_of (by decide +kernel)
  have hS' : Slots ["text", "tape"] := slots_of (by decide +kernel)
  unfold b_law_tape
  have hlv := lo.v
  have hdef : ∀ env, defaultsOf X.lpar env = ([], []) := fun env => by rw [lo.par]; rfl
  dsimp only [topAt, methAt, bodyOf, scopeOf, PySem.Challenge.pw_ph0077_01, List.getD_cons_succ, List.getD_cons_zero]
  exact (simf_cons (sim_assign hS 2 rfl (asg_of (by decide +kernel)) (sim_callG (sim_built T (isKind_of (by decide +kernel)) b_list.g b_list.b) (SimAll.cons (sim_var 0 rfl) (fun _ => rfl) SimAll.nil) ct_list (fun _ => Cal.type))) (simf_cons (sim_assign hS 1 rfl (asg_of (by decide +kernel)) (sim_callG (sim_glob T (isKind_of (by decide +kernel)) m_netrclex) (SimAll.cons (sim_var 2 rfl) (fun _ => rfl) SimAll.nil) c_netrclex k_netrclex)) (simf_lam' (names' := ["text", "tape"]) (lam_eq lo rfl) T lt ok (by rw [hlv]; rfl) (by rw [hlv]; decide +kernel) 1 rfl hcode hqual hdef (by rw [hlv]; exact isKind_of (by decide +kernel)) lo.clo (by decide +kernel) (by decide +kernel) (SimSs.toF (sims_cons (sim_ret (sim_var 1 rfl)) sims_nil)))))
set_option maxHeartbeats 2000000 in
theorem sb_law_row {X : Cx} {n : Nat} (T : TopOk X) (b_range : Blt X "range" (.type "range")) : SimSs X n (scopeOf (topAt PySem.Challenge.pw_ph0077_01 27)) ["mode", "signs", "j", "figure", "above"] (b_law_row) (bodyOf (topAt PySem.Challenge.pw_ph0077_01 27)) := by
  have hS : Slots ["mode", "signs", "j", "figure", "above"] := slots_of (by decide +kernel)
  unfold b_law_row
  dsimp only [topAt, methAt, bodyOf, scopeOf, PySem.Challenge.pw_ph0077_01, List.getD_cons_succ, List.getD_cons_zero]
  exact (sims_cons (sim_assign hS 1 rfl (asg_of (by decide +kernel)) (sim_new (SimAll.cons (sim_sub sim_str (sim_bin (sim_bin (sim_var 0 rfl) sim_int pr_div) sim_int pr_mod)) (fun _ => rfl) SimAll.nil))) (sims_cons (sim_for hS 2 rfl (asg_of (by decide +kernel)) (simI_range1 (sim_built T (isKind_of (by decide +kernel)) b_range.g b_range.b) sim_int (fun _ => rfl)) (sims_cons (sim_assign hS 3 rfl (asg_of (by decide +kernel)) (sim_bin (sim_bin (sim_var 0 rfl) (sim_bin sim_int (sim_bin sim_int (sim_var 2 rfl) pr_sub) pr_pow) pr_div) sim_int pr_mod)) (sims_cons (sim_assign hS 4 rfl (asg_of (by decide +kernel)) (sim_bin (sim_bin (sim_var 0 rfl) (sim_bin sim_int (sim_bin sim_int (sim_var 2 rfl) pr_sub) pr_pow) pr_div) sim_int pr_mod)) (sims_cons (sim_do (sim_meth (sim_var 1 rfl) (SimAll.cons (sim_sub sim_str (sim_bin (sim_var 3 rfl) sim_int pr_div)) (fun _ => rfl) SimAll.nil) mt_append)) (sims_cons (sim_do (sim_meth (sim_var 1 rfl) (SimAll.cons (sim_sub sim_str (sim_bin (sim_bin (sim_var 3 rfl) sim_int pr_div) sim_int pr_mod)) (fun _ => rfl) SimAll.nil) mt_append)) (sims_cons (sim_do (sim_meth (sim_var 1 rfl) (SimAll.cons (sim_sub (sim_sub (sim_lst (SimAll.cons sim_str (fun _ => rfl) (SimAll.cons sim_str (fun _ => rfl) (SimAll.cons sim_str (fun _ => rfl) SimAll.nil)))) (sim_var 2 rfl)) (sim_bin (sim_bin (sim_var 3 rfl) sim_int pr_mod) (sim_bin sim_int (sim_var 4 rfl) pr_mul) pr_addA)) (fun _ => rfl) SimAll.nil) mt_append)) sims_nil))))) sims_nil) (sims_cons (sim_ret (sim_meth sim_str (SimAll.cons (sim_var 1 rfl) (fun _ => rfl) SimAll.nil) mt_join)) sims_nil)))
set_option maxHeartbeats 2000000 in
theorem sb_law_pieces {X : Cx} {n : Nat} (T : TopOk X) (b_range : Blt X "range" (.type "range")) : SimSs X n (scopeOf (topAt PySem.Challenge.pw_ph0077_01 28)) ["words", "manners", "pieces", "n", "quoted", "way", "signs", "k", "sign", "apart"] (b_law_pieces) (bodyOf (topAt PySem.Challenge.pw_ph0077_01 28)) := by
  have hS : Slots ["words", "manners", "pieces", "n", "quoted", "way", "signs", "k", "sign", "apart"] := slots_of (by decide +kernel)
  unfold b_law_pieces
  dsimp only [topAt, methAt, bodyOf, scopeOf, PySem.Challenge.pw_ph0077_01, List.getD_cons_succ, List.getD_cons_zero]
  exact (sims_cons (sim_assign hS 2 rfl (asg_of (by decide +kernel)) (sim_new SimAll.nil)) (sims_cons (sim_for hS 3 rfl (asg_of (by decide +kernel)) (simI_range1 (sim_built T (isKind_of (by decide +kernel)) b_range.g b_range.b) sim_int (fun _ => rfl)) (sims_cons (sim_assign hS 4 rfl (asg_of (by decide +kernel)) (sim_cmp (sim_bin (sim_bin (sim_sub (sim_var 1 rfl) (sim_var 3 rfl)) sim_int pr_div) sim_int pr_mod) sim_int pr_eqI)) (sims_cons (sim_assign hS 5 rfl (asg_of (by decide +kernel)) (sim_bin (sim_bin (sim_sub (sim_var 1 rfl) (sim_var 3 rfl)) sim_int pr_div) sim_int pr_mod)) (sims_cons (sim_assign hS 6 rfl (asg_of (by decide +kernel)) (sim_new (SimAll.cons (sim_sub (sim_lst (SimAll.cons sim_str (fun _ => rfl) (SimAll.cons sim_str (fun _ => rfl) (SimAll.cons sim_str (fun _ => rfl) (SimAll.cons sim_str (fun _ => rfl) SimAll.nil))))) (sim_bin (sim_sub (sim_var 1 rfl) (sim_var 3 rfl)) sim_int pr_mod)) (fun _ => rfl) (SimAll.cons (sim_if (simB_tru (sim_var 4 rfl) pr_truthyB) sim_str sim_str) (fun _ => rfl) SimAll.nil)))) (sims_cons (sim_for hS 7 rfl (asg_of (by decide +kernel)) (simI_range1 (sim_built T (isKind_of (by decide +kernel)) b_range.g b_range.b) sim_int (fun _ => rfl)) (sims_cons (sim_assign hS 8 rfl (asg_of (by decide +kernel)) (sim_sub (sim_sub (sim_var 0 rfl) (sim_var 3 rfl)) (sim_var 7 rfl))) (sims_cons (sim_assign hS 9 rfl (asg_of (by decide +kernel)) (sim_orV (sim_cmp (sim_var 8 rfl) (sim_if (simB_tru (sim_var 4 rfl) pr_truthyB) sim_str sim_str) (pr_in T)) (sim_andV (sim_cmp (sim_var 8 rfl) sim_str pr_eq) (sim_cmp (sim_var 7 rfl) sim_int pr_eqI)))) (sims_cons (sim_branch (simB_or (simB_tru (sim_var 9 rfl) pr_truthyB) (simB_cmp (sim_bin (sim_bin (sim_sub (sim_var 1 rfl) (sim_var 3 rfl)) (sim_bin sim_int (sim_bin (sim_var 7 rfl) sim_int pr_addA) pr_pow) pr_div) sim_int pr_mod) sim_int pr_eqI)) (sims_cons (sim_do (sim_meth (sim_var 6 rfl) (SimAll.cons sim_str (fun _ => rfl) SimAll.nil) mt_append)) sims_nil) sims_nil) (sims_cons (sim_do (sim_meth (sim_var 6 rfl) (SimAll.cons (sim_var 8 rfl) (fun _ => rfl) SimAll.nil) mt_append)) sims_nil)))) sims_nil) (sims_cons (sim_branch (simB_and (simB_cmp (sim_var 3 rfl) sim_int pr_eqI) (simB_cmp (sim_var 5 rfl) sim_int pr_lt)) (sims_cons (sim_do (sim_meth (sim_var 6 rfl) (SimAll.cons (sim_sub (sim_lst (SimAll.cons sim_str (fun _ => rfl) (SimAll.cons sim_str (fun _ => rfl) SimAll.nil))) (sim_var 5 rfl)) (fun _ => rfl) SimAll.nil) mt_append)) sims_nil) (sims_cons (sim_do (sim_meth (sim_var 6 rfl) (SimAll.cons (sim_if (simB_tru (sim_var 4 rfl) pr_truthyB) sim_str (sim_sub sim_str (sim_var 5 rfl))) (fun _ => rfl) SimAll.nil) mt_append)) sims_nil)) (sims_cons (sim_do (sim_meth (sim_var 2 rfl) (SimAll.cons (sim_meth sim_str (SimAll.cons (sim_var 6 rfl) (fun _ => rfl) SimAll.nil) mt_join) (fun _ => rfl) SimAll.nil) mt_append)) sims_nil)))))) sims_nil) (sims_cons (sim_branch (simB_cmp (sim_bin (sim_bin (sim_sub (sim_var 1 rfl) sim_int) sim_int pr_div) sim_int pr_mod) sim_int pr_lt) (sims_cons (sim_ret (sim_bin (sim_var 2 rfl) (sim_lst (SimAll.cons sim_str (fun _ => rfl) (SimAll.cons sim_str (fun _ => rfl) SimAll.nil))) pr_addA)) sims_nil) sims_nil) (sims_cons (sim_ret (sim_bin (sim_var 2 rfl) (sim_sub (sim_lst (SimAll.cons (sim_lst (SimAll.cons sim_str (fun _ => rfl) (SimAll.cons sim_str (fun _ => rfl) SimAll.nil))) (fun _ => rfl) (SimAll.cons (sim_lst (SimAll.cons sim_str (fun _ => rfl) (SimAll.cons sim_str (fun _ => rfl) SimAll.nil))) (fun _ => rfl) (SimAll.cons (sim_lst (SimAll.cons sim_str (fun _ => rfl) (SimAll.cons sim_str (fun _ => rfl) SimAll.nil))) (fun _ => rfl) (SimAll.cons (sim_lst (SimAll.cons sim_str (fun _ => rfl) (SimAll.cons sim_str (fun _ => rfl) SimAll.nil))) (fun _ => rfl) SimAll.nil))))) (sim_bin (sim_bin (sim_sub (sim_var 1 rfl) sim_int) sim_int pr_div) sim_int pr_mod)) pr_addA)) sims_nil))))
set_option maxHeartbeats 2000000 in
theorem sb_law_desks {X : Cx} {n : Nat} (T : TopOk X) {C : Addr} {K : Frag} (b_len : Blt X "len" (.builtin "len")) (ok : ClsOk X K C lexNs) (b_list : Blt X "list" (.type "list")) (h_get_token : Mt X n "get_token" (isInst C lexNs) (fun o ds H => (G_get_token C) (o :: ds) H)) (h_push_token : Mt X n "push_token" (isInst C lexNs) (fun o ds H => (G_push_token C) (o :: ds) H)) {a_filemode : Addr} (m_filemode : X.mg "filemode" = some (.ref a_filemode)) (k_filemode : ∀ W, Cal X W (.ref a_filemode)) (c_filemode : Ct X n (.ref a_filemode) G_filemode) (b_range : Blt X "range" (.type "range")) (m_netrclex : X.mg "_netrclex" = some (.ref C)) (k_netrclex : ∀ W, Cal X W (.ref C)) (c_netrclex : Ct X n (.ref C) (gNew C lexNs (G_init C))) {a_law_tape : Addr} (m_law_tape : X.mg "_law_tape" = some (.ref a_law_tape)) (k_law_tape : ∀ W, Cal X W (.ref a_law_tape)) (c_law_tape : Ct X n (.ref a_law_tape) (G_law_tape C)) : SimSs X n (scopeOf (topAt PySem.Challenge.pw_ph0077_01 29)) ["first", "words", "modes", "known", "n", "lines", "held", "gone", "marks", "tick", "j", "word", "figure", "lowest", "mode", "sign"] (b_law_desks C) (bodyOf (topAt PySem.Challenge.pw_ph0077_01 29)) := by
  have hS : Slots ["first", "words", "modes", "known", "n", "lines", "held", "gone", "marks", "tick", "j", "word", "figure", "lowest", "mode", "sign"] := slots_of (by decide +kernel)
  unfold b_law_desks
  dsimp only [topAt, methAt, bodyOf, scopeOf, PySem.Challenge.pw_ph0077_01, List.getD_cons_succ, List.getD_cons_zero]
  exact (sims_cons (sim_assign hS 3 rfl (asg_of (by decide +kernel)) sim_dict) (sims_cons (sim_for hS 4 rfl (asg_of (by decide +kernel)) (simI_range1 (sim_built T (isKind_of (by decide +kernel)) b_range.g b_range.b) sim_int (fun _ => rfl)) (sims_cons (sim_setitem (sim_var 3 rfl) (sim_sub (sim_var 1 rfl) (sim_var 4 rfl)) (sim_sub (sim_var 2 rfl) (sim_var 4 rfl))) sims_nil) sims_nil) (sims_cons (sim_assign hS 5 rfl (asg_of (by decide +kernel)) (sim_lst (SimAll.cons (sim_var 0 rfl) (fun _ => rfl) (SimAll.cons (sim_callG (sim_glob T (isKind_of (by decide +kernel)) m_netrclex) (SimAll.cons (sim_callG (sim_glob T (isKind_of (by decide +kernel)) m_law_tape) (SimAll.cons sim_str (fun _ => rfl) SimAll.nil) c_law_tape k_law_tape) (fun _ => rfl) SimAll.nil) c_netrclex k_netrclex) (fun _ => rfl) (SimAll.cons (sim_callG (sim_glob T (isKind_of (by decide +kernel)) m_netrclex) (SimAll.cons (sim_callG (sim_glob T (isKind_of (by decide +kernel)) m_law_tape) (SimAll.cons sim_str (fun _ => rfl) SimAll.nil) c_law_tape k_law_tape) (fun _ => rfl) SimAll.nil) c_netrclex k_netrclex) (fun _ => rfl) SimAll.nil))))) (sims_cons (sim_assign hS 6 rfl (asg_of (by decide +kernel)) (sim_new (SimAll.cons sim_str (fun _ => rfl) (SimAll.cons sim_str (fun _ => rfl) (SimAll.cons sim_str (fun _ => rfl) SimAll.nil))))) (sims_cons (sim_assign hS 7 rfl (asg_of (by decide +kernel)) (sim_lst (SimAll.cons (sim_new SimAll.nil) (fun _ => rfl) (SimAll.cons (sim_new SimAll.nil) (fun _ => rfl) (SimAll.cons (sim_new SimAll.nil) (fun _ => rfl) SimAll.nil))))) (sims_cons (sim_assign hS 8 rfl (asg_of (by decide +kernel)) (sim_new SimAll.nil)) (sims_cons (sim_for hS 9 rfl (asg_of (by decide +kernel)) (simI_range1 (sim_built T (isKind_of (by decide +kernel)) b_range.g b_range.b) sim_int (fun _ => rfl)) (sims_cons (sim_for hS 10 rfl (asg_of (by decide +kernel)) (simI_range1 (sim_built T (isKind_of (by decide +kernel)) b_range.g b_range.b) sim_int (fun _ => rfl)) (sims_cons (sim_assign hS 11 rfl (asg_of (by decide +kernel)) (sim_sub (sim_var 6 rfl) (sim_var 10 rfl))) (sims_cons (sim_branch (simB_and (simB_cmp (sim_var 11 rfl) sim_str pr_ne) (simB_cmp (sim_var 11 rfl) (sim_var 3 rfl) (pr_notIn T))) (sims_cons (sim_ret (sim_seal (sim_tup (SimAll.cons (sim_var 7 rfl) (fun _ => rfl) (SimAll.cons (sim_var 8 rfl) (fun _ => rfl) SimAll.nil))))) sims_nil) sims_nil) (sims_cons (sim_branch (simB_cmp (sim_comp hS (block_of (by decide +kernel)) rfl (asgC_of (by decide +kernel)) (simI_val (sim_slice (sim_var 11 rfl) (sim_bin (sim_bin sim_int (sim_var 10 rfl) pr_mul) sim_int pr_addA) (sim_bin (sim_bin sim_int (sim_var 10 rfl) pr_mul) sim_int pr_addA) trivial)) (SimT.one (simB_cmp (sim_var 15 rfl) sim_str (pr_in T))) SimCl.nil (sim_var 15 rfl)) (sim_lst SimAll.nil) pr_ne) (sims_cons (sim_assign hS 12 rfl (asg_of (by decide +kernel)) (sim_bin (sim_bin (sim_sub (sim_var 3 rfl) (sim_var 11 rfl)) (sim_bin sim_int (sim_bin sim_int (sim_var 10 rfl) pr_sub) pr_pow) pr_div) sim_int pr_mod)) (sims_cons (sim_assign hS 13 rfl (asg_of (by decide +kernel)) (sim_if (simB_cmp (sim_bin (sim_var 12 rfl) sim_int pr_mod) sim_int pr_eqI) sim_int (sim_if (simB_cmp (sim_bin (sim_bin (sim_var 12 rfl) sim_int pr_div) sim_int pr_mod) sim_int pr_eqI) sim_int sim_int))) (sims_cons (sim_assign hS 14 rfl (asg_of (by decide +kernel)) (sim_bin (sim_sub (sim_var 3 rfl) (sim_var 11 rfl)) (sim_bin (sim_var 13 rfl) (sim_bin sim_int (sim_bin sim_int (sim_var 10 rfl) pr_sub) pr_pow) pr_mul) pr_sub)) (sims_cons (sim_setitem (sim_var 6 rfl) (sim_var 10 rfl) (sim_bin (sim_slice (sim_var 11 rfl) trivial sim_int trivial) (sim_callG (sim_glob T (isKind_of (by decide +kernel)) m_filemode) (SimAll.cons (sim_var 14 rfl) (fun _ => rfl) SimAll.nil) c_filemode k_filemode) pr_addA)) (sims_cons (sim_setitem (sim_var 3 rfl) (sim_sub (sim_var 6 rfl) (sim_var 10 rfl)) (sim_var 14 rfl)) sims_nil))))) (sims_cons (sim_branch (simB_cmp (sim_var 11 rfl) sim_str pr_ne) (sims_cons (sim_do (sim_meth (sim_sub (sim_var 7 rfl) (sim_var 10 rfl)) (SimAll.cons (sim_tup (SimAll.cons (sim_var 9 rfl) (fun _ => rfl) (SimAll.cons (sim_var 11 rfl) (fun _ => rfl) SimAll.nil))) (fun _ => rfl) SimAll.nil) mt_append)) sims_nil) sims_nil) (sims_cons (sim_branch (simB_and (simB_cmp (sim_var 11 rfl) sim_str pr_ne) (simB_cmp (sim_var 10 rfl) sim_int pr_lt)) (sims_cons (sim_do (sim_meth (sim_sub (sim_var 5 rfl) (sim_bin (sim_var 10 rfl) sim_int pr_addA)) (SimAll.cons (sim_var 11 rfl) (fun _ => rfl) SimAll.nil) h_push_token)) sims_nil) sims_nil) (sims_cons (sim_setitem (sim_var 6 rfl) (sim_var 10 rfl) (sim_meth (sim_sub (sim_var 5 rfl) (sim_var 10 rfl)) SimAll.nil h_get_token)) sims_nil)))) (sims_cons (sim_branch (simB_cmp (sim_var 10 rfl) sim_int pr_eqI) (sims_cons (sim_do (sim_meth (sim_var 0 rfl) (SimAll.cons (sim_meth (sim_var 0 rfl) SimAll.nil h_get_token) (fun _ => rfl) SimAll.nil) h_push_token)) sims_nil) sims_nil) sims_nil)))) sims_nil) (sims_cons (sim_do (sim_meth (sim_var 8 rfl) (SimAll.cons (sim_tup (SimAll.cons (sim_callG (sim_built T (isKind_of (by decide +kernel)) b_len.g b_len.b) (SimAll.cons (sim_attr ok (sim_attr ok (sim_var 0 rfl))) (fun _ => rfl) SimAll.nil) ct_len (fun _ => Cal.builtin)) (fun _ => rfl) (SimAll.cons (sim_attr ok (sim_var 0 rfl)) (fun _ => rfl) (SimAll.cons (sim_callG (sim_built T (isKind_of (by decide +kernel)) b_list.g b_list.b) (SimAll.cons (sim_attr ok (sim_var 0 rfl)) (fun _ => rfl) SimAll.nil) ct_list (fun _ => Cal.type)) (fun _ => rfl) SimAll.nil)))) (fun _ => rfl) SimAll.nil) mt_append)) (sims_cons (sim_branch (simB_cmp (sim_callG (sim_built T (isKind_of (by decide +kernel)) b_len.g b_len.b) (SimAll.cons (sim_sub (sim_var 7 rfl) sim_int) (fun _ => rfl) SimAll.nil) ct_len (fun _ => Cal.builtin)) sim_int pr_eqI) (sims_cons (sim_ret (sim_seal (sim_tup (SimAll.cons (sim_var 7 rfl) (fun _ => rfl) (SimAll.cons (sim_var 8 rfl) (fun _ => rfl) SimAll.nil))))) sims_nil) sims_nil) sims_nil))) sims_nil) (sims_cons (sim_ret (sim_seal (sim_tup (SimAll.cons (sim_var 7 rfl) (fun _ => rfl) (SimAll.cons (sim_var 8 rfl) (fun _ => rfl) SimAll.nil))))) sims_nil))))))))
set_option maxHeartbeats 2000000 in
theorem sb_law_greatest {X : Cx} {n : Nat} (T : TopOk X) (b_max : Blt X "max" (.builtin "max")) (b_sum : Blt X "sum" (.builtin "sum")) (b_range : Blt X "range" (.type "range")) : SimSs X n (scopeOf (topAt PySem.Challenge.pw_ph0077_01 30)) ["counts", "i", "j", "ways", "m", "sums", "past", "ends", "cut", "k"] (b_law_greatest) (bodyOf (topAt PySem.Challenge.pw_ph0077_01 30)) := by
  have hS : Slots ["counts", "i", "j", "ways", "m", "sums", "past", "ends", "cut", "k"] := slots_of (by decide +kernel)
  unfold b_law_greatest
  dsimp only [topAt, methAt, bodyOf, scopeOf, PySem.Challenge.pw_ph0077_01, List.getD_cons_succ, List.getD_cons_zero]
  exact (sims_cons (sim_assign hS 3 rfl (asg_of (by decide +kernel)) (sim_lst (SimAll.cons (sim_lst (SimAll.cons sim_int (fun _ => rfl) SimAll.nil)) (fun _ => rfl) SimAll.nil))) (sims_cons (sim_for hS 4 rfl (asg_of (by decide +kernel)) (simI_range1 (sim_built T (isKind_of (by decide +kernel)) b_range.g b_range.b) (sim_var 2 rfl) (fun _ => rfl)) (sims_cons (sim_assign_comp hS 3 rfl (asg_of (by decide +kernel)) (block_of (by decide +kernel)) rfl (asgC_of (by decide +kernel)) (simI_val (sim_var 3 rfl)) SimT.none (SimCl.cons rfl (asgC_of (by decide +kernel)) (simI_range2 (sim_built T (isKind_of (by decide +kernel)) b_range.g b_range.b) (sim_sub (sim_var 6 rfl) sim_neg) (sim_bin (sim_var 1 rfl) sim_int pr_addA) (fun _ => rfl)) SimT.none (by intros; rfl) (by decide +kernel) SimCl.nil) (sim_bin (sim_var 6 rfl) (sim_lst (SimAll.cons (sim_var 8 rfl) (fun _ => rfl) SimAll.nil)) pr_addA) (fun _ hE => swaps_local hE (isKind_of (by decide +kernel)) (by decide +kernel) (by decide +kernel))) sims_nil) sims_nil) (sims_cons (sim_assign hS 5 rfl (asg_of (by decide +kernel)) (sim_new SimAll.nil)) (sims_cons (sim_for hS 6 rfl (asg_of (by decide +kernel)) (simI_val (sim_var 3 rfl)) (sims_cons (sim_assign hS 7 rfl (asg_of (by decide +kernel)) (sim_bin (sim_slice (sim_var 6 rfl) sim_int trivial trivial) (sim_lst (SimAll.cons (sim_var 1 rfl) (fun _ => rfl) SimAll.nil)) pr_addA)) (sims_cons (sim_do (sim_meth (sim_var 5 rfl) (SimAll.cons (sim_callG (sim_built T (isKind_of (by decide +kernel)) b_sum.g b_sum.b) (SimAll.cons (sim_comp hS (block_of (by decide +kernel)) rfl (asgC_of (by decide +kernel)) (simI_range1 (sim_built T (isKind_of (by decide +kernel)) b_range.g b_range.b) (sim_bin (sim_var 2 rfl) sim_int pr_addA) (fun _ => rfl)) SimT.none (SimCl.cons rfl (asgC_of (by decide +kernel)) (simI_range2 (sim_built T (isKind_of (by decide +kernel)) b_range.g b_range.b) (sim_sub (sim_var 6 rfl) (sim_var 4 rfl)) (sim_bin (sim_sub (sim_var 7 rfl) (sim_var 4 rfl)) sim_int pr_addA) (fun _ => rfl)) SimT.none (by intros; rfl) (by decide +kernel) SimCl.nil) (sim_sub (sim_sub (sim_var 0 rfl) (sim_var 9 rfl)) (sim_var 4 rfl))) (fun _ => rfl) SimAll.nil) ct_sum (fun _ => Cal.builtin)) (fun _ => rfl) SimAll.nil) mt_append)) sims_nil)) sims_nil) (sims_cons (sim_ret (sim_callG (sim_built T (isKind_of (by decide +kernel)) b_max.g b_max.b) (SimAll.cons (sim_var 5 rfl) (fun _ => rfl) SimAll.nil) ct_max (fun _ => Cal.builtin))) sims_nil)))))
set_option maxHeartbeats 2000000 in
theorem sb_law {X : Cx} {n : Nat} (T : TopOk X) {C : Addr} {K : Frag} (b_len : Blt X "len" (.builtin "len")) (b_range : Blt X "range" (.type "range")) {a_law_greatest : Addr} (m_law_greatest : X.mg "_law_greatest" = some (.ref a_law_greatest)) (k_law_greatest : ∀ W, Cal X W (.ref a_law_greatest)) (c_law_greatest : Ct X n (.ref a_law_greatest) G_law_greatest) {a_law_row : Addr} (m_law_row : X.mg "_law_row" = some (.ref a_law_row)) (k_law_row : ∀ W, Cal X W (.ref a_law_row)) (c_law_row : Ct X n (.ref a_law_row) G_law_row) {a_law_desks : Addr} (m_law_desks : X.mg "_law_desks" = some (.ref a_law_desks)) (k_law_desks : ∀ W, Cal X W (.ref a_law_desks)) (c_law_desks : Ct X n (.ref a_law_desks) (G_law_desks C)) (m_netrclex : X.mg "_netrclex" = some (.ref C)) (k_netrclex : ∀ W, Cal X W (.ref C)) (c_netrclex : Ct X n (.ref C) (gNew C lexNs (G_init C))) {a_law_tape : Addr} (m_law_tape : X.mg "_law_tape" = some (.ref a_law_tape)) (k_law_tape : ∀ W, Cal X W (.ref a_law_tape)) (c_law_tape : Ct X n (.ref a_law_tape) (G_law_tape C)) {a_law_pieces : Addr} (m_law_pieces : X.mg "_law_pieces" = some (.ref a_law_pieces)) (k_law_pieces : ∀ W, Cal X W (.ref a_law_pieces)) (c_law_pieces : Ct X n (.ref a_law_pieces) G_law_pieces) (b_chr : Blt X "chr" (.builtin "chr")) {a_filemode : Addr} (m_filemode : X.mg "filemode" = some (.ref a_filemode)) (k_filemode : ∀ W, Cal X W (.ref a_filemode)) (c_filemode : Ct X n (.ref a_filemode) G_filemode) (b_sum : Blt X "sum" (.builtin "sum")) : SimSs X n (scopeOf (topAt PySem.Challenge.pw_ph0077_01 31)) ["script", "shifts", "given", "spelled", "shown", "named", "tokens", "parts", "told", "rights", "bare", "due", "seen", "hour", "over", "rest", "at", "each", "spell", "desk", "pair"] (b_law C) (bodyOf (topAt PySem.Challenge.pw_ph0077_01 31)) := by
  have hS : Slots ["script", "shifts", "given", "spelled", "shown", "named", "tokens", "parts", "told", "rights", "bare", "due", "seen", "hour", "over", "rest", "at", "each", "spell", "desk", "pair"] := slots_of (by decide +kernel)
  unfold b_law
  dsimp only [topAt, methAt, bodyOf, scopeOf, PySem.Challenge.pw_ph0077_01, List.getD_cons_succ, List.getD_cons_zero]
  exact (sims_cons (sim_assign hS 1 rfl (asg_of (by decide +kernel)) (sim_comp hS (block_of (by decide +kernel)) rfl (asgC_of (by decide +kernel)) (simI_range1 (sim_built T (isKind_of (by decide +kernel)) b_range.g b_range.b) sim_int (fun _ => rfl)) SimT.none SimCl.nil (sim_callG (sim_built T (isKind_of (by decide +kernel)) b_sum.g b_sum.b) (SimAll.cons (sim_slice (sim_var 0 rfl) (sim_var 16 rfl) trivial sim_int) (fun _ => rfl) SimAll.nil) ct_sum (fun _ => Cal.builtin))) (fun _ hE => swaps_cell hE (isKind_of (by decide +kernel)))) (sims_cons (sim_assign hS 2 rfl (asg_of (by decide +kernel)) (sim_comp hS (block_of (by decide +kernel)) rfl (asgC_of (by decide +kernel)) (simI_range1 (sim_built T (isKind_of (by decide +kernel)) b_range.g b_range.b) sim_int (fun _ => rfl)) SimT.none SimCl.nil (sim_bin (sim_sub (sim_lst (SimAll.cons sim_int (fun _ => rfl) (SimAll.cons sim_int (fun _ => rfl) (SimAll.cons sim_int (fun _ => rfl) (SimAll.cons sim_int (fun _ => rfl) SimAll.nil))))) (sim_var 16 rfl)) (sim_bin (sim_sub (sim_var 1 rfl) (sim_var 16 rfl)) sim_int pr_mod) pr_addA)) (fun _ hE => swaps_cell hE (isKind_of (by decide +kernel)))) (sims_cons (sim_assign_comp hS 3 rfl (asg_of (by decide +kernel)) (block_of (by decide +kernel)) rfl (asgC_of (by decide +kernel)) (simI_range1 (sim_built T (isKind_of (by decide +kernel)) b_range.g b_range.b) sim_int (fun _ => rfl)) SimT.none SimCl.nil (sim_bin (sim_bin (sim_sub (sim_lst (SimAll.cons sim_int (fun _ => rfl) (SimAll.cons sim_int (fun _ => rfl) (SimAll.cons sim_int (fun _ => rfl) (SimAll.cons sim_int (fun _ => rfl) SimAll.nil))))) (sim_var 16 rfl)) (sim_bin (sim_sub (sim_var 1 rfl) (sim_var 16 rfl)) sim_int pr_div) pr_addA) (sim_bin sim_int sim_int pr_pow) pr_mod) (fun _ hE => swaps_local hE (isKind_of (by decide +kernel)) (by decide +kernel) (by decide +kernel))) (sims_cons (sim_assign hS 4 rfl (asg_of (by decide +kernel)) (sim_comp hS (block_of (by decide +kernel)) rfl (asgC_of (by decide +kernel)) (simI_val (sim_var 2 rfl)) SimT.none SimCl.nil (sim_callG (sim_glob T (isKind_of (by decide +kernel)) m_filemode) (SimAll.cons (sim_var 17 rfl) (fun _ => rfl) SimAll.nil) c_filemode k_filemode)) (fun _ hE => swaps_cell hE (isKind_of (by decide +kernel)))) (sims_cons (sim_branch (simB_cmp (sim_var 4 rfl) (sim_comp hS (block_of (by decide +kernel)) rfl (asgC_of (by decide +kernel)) (simI_val (sim_var 2 rfl)) SimT.none SimCl.nil (sim_callG (sim_glob T (isKind_of (by decide +kernel)) m_law_row) (SimAll.cons (sim_var 17 rfl) (fun _ => rfl) SimAll.nil) c_law_row k_law_row)) pr_ne) (sims_cons (sim_ret sim_bool) sims_nil) sims_nil) (sims_cons (sim_assign hS 5 rfl (asg_of (by decide +kernel)) (sim_comp hS (block_of (by decide +kernel)) rfl (asgC_of (by decide +kernel)) (simI_val (sim_var 3 rfl)) SimT.none SimCl.nil (sim_bin (sim_callG (sim_built T (isKind_of (by decide +kernel)) b_chr.g b_chr.b) (SimAll.cons (sim_bin (sim_bin (sim_var 18 rfl) (sim_bin sim_int sim_int pr_pow) pr_div) sim_int pr_mod) (fun _ => rfl) SimAll.nil) ct_chr (fun _ => Cal.builtin)) (sim_callG (sim_built T (isKind_of (by decide +kernel)) b_chr.g b_chr.b) (SimAll.cons (sim_bin (sim_bin (sim_var 18 rfl) (sim_bin sim_int sim_int pr_pow) pr_div) sim_int pr_mod) (fun _ => rfl) SimAll.nil) ct_chr (fun _ => Cal.builtin)) pr_addA)) (fun _ hE => swaps_cell hE (isKind_of (by decide +kernel)))) (sims_cons (sim_assign_comp hS 6 rfl (asg_of (by decide +kernel)) (block_of (by decide +kernel)) rfl (asgC_of (by decide +kernel)) (simI_range1 (sim_built T (isKind_of (by decide +kernel)) b_range.g b_range.b) sim_int (fun _ => rfl)) SimT.none SimCl.nil (sim_bin (sim_sub (sim_var 5 rfl) (sim_var 16 rfl)) (sim_sub (sim_var 4 rfl) (sim_var 16 rfl)) pr_addA) (fun _ hE => swaps_local hE (isKind_of (by decide +kernel)) (by decide +kernel) (by decide +kernel))) (sims_cons (sim_assign hS 7 rfl (asg_of (by decide +kernel)) (sim_callG (sim_glob T (isKind_of (by decide +kernel)) m_law_pieces) (SimAll.cons (sim_var 6 rfl) (fun _ => rfl) (SimAll.cons (sim_var 3 rfl) (fun _ => rfl) SimAll.nil)) c_law_pieces k_law_pieces)) (sims_cons (sim_assign hS 8 rfl (asg_of (by decide +kernel)) (sim_callG (sim_glob T (isKind_of (by decide +kernel)) m_law_desks) (SimAll.cons (sim_callG (sim_glob T (isKind_of (by decide +kernel)) m_netrclex) (SimAll.cons (sim_callG (sim_glob T (isKind_of (by decide +kernel)) m_law_tape) (SimAll.cons (sim_meth sim_str (SimAll.cons (sim_var 7 rfl) (fun _ => rfl) SimAll.nil) mt_join) (fun _ => rfl) SimAll.nil) c_law_tape k_law_tape) (fun _ => rfl) SimAll.nil) c_netrclex k_netrclex) (fun _ => rfl) (SimAll.cons (sim_var 6 rfl) (fun _ => rfl) (SimAll.cons (sim_var 2 rfl) (fun _ => rfl) SimAll.nil))) c_law_desks k_law_desks)) (sims_cons (sim_assign hS 9 rfl (asg_of (by decide +kernel)) (sim_comp hS (block_of (by decide +kernel)) rfl (asgC_of (by decide +kernel)) (simI_val (sim_var 2 rfl)) SimT.none SimCl.nil (sim_comp hS (block_of (by decide +kernel)) rfl (asgC_of (by decide +kernel)) (simI_range1 (sim_built T (isKind_of (by decide +kernel)) b_range.g b_range.b) sim_int (fun _ => rfl)) SimT.none SimCl.nil (sim_sub (sim_lst (SimAll.cons sim_int (fun _ => rfl) (SimAll.cons sim_int (fun _ => rfl) (SimAll.cons sim_int (fun _ => rfl) (SimAll.cons sim_int (fun _ => rfl) (SimAll.cons sim_int (fun _ => rfl) (SimAll.cons sim_int (fun _ => rfl) (SimAll.cons sim_int (fun _ => rfl) (SimAll.cons sim_int (fun _ => rfl) SimAll.nil))))))))) (sim_bin (sim_bin (sim_var 17 rfl) (sim_bin sim_int (sim_bin sim_int (sim_var 19 rfl) pr_sub) pr_pow) pr_div) sim_int pr_mod)))) (fun _ hE => swaps_cell hE (isKind_of (by decide +kernel)))) (sims_cons (sim_assign hS 10 rfl (asg_of (by decide +kernel)) (sim_comp hS (block_of (by decide +kernel)) rfl (asgC_of (by decide +kernel)) (simI_range1 (sim_built T (isKind_of (by decide +kernel)) b_range.g b_range.b) sim_int (fun _ => rfl)) SimT.none SimCl.nil (sim_comp hS (block_of (by decide +kernel)) rfl (asgC_of (by decide +kernel)) (simI_val (sim_var 2 rfl)) SimT.none SimCl.nil (sim_bin (sim_var 17 rfl) (sim_bin (sim_bin (sim_bin (sim_var 17 rfl) sim_int pr_mod) (sim_bin sim_int (sim_bin sim_int (sim_var 19 rfl) pr_sub) pr_pow) pr_div) (sim_bin sim_int (sim_bin sim_int (sim_var 19 rfl) pr_sub) pr_pow) pr_mul) pr_sub))) (fun _ hE => swaps_cell hE (isKind_of (by decide +kernel)))) (sims_cons (sim_assign_comp hS 11 rfl (asg_of (by decide +kernel)) (block_of (by decide +kernel)) rfl (asgC_of (by decide +kernel)) (simI_range1 (sim_built T (isKind_of (by decide +kernel)) b_range.g b_range.b) sim_int (fun _ => rfl)) SimT.none SimCl.nil (sim_comp hS (block_of (by decide +kernel)) rfl (asgC_of (by decide +kernel)) (simI_range1 (sim_built T (isKind_of (by decide +kernel)) b_range.g b_range.b) sim_int (fun _ => rfl)) SimT.none SimCl.nil (sim_tup (SimAll.cons (sim_bin (sim_bin (sim_bin (sim_var 16 rfl) (sim_var 19 rfl) pr_addA) sim_int pr_addA) (sim_callG (sim_glob T (isKind_of (by decide +kernel)) m_law_greatest) (SimAll.cons (sim_var 9 rfl) (fun _ => rfl) (SimAll.cons (sim_var 16 rfl) (fun _ => rfl) (SimAll.cons (sim_var 19 rfl) (fun _ => rfl) SimAll.nil))) c_law_greatest k_law_greatest) pr_addA) (fun _ => rfl) (SimAll.cons (sim_bin (sim_sub (sim_var 5 rfl) (sim_var 16 rfl)) (sim_callG (sim_glob T (isKind_of (by decide +kernel)) m_law_row) (SimAll.cons (sim_sub (sim_sub (sim_var 10 rfl) (sim_var 19 rfl)) (sim_var 16 rfl)) (fun _ => rfl) SimAll.nil) c_law_row k_law_row) pr_addA) (fun _ => rfl) SimAll.nil)))) (fun _ hE => swaps_local hE (isKind_of (by decide +kernel)) (by decide +kernel) (by decide +kernel))) (sims_cons (sim_assign hS 12 rfl (asg_of (by decide +kernel)) (sim_new SimAll.nil)) (sims_cons (sim_for hS 13 rfl (asg_of (by decide +kernel)) (simI_range1 (sim_built T (isKind_of (by decide +kernel)) b_range.g b_range.b) (sim_bin (sim_sub (sim_sub (sim_sub (sim_var 11 rfl) sim_int) sim_int) sim_int) sim_int pr_addA) (fun _ => rfl)) (sims_cons (sim_assign hS 14 rfl (asg_of (by decide +kernel)) (sim_callG (sim_built T (isKind_of (by decide +kernel)) b_len.g b_len.b) (SimAll.cons (sim_comp hS (block_of (by decide +kernel)) rfl (asgC_of (by decide +kernel)) (simI_val (sim_sub (sim_var 11 rfl) sim_int)) (SimT.one (simB_cmp (sim_sub (sim_var 20 rfl) sim_int) (sim_var 13 rfl) pr_le)) SimCl.nil (sim_var 20 rfl)) (fun _ => rfl) SimAll.nil) ct_len (fun _ => Cal.builtin))) (sims_cons (sim_assign hS 15 rfl (asg_of (by decide +kernel)) (sim_callG (sim_built T (isKind_of (by decide +kernel)) b_len.g b_len.b) (SimAll.cons (sim_meth sim_str (SimAll.cons (sim_slice (sim_var 7 rfl) (sim_bin (sim_var 14 rfl) sim_int pr_addA) trivial trivial) (fun _ => rfl) SimAll.nil) mt_join) (fun _ => rfl) SimAll.nil) ct_len (fun _ => Cal.builtin))) (sims_cons (sim_do (sim_meth (sim_var 12 rfl) (SimAll.cons (sim_tup (SimAll.cons (sim_var 15 rfl) (fun _ => rfl) (SimAll.cons (sim_bin sim_int (sim_meth (sim_meth sim_str (SimAll.cons (sim_slice (sim_var 7 rfl) trivial (sim_bin (sim_var 14 rfl) sim_int pr_addA) trivial) (fun _ => rfl) SimAll.nil) mt_join) (SimAll.cons sim_str (fun _ => rfl) SimAll.nil) mt_countS) pr_addA) (fun _ => rfl) (SimAll.cons (sim_slice (sim_bin (sim_var 6 rfl) (sim_lst (SimAll.cons sim_str (fun _ => rfl) (SimAll.cons sim_str (fun _ => rfl) SimAll.nil))) pr_addA) (sim_bin (sim_var 14 rfl) sim_int pr_addA) (sim_bin (sim_var 14 rfl) sim_int pr_addA) trivial) (fun _ => rfl) SimAll.nil)))) (fun _ => rfl) SimAll.nil) mt_append)) sims_nil))) sims_nil) (sims_cons (sim_ret (sim_cmp (sim_var 8 rfl) (sim_tup (SimAll.cons (sim_var 11 rfl) (fun _ => rfl) (SimAll.cons (sim_var 12 rfl) (fun _ => rfl) SimAll.nil))) pr_eq)) sims_nil)))))))))))))))
end Mine
open PySem PySem.W PyProof.Rows
set_option maxRecDepth 100000
namespace Mine
noncomputable def lamX : Expr := (lamE ((bodyOf (topAt PySem.Challenge.pw_ph0077_01 26)).getD 2 (.Pass default)))
structure KF (K : Frag) : Prop where
  e_init : obF (kPT K 105) 28 2 = exF (methAt PySem.Challenge.pw_ph0077_01 1 0) ["self", "fp"]
  e_read_char : obF (kPT K 105) 35 1 = exF (methAt PySem.Challenge.pw_ph0077_01 1 1) ["self"]
  e_get_token : obF (kPT K 105) 42 1 = exF (methAt PySem.Challenge.pw_ph0077_01 1 2) ["self"]
  e_push_token : obF (kPT K 105) 49 2 = exF (methAt PySem.Challenge.pw_ph0077_01 1 3) ["self", "token"]
  e_S_IFMT : obF (kPT K 105) 63 1 = exF (topAt PySem.Challenge.pw_ph0077_01 3) ["mode"]
  m_S_IFMT : nsIn K mainGlobals "S_IFMT" = some (some (.ref 63))
  e_filemode : obF (kPT K 105) 103 1 = exF (topAt PySem.Challenge.pw_ph0077_01 24) ["mode"]
  m_filemode : nsIn K mainGlobals "filemode" = some (some (.ref 103))
  e_law_tape : obF (kPT K 105) 110 1 = exF (topAt PySem.Challenge.pw_ph0077_01 26) ["text"]
  m_law_tape : nsIn K mainGlobals "_law_tape" = some (some (.ref 110))
  e_law_row : obF (kPT K 105) 117 1 = exF (topAt PySem.Challenge.pw_ph0077_01 27) ["mode"]
  m_law_row : nsIn K mainGlobals "_law_row" = some (some (.ref 117))
  e_law_pieces : obF (kPT K 105) 124 2 = exF (topAt PySem.Challenge.pw_ph0077_01 28) ["words", "manners"]
  m_law_pieces : nsIn K mainGlobals "_law_pieces" = some (some (.ref 124))
  e_law_desks : obF (kPT K 105) 129 3 = exF (topAt PySem.Challenge.pw_ph0077_01 29) ["first", "words", "modes"]
  m_law_desks : nsIn K mainGlobals "_law_desks" = some (some (.ref 129))
  e_law_greatest : obF (kPT K 105) 134 3 = exF (topAt PySem.Challenge.pw_ph0077_01 30) ["counts", "i", "j"]
  m_law_greatest : nsIn K mainGlobals "_law_greatest" = some (some (.ref 134))
  e_law : obF (kPT K 105) 139 1 = exF (topAt PySem.Challenge.pw_ph0077_01 31) ["script"]
  m_law : nsIn K mainGlobals "law" = some (some (.ref 139))
  m_netrclex : nsIn K mainGlobals "_netrclex" = some (some (.ref 52))
  m_table : nsIn K mainGlobals "_filemode_table" = some (some (.ref 96))
  r_table : rvChk (kPT K 105) 5 tableD (.ref 96) = true
  z_chr : nsIn K mainGlobals "chr" = some none
  z_enumerate : nsIn K mainGlobals "enumerate" = some none
  z_iter : nsIn K mainGlobals "iter" = some none
  z_len : nsIn K mainGlobals "len" = some none
  z_list : nsIn K mainGlobals "list" = some none
  z_max : nsIn K mainGlobals "max" = some none
  z_range : nsIn K mainGlobals "range" = some none
  z_sum : nsIn K mainGlobals "sum" = some none
  o_ga : findIn (kPT K 105) (.ref 52) "__getattribute__" = some (some (.builtin "object.__getattribute__"))
  o_gt : findIn (kPT K 105) (.ref 52) "__getattr__" = some none
  o_sa : findIn (kPT K 105) (.ref 52) "__setattr__" = some (some (.builtin "object.__setattr__"))
  o_over : plainOver (kPT K 105) 52 = true
  o_hasD : (clsIn (kPT K 105) 52).any (·.hasDict) = true
  o_mk : makesIn (kPT K 105) 52 = true
  o_keep : keepIn (kPT K 105) (.ref 52) = true
  o_lineno : findIn (kPT K 105) (.ref 52) "lineno" = some none
  o_instream : findIn (kPT K 105) (.ref 52) "instream" = some none
  o_whitespace : findIn (kPT K 105) (.ref 52) "whitespace" = some none
  o_pushback : findIn (kPT K 105) (.ref 52) "pushback" = some none
  o_read : findIn (kPT K 105) (.ref 52) "read" = some none
  f_init : findIn (kPT K 105) (.ref 52) "__init__" = some (some (.ref 28))
  t_init : typeIn (kPT K 105) (.ref 28) = some (.type "function")
  f_read_char : findIn (kPT K 105) (.ref 52) "_read_char" = some (some (.ref 35))
  t_read_char : typeIn (kPT K 105) (.ref 35) = some (.type "function")
  f_get_token : findIn (kPT K 105) (.ref 52) "get_token" = some (some (.ref 42))
  t_get_token : typeIn (kPT K 105) (.ref 42) = some (.type "function")
  f_push_token : findIn (kPT K 105) (.ref 52) "push_token" = some (some (.ref 49))
  t_push_token : typeIn (kPT K 105) (.ref 49) = some (.type "function")
  r_get : specialIn (kPT K 105) (.ref 35) "__get__" = some (some (.builtin "function.__get__"))
  r_tk : takesIn (kPT K 105) (.ref 35) = some false
  l_hd : codeHdIn K 109 105 = true
  l_bi : nsIn K mainGlobals "__builtins__" = some (some (.ref 4))
  l_nm : named K "__name__" = true
  l_cd : (fdOf (kPT K 105) 110).code = .ref 109
  l_q : (fdOf (kPT K 105) 110).qualname = "_law_tape"
  l_tab : K.lookup 105 = some (PySem.W.X.tableObj #[])
  sm : (K.lookup sysModules).isSome = true
noncomputable def obAll (K : Frag) := ((obF (kPT K 105) 28 2, obF (kPT K 105) 35 1, obF (kPT K 105) 42 1, obF (kPT K 105) 49 2, obF (kPT K 105) 63 1, nsIn K mainGlobals "S_IFMT", obF (kPT K 105) 103 1, nsIn K mainGlobals "filemode"), (obF (kPT K 105) 110 1, nsIn K mainGlobals "_law_tape", obF (kPT K 105) 117 1, nsIn K mainGlobals "_law_row", obF (kPT K 105) 124 2, nsIn K mainGlobals "_law_pieces", obF (kPT K 105) 129 3, nsIn K mainGlobals "_law_desks"), (obF (kPT K 105) 134 3, nsIn K mainGlobals "_law_greatest", obF (kPT K 105) 139 1, nsIn K mainGlobals "law", nsIn K mainGlobals "_netrclex", nsIn K mainGlobals "_filemode_table", rvChk (kPT K 105) 5 tableD (.ref 96), nsIn K mainGlobals "chr"), (nsIn K mainGlobals "enumerate", nsIn K mainGlobals "iter", nsIn K mainGlobals "len", nsIn K mainGlobals "list", nsIn K mainGlobals "max", nsIn K mainGlobals "range", nsIn K mainGlobals "sum", findIn (kPT K 105) (.ref 52) "__getattribute__"), (findIn (kPT K 105) (.ref 52) "__getattr__", findIn (kPT K 105) (.ref 52) "__setattr__", plainOver (kPT K 105) 52, (clsIn (kPT K 105) 52).any (·.hasDict), makesIn (kPT K 105) 52, keepIn (kPT K 105) (.ref 52), findIn (kPT K 105) (.ref 52) "lineno", findIn (kPT K 105) (.ref 52) "instream"), (findIn (kPT K 105) (.ref 52) "whitespace", findIn (kPT K 105) (.ref 52) "pushback", findIn (kPT K 105) (.ref 52) "read", findIn (kPT K 105) (.ref 52) "__init__", typeIn (kPT K 105) (.ref 28), findIn (kPT K 105) (.ref 52) "_read_char", typeIn (kPT K 105) (.ref 35), findIn (kPT K 105) (.ref 52) "get_token"), (typeIn (kPT K 105) (.ref 42), findIn (kPT K 105) (.ref 52) "push_token", typeIn (kPT K 105) (.ref 49), specialIn (kPT K 105) (.ref 35) "__get__", takesIn (kPT K 105) (.ref 35), codeHdIn K 109 105, nsIn K mainGlobals "__builtins__", named K "__name__"), ((fdOf (kPT K 105) 110).code, (fdOf (kPT K 105) 110).qualname, K.lookup 105, (K.lookup sysModules).isSome))
noncomputable abbrev tyOf {α : Type} (_ : Frag → α) : Type := α
noncomputable def exAll : tyOf obAll := ((exF (methAt PySem.Challenge.pw_ph0077_01 1 0) ["self", "fp"], exF (methAt PySem.Challenge.pw_ph0077_01 1 1) ["self"], exF (methAt PySem.Challenge.pw_ph0077_01 1 2) ["self"], exF (methAt PySem.Challenge.pw_ph0077_01 1 3) ["self", "token"], exF (topAt PySem.Challenge.pw_ph0077_01 3) ["mode"], some (some (.ref 63)), exF (topAt PySem.Challenge.pw_ph0077_01 24) ["mode"], some (some (.ref 103))), (exF (topAt PySem.Challenge.pw_ph0077_01 26) ["text"], some (some (.ref 110)), exF (topAt PySem.Challenge.pw_ph0077_01 27) ["mode"], some (some (.ref 117)), exF (topAt PySem.Challenge.pw_ph0077_01 28) ["words", "manners"], some (some (.ref 124)), exF (topAt PySem.Challenge.pw_ph0077_01 29) ["first", "words", "modes"], some (some (.ref 129))), (exF (topAt PySem.Challenge.pw_ph0077_01 30) ["counts", "i", "j"], some (some (.ref 134)), exF (topAt PySem.Challenge.pw_ph0077_01 31) ["script"], some (some (.ref 139)), some (some (.ref 52)), some (some (.ref 96)), true, some none), (some none, some none, some none, some none, some none, some none, some none, some (some (.builtin "object.__getattribute__"))), (some none, some (some (.builtin "object.__setattr__")), true, true, true, true, some none, some none), (some none, some none, some none, some (some (.ref 28)), some (.type "function"), some (some (.ref 35)), some (.type "function"), some (some (.ref 42))), (some (.type "function"), some (some (.ref 49)), some (.type "function"), some (some (.builtin "function.__get__")), some false, true, some (some (.ref 4)), true), (.ref 109, "_law_tape", some (PySem.W.X.tableObj #[]), true))
theorem kf_of {K : Frag} (y : obAll K = exAll) : KF K :=
  ⟨(Prod.mk.inj (Prod.mk.inj y).1).1, (Prod.mk.inj (Prod.mk.inj (Prod.mk.inj y).1).2).1, (Prod.mk.inj (Prod.mk.inj (Prod.mk.inj (Prod.mk.inj y).1).2).2).1, (Prod.mk.inj (Prod.mk.inj (Prod.mk.inj (Prod.mk.inj (Prod.mk.inj y).1).2).2).2).1, (Prod.mk.inj (Prod.mk.inj (Prod.mk.inj (Prod.mk.inj (Prod.mk.inj (Prod.mk.inj y).1).2).2).2).2).1, (Prod.mk.inj (Prod.mk.inj (Prod.mk.inj (Prod.mk.inj (Prod.mk.inj (Prod.mk.inj (Prod.mk.inj y).1).2).2).2).2).2).1, (Prod.mk.inj (Prod.mk.inj (Prod.mk.inj (Prod.mk.inj (Prod.mk.inj (Prod.mk.inj (Prod.mk.inj (Prod.mk.inj y).1).2).2).2).2).2).2).1, (Prod.mk.inj (Prod.mk.inj (Prod.mk.inj (Prod.mk.inj (Prod.mk.inj (Prod.mk.inj (Prod.mk.inj (Prod.mk.inj y).1).2).2).2).2).2).2).2, (Prod.mk.inj (Prod.mk.inj (Prod.mk.inj y).2).1).1, (Prod.mk.inj (Prod.mk.inj (Prod.mk.inj (Prod.mk.inj y).2).1).2).1, (Prod.mk.inj (Prod.mk.inj (Prod.mk.inj (Prod.mk.inj (Prod.mk.inj y).2).1).2).2).1, (Prod.mk.inj (Prod.mk.inj (Prod.mk.inj (Prod.mk.inj (Prod.mk.inj (Prod.mk.inj y).2).1).2).2).2).1, (Prod.mk.inj (Prod.mk.inj (Prod.mk.inj (Prod.mk.inj (Prod.mk.inj (Prod.mk.inj (Prod.mk.inj y).2).1).2).2).2).2).1, (Prod.mk.inj (Prod.mk.inj (Prod.mk.inj (Prod.mk.inj (Prod.mk.inj (Prod.mk.inj (Prod.mk.inj (Prod.mk.inj y).2).1).2).2).2).2).2).1, (Prod.mk.inj (Prod.mk.inj (Prod.mk.inj (Prod.mk.inj (Prod.mk.inj (Prod.mk.inj (Prod.mk.inj (Prod.mk.inj (Prod.mk.inj y).2).1).2).2).2).2).2).2).1, (Prod.mk.inj (Prod.mk.inj (Prod.mk.inj (Prod.mk.inj (Prod.mk.inj (Prod.mk.inj (Prod.mk.inj (Prod.mk.inj (Prod.mk.inj y).2).1).2).2).2).2).2).2).2, (Prod.mk.inj (Prod.mk.inj (Prod.mk.inj (Prod.mk.inj y).2).2).1).1, (Prod.mk.inj (Prod.mk.inj (Prod.mk.inj (Prod.mk.inj (Prod.mk.inj y).2).2).1).2).1, (Prod.mk.inj (Prod.mk.inj (Prod.mk.inj (Prod.mk.inj (Prod.mk.inj (Prod.mk.inj y).2).2).1).2).2).1, (Prod.mk.inj (Prod.mk.inj (Prod.mk.inj (Prod.mk.inj (Prod.mk.inj (Prod.mk.inj (Prod.mk.inj y).2).2).1).2).2).2).1, (Prod.mk.inj (Prod.mk.inj (Prod.mk.inj (Prod.mk.inj (Prod.mk.inj (Prod.mk.inj (Prod.mk.inj (Prod.mk.inj y).2).2).1).2).2).2).2).1, (Prod.mk.inj (Prod.mk.inj (Prod.mk.inj (Prod.mk.inj (Prod.mk.inj (Prod.mk.inj (Prod.mk.inj (Prod.mk.inj (Prod.mk.inj y).2).2).1).2).2).2).2).2).1, (Prod.mk.inj (Prod.mk.inj (Prod.mk.inj (Prod.mk.inj (Prod.mk.inj (Prod.mk.inj (Prod.mk.inj (Prod.mk.inj (Prod.mk.inj (Prod.mk.inj y).2).2).1).2).2).2).2).2).2).1, (Prod.mk.inj (Prod.mk.inj (Prod.mk.inj (Prod.mk.inj (Prod.mk.inj (Prod.mk.inj (Prod.mk.inj (Prod.mk.inj (Prod.mk.inj (Prod.mk.inj y).2).2).1).2).2).2).2).2).2).2, (Prod.mk.inj (Prod.mk.inj (Prod.mk.inj (Prod.mk.inj (Prod.mk.inj y).2).2).2).1).1, (Prod.mk.inj (Prod.mk.inj (Prod.mk.inj (Prod.mk.inj (Prod.mk.inj (Prod.mk.inj y).2).2).2).1).2).1, (Prod.mk.inj (Prod.mk.inj (Prod.mk.inj (Prod.mk.inj (Prod.mk.inj (Prod.mk.inj (Prod.mk.inj y).2).2).2).1).2).2).1, (Prod.mk.inj (Prod.mk.inj (Prod.mk.inj (Prod.mk.inj (Prod.mk.inj (Prod.mk.inj (Prod.mk.inj (Prod.mk.inj y).2).2).2).1).2).2).2).1, (Prod.mk.inj (Prod.mk.inj (Prod.mk.inj (Prod.mk.inj (Prod.mk.inj (Prod.mk.inj (Prod.mk.inj (Prod.mk.inj (Prod.mk.inj y).2).2).2).1).2).2).2).2).1, (Prod.mk.inj (Prod.mk.inj (Prod.mk.inj (Prod.mk.inj (Prod.mk.inj (Prod.mk.inj (Prod.mk.inj (Prod.mk.inj (Prod.mk.inj (Prod.mk.inj y).2).2).2).1).2).2).2).2).2).1, (Prod.mk.inj (Prod.mk.inj (Prod.mk.inj (Prod.mk.inj (Prod.mk.inj (Prod.mk.inj (Prod.mk.inj (Prod.mk.inj (Prod.mk.inj (Prod.mk.inj (Prod.mk.inj y).2).2).2).1).2).2).2).2).2).2).1, (Prod.mk.inj (Prod.mk.inj (Prod.mk.inj (Prod.mk.inj (Prod.mk.inj (Prod.mk.inj (Prod.mk.inj (Prod.mk.inj (Prod.mk.inj (Prod.mk.inj (Prod.mk.inj y).2).2).2).1).2).2).2).2).2).2).2, (Prod.mk.inj (Prod.mk.inj (Prod.mk.inj (Prod.mk.inj (Prod.mk.inj (Prod.mk.inj y).2).2).2).2).1).1, (Prod.mk.inj (Prod.mk.inj (Prod.mk.inj (Prod.mk.inj (Prod.mk.inj (Prod.mk.inj (Prod.mk.inj y).2).2).2).2).1).2).1, (Prod.mk.inj (Prod.mk.inj (Prod.mk.inj (Prod.mk.inj (Prod.mk.inj (Prod.mk.inj (Prod.mk.inj (Prod.mk.inj y).2).2).2).2).1).2).2).1, (Prod.mk.inj (Prod.mk.inj (Prod.mk.inj (Prod.mk.inj (Prod.mk.inj (Prod.mk.inj (Prod.mk.inj (Prod.mk.inj (Prod.mk.inj y).2).2).2).2).1).2).2).2).1, (Prod.mk.inj (Prod.mk.inj (Prod.mk.inj (Prod.mk.inj (Prod.mk.inj (Prod.mk.inj (Prod.mk.inj (Prod.mk.inj (Prod.mk.inj (Prod.mk.inj y).2).2).2).2).1).2).2).2).2).1, (Prod.mk.inj (Prod.mk.inj (Prod.mk.inj (Prod.mk.inj (Prod.mk.inj (Prod.mk.inj (Prod.mk.inj (Prod.mk.inj (Prod.mk.inj (Prod.mk.inj (Prod.mk.inj y).2).2).2).2).1).2).2).2).2).2).1, (Prod.mk.inj (Prod.mk.inj (Prod.mk.inj (Prod.mk.inj (Prod.mk.inj (Prod.mk.inj (Prod.mk.inj (Prod.mk.inj (Prod.mk.inj (Prod.mk.inj (Prod.mk.inj (Prod.mk.inj y).2).2).2).2).1).2).2).2).2).2).2).1, (Prod.mk.inj (Prod.mk.inj (Prod.mk.inj (Prod.mk.inj (Prod.mk.inj (Prod.mk.inj (Prod.mk.inj (Prod.mk.inj (Prod.mk.inj (Prod.mk.inj (Prod.mk.inj (Prod.mk.inj y).2).2).2).2).1).2).2).2).2).2).2).2, (Prod.mk.inj (Prod.mk.inj (Prod.mk.inj (Prod.mk.inj (Prod.mk.inj (Prod.mk.inj (Prod.mk.inj y).2).2).2).2).2).1).1, (Prod.mk.inj (Prod.mk.inj (Prod.mk.inj (Prod.mk.inj (Prod.mk.inj (Prod.mk.inj (Prod.mk.inj (Prod.mk.inj y).2).2).2).2).2).1).2).1, (Prod.mk.inj (Prod.mk.inj (Prod.mk.inj (Prod.mk.inj (Prod.mk.inj (Prod.mk.inj (Prod.mk.inj (Prod.mk.inj (Prod.mk.inj y).2).2).2).2).2).1).2).2).1, (Prod.mk.inj (Prod.mk.inj (Prod.mk.inj (Prod.mk.inj (Prod.mk.inj (Prod.mk.inj (Prod.mk.inj (Prod.mk.inj (Prod.mk.inj (Prod.mk.inj y).2).2).2).2).2).1).2).2).2).1, (Prod.mk.inj (Prod.mk.inj (Prod.mk.inj (Prod.mk.inj (Prod.mk.inj (Prod.mk.inj (Prod.mk.inj (Prod.mk.inj (Prod.mk.inj (Prod.mk.inj (Prod.mk.inj y).2).2).2).2).2).1).2).2).2).2).1, (Prod.mk.inj (Prod.mk.inj (Prod.mk.inj (Prod.mk.inj (Prod.mk.inj (Prod.mk.inj (Prod.mk.inj (Prod.mk.inj (Prod.mk.inj (Prod.mk.inj (Prod.mk.inj (Prod.mk.inj y).2).2).2).2).2).1).2).2).2).2).2).1, (Prod.mk.inj (Prod.mk.inj (Prod.mk.inj (Prod.mk.inj (Prod.mk.inj (Prod.mk.inj (Prod.mk.inj (Prod.mk.inj (Prod.mk.inj (Prod.mk.inj (Prod.mk.inj (Prod.mk.inj (Prod.mk.inj y).2).2).2).2).2).1).2).2).2).2).2).2).1, (Prod.mk.inj (Prod.mk.inj (Prod.mk.inj (Prod.mk.inj (Prod.mk.inj (Prod.mk.inj (Prod.mk.inj (Prod.mk.inj (Prod.mk.inj (Prod.mk.inj (Prod.mk.inj (Prod.mk.inj (Prod.mk.inj y).2).2).2).2).2).1).2).2).2).2).2).2).2, (Prod.mk.inj (Prod.mk.inj (Prod.mk.inj (Prod.mk.inj (Prod.mk.inj (Prod.mk.inj (Prod.mk.inj (Prod.mk.inj y).2).2).2).2).2).2).1).1, (Prod.mk.inj (Prod.mk.inj (Prod.mk.inj (Prod.mk.inj (Prod.mk.inj (Prod.mk.inj (Prod.mk.inj (Prod.mk.inj (Prod.mk.inj y).2).2).2).2).2).2).1).2).1, (Prod.mk.inj (Prod.mk.inj (Prod.mk.inj (Prod.mk.inj (Prod.mk.inj (Prod.mk.inj (Prod.mk.inj (Prod.mk.inj (Prod.mk.inj (Prod.mk.inj y).2).2).2).2).2).2).1).2).2).1, (Prod.mk.inj (Prod.mk.inj (Prod.mk.inj (Prod.mk.inj (Prod.mk.inj (Prod.mk.inj (Prod.mk.inj (Prod.mk.inj (Prod.mk.inj (Prod.mk.inj (Prod.mk.inj y).2).2).2).2).2).2).1).2).2).2).1, (Prod.mk.inj (Prod.mk.inj (Prod.mk.inj (Prod.mk.inj (Prod.mk.inj (Prod.mk.inj (Prod.mk.inj (Prod.mk.inj (Prod.mk.inj (Prod.mk.inj (Prod.mk.inj (Prod.mk.inj y).2).2).2).2).2).2).1).2).2).2).2).1, (Prod.mk.inj (Prod.mk.inj (Prod.mk.inj (Prod.mk.inj (Prod.mk.inj (Prod.mk.inj (Prod.mk.inj (Prod.mk.inj (Prod.mk.inj (Prod.mk.inj (Prod.mk.inj (Prod.mk.inj (Prod.mk.inj y).2).2).2).2).2).2).1).2).2).2).2).2).1, (Prod.mk.inj (Prod.mk.inj (Prod.mk.inj (Prod.mk.inj (Prod.mk.inj (Prod.mk.inj (Prod.mk.inj (Prod.mk.inj (Prod.mk.inj (Prod.mk.inj (Prod.mk.inj (Prod.mk.inj (Prod.mk.inj (Prod.mk.inj y).2).2).2).2).2).2).1).2).2).2).2).2).2).1, (Prod.mk.inj (Prod.mk.inj (Prod.mk.inj (Prod.mk.inj (Prod.mk.inj (Prod.mk.inj (Prod.mk.inj (Prod.mk.inj (Prod.mk.inj (Prod.mk.inj (Prod.mk.inj (Prod.mk.inj (Prod.mk.inj (Prod.mk.inj y).2).2).2).2).2).2).1).2).2).2).2).2).2).2, (Prod.mk.inj (Prod.mk.inj (Prod.mk.inj (Prod.mk.inj (Prod.mk.inj (Prod.mk.inj (Prod.mk.inj (Prod.mk.inj y).2).2).2).2).2).2).2).1, (Prod.mk.inj (Prod.mk.inj (Prod.mk.inj (Prod.mk.inj (Prod.mk.inj (Prod.mk.inj (Prod.mk.inj (Prod.mk.inj (Prod.mk.inj y).2).2).2).2).2).2).2).2).1, (Prod.mk.inj (Prod.mk.inj (Prod.mk.inj (Prod.mk.inj (Prod.mk.inj (Prod.mk.inj (Prod.mk.inj (Prod.mk.inj (Prod.mk.inj (Prod.mk.inj y).2).2).2).2).2).2).2).2).2).1, (Prod.mk.inj (Prod.mk.inj (Prod.mk.inj (Prod.mk.inj (Prod.mk.inj (Prod.mk.inj (Prod.mk.inj (Prod.mk.inj (Prod.mk.inj (Prod.mk.inj y).2).2).2).2).2).2).2).2).2).2⟩

theorem the_ct {w : World} {h : Heap} {mg mb : Str → Option Value} {p : Program} {loose : List Str} {mean : ExcName → Option Value} {K : Frag} (KX : K.In h) (Tp : Top p loose mean mg mb h) (k : KF K) :
    Ct (mkX PySem.Challenge.pw_ph0077_01 w h 105 mg mb "_law_tape.<locals>.<lambda>" lamX 35) 10 (.ref 139) (G_law 52) := by
  generalize hX : (mkX PySem.Challenge.pw_ph0077_01 w h 105 mg mb "_law_tape.<locals>.<lambda>" lamX 35) = X
  have kn : Kn X (kPT K 105) := by rw [← hX]; exact kn_of KX
  have T : TopOk X := by rw [← hX]; exact topOk_of KX Tp.g Tp.b Tp.nolimit (by decide) (by decide) (by decide) k.sm
  have mgX : X.mg = mg := by rw [← hX]; rfl
  have rcX : X.rc = 35 := by rw [← hX]; rfl
  have fr : ∀ y ∈ lexNs, findIn (kPT K 105) (.ref 52) y = some none := by
    intro y hy; simp only [lexNs, List.mem_cons, List.not_mem_nil, or_false] at hy
    rcases hy with rfl | rfl | rfl | rfl | rfl
    · exact k.o_lineno
    · exact k.o_instream
    · exact k.o_whitespace
    · exact k.o_pushback
    · exact k.o_read
  have ok : ClsOk X (kPT K 105) 52 lexNs := ⟨kn, k.o_ga, k.o_gt, k.o_sa, k.o_over, k.o_hasD, fr, by decide⟩
  have b_chr : Blt X "chr" (.builtin "chr") := by rw [← hX]; exact blt_of KX Tp k.z_chr (by decide +kernel) (by kernel_rfl)
  have b_enumerate : Blt X "enumerate" (.type "enumerate") := by rw [← hX]; exact blt_of KX Tp k.z_enumerate (by decide +kernel) (by kernel_rfl)
  have b_iter : Blt X "iter" (.builtin "iter") := by rw [← hX]; exact blt_of KX Tp k.z_iter (by decide +kernel) (by kernel_rfl)
  have b_len : Blt X "len" (.builtin "len") := by rw [← hX]; exact blt_of KX Tp k.z_len (by decide +kernel) (by kernel_rfl)
  have b_list : Blt X "list" (.type "list") := by rw [← hX]; exact blt_of KX Tp k.z_list (by decide +kernel) (by kernel_rfl)
  have b_max : Blt X "max" (.builtin "max") := by rw [← hX]; exact blt_of KX Tp k.z_max (by decide +kernel) (by kernel_rfl)
  have b_range : Blt X "range" (.type "range") := by rw [← hX]; exact blt_of KX Tp k.z_range (by decide +kernel) (by kernel_rfl)
  have b_sum : Blt X "sum" (.builtin "sum") := by rw [← hX]; exact blt_of KX Tp k.z_sum (by decide +kernel) (by kernel_rfl)
  have m_table : X.mg "_filemode_table" = some (.ref 96) := by rw [mgX]; exact mg_of KX Tp.g k.m_table
  have r_table : RV ⟨X.Z0, []⟩ tableD (.ref 96) := rvChk_ok (K := (kPT K 105)) (fun a o q => by rw [← hX]; obtain ⟨q1, q2⟩ := lookup_filter q; show (if a = 105 then none else h.get? a) = some o; rw [if_neg q2]; exact KX _ _ q1) 5 _ _ k.r_table
  have li0 : ∀ x ∈ (lamSc lamX).names, x.2 ≠ NameKind.cell := by decide +kernel
  have li : LamIs X "count" := by rw [← hX]; exact ⟨⟨_, _, _, _, _, _, _, _, _, _, _, _, _, _, _, _, rfl, rfl⟩, rfl, rfl, rfl, li0, rfl, rfl, (by decide +kernel : ("left" : Str) ≠ "count"), (by decide +kernel : (("count" : Str) == ("__debug__" : Str)) = false), (by decide +kernel : (("count" : Str) == ("__classdict__" : Str)) = false), (by decide +kernel : (("left" : Str) == ("__debug__" : Str)) = false), (by decide +kernel : (("left" : Str) == ("__classdict__" : Str)) = false), fun _ _ _ _ _ => rfl⟩
  have lt : LamTop X 109 := by rw [← hX]; obtain ⟨v, hv⟩ := named_of k.l_nm; exact lamTop_of KX Tp k.l_hd k.l_bi (by decide) hv
  have lo : LamOf X lamX := by rw [← hX]; exact ⟨rfl, rfl, rfl, rfl, rfl, rfl⟩
  have lqX : X.lq = "_law_tape.<locals>.<lambda>" := by rw [← hX]; rfl
  have it : IterOk X (kPT K 105) 52 := ⟨by rw [rcX]; exact k.f_read_char, by rw [rcX]; exact k.t_read_char, by rw [rcX]; exact k.r_get, by rw [rcX]; exact k.r_tk, by decide +kernel, by decide +kernel⟩
  have F_init : FunAt X 28 (fdOf (kPT K 105) 28) (scopeOf (methAt PySem.Challenge.pw_ph0077_01 1 0)) (bodyOf (methAt PySem.Challenge.pw_ph0077_01 1 0)) ["self", "fp"] := funAt_ob kn k.e_init (by decide)
  have S_init : FnScope (scopeOf (methAt PySem.Challenge.pw_ph0077_01 1 0)) ["self", "fp"] ["self", "fp"] := fn_of (by decide +kernel)
  have k_init : ∀ W, Cal X W (.ref 28) := fun _ => F_init.cal
  have h_init := (sb_init (n := 0) T (K := (kPT K 105)) (ok := ok))
  have c_netrclex : Ct X 2 (.ref 52) (gNew 52 lexNs (G_init 52)) := ct_class T ok k.o_mk k.f_init k.t_init F_init S_init h_init.toF
  have m_netrclex : X.mg "_netrclex" = some (.ref 52) := by rw [mgX]; exact mg_of KX Tp.g k.m_netrclex
  have k_netrclex : ∀ W, Cal X W (.ref 52) := Cal.cls kn k.o_keep
  have F_read_char : FunAt X 35 (fdOf (kPT K 105) 35) (scopeOf (methAt PySem.Challenge.pw_ph0077_01 1 1)) (bodyOf (methAt PySem.Challenge.pw_ph0077_01 1 1)) ["self"] := funAt_ob kn k.e_read_char (by decide)
  have S_read_char : FnScope (scopeOf (methAt PySem.Challenge.pw_ph0077_01 1 1)) ["self", "ch"] ["self"] := fn_of (by decide +kernel)
  have k_read_char : ∀ W, Cal X W (.ref 35) := fun _ => F_read_char.cal
  have h'_read_char := sb_read_char (n := 0) T (K := (kPT K 105)) (ok := ok) (li := li)
  have c_read_char : Ct X 2 (.ref 35) (G_read_char 52) := ct_def T F_read_char S_read_char h'_read_char.toF
  have cc_rc : Cc X 2 (.ref 35) (G_read_char 52) := cc_def T F_read_char S_read_char h'_read_char.toF
  obtain ⟨orc, q1, q2⟩ := fn_obj (K := (kPT K 105)) (a := 35) (Prod.mk.inj k.e_read_char).1
  have rcok : RcOk X 2 (G_read_char 52) orc (fdOf (kPT K 105) 35) := ⟨by rw [rcX]; exact cc_rc, by rw [rcX]; exact (kn _ _ q1).1, by rw [rcX]; exact (kn _ _ q1).2, q2⟩
  have F_get_token : FunAt X 42 (fdOf (kPT K 105) 42) (scopeOf (methAt PySem.Challenge.pw_ph0077_01 1 2)) (bodyOf (methAt PySem.Challenge.pw_ph0077_01 1 2)) ["self"] := funAt_ob kn k.e_get_token (by decide)
  have S_get_token : FnScope (scopeOf (methAt PySem.Challenge.pw_ph0077_01 1 2)) ["self", "token", "fiter", "ch"] ["self"] := fn_of (by decide +kernel)
  have k_get_token : ∀ W, Cal X W (.ref 42) := fun _ => F_get_token.cal
  have h'_get_token := sb_get_token (n := 2) T (K := (kPT K 105)) (ok := ok) (h_read_char := mt_method ok k.f_read_char k.t_read_char (by decide +kernel) (c_read_char.mono (by decide)) k_read_char) (rc := rcok) (b_iter := b_iter) (it := it)
  have c_get_token : Ct X 4 (.ref 42) (G_get_token 52) := ct_def T F_get_token S_get_token h'_get_token.toF
  have F_push_token : FunAt X 49 (fdOf (kPT K 105) 49) (scopeOf (methAt PySem.Challenge.pw_ph0077_01 1 3)) (bodyOf (methAt PySem.Challenge.pw_ph0077_01 1 3)) ["self", "token"] := funAt_ob kn k.e_push_token (by decide)
  have S_push_token : FnScope (scopeOf (methAt PySem.Challenge.pw_ph0077_01 1 3)) ["self", "token"] ["self", "token"] := fn_of (by decide +kernel)
  have k_push_token : ∀ W, Cal X W (.ref 49) := fun _ => F_push_token.cal
  have h'_push_token := sb_push_token (n := 0) T (K := (kPT K 105)) (ok := ok)
  have c_push_token : Ct X 1 (.ref 49) (G_push_token 52) := ct_def T F_push_token S_push_token h'_push_token.toF
  have F_S_IFMT : FunAt X 63 (fdOf (kPT K 105) 63) (scopeOf (topAt PySem.Challenge.pw_ph0077_01 3)) (bodyOf (topAt PySem.Challenge.pw_ph0077_01 3)) ["mode"] := funAt_ob kn k.e_S_IFMT (by decide)
  have S_S_IFMT : FnScope (scopeOf (topAt PySem.Challenge.pw_ph0077_01 3)) ["mode"] ["mode"] := fn_of (by decide +kernel)
  have m_S_IFMT : X.mg "S_IFMT" = some (.ref 63) := by rw [mgX]; exact mg_of KX Tp.g k.m_S_IFMT
  have k_S_IFMT : ∀ W, Cal X W (.ref 63) := fun _ => F_S_IFMT.cal
  have h'_S_IFMT := sb_S_IFMT (n := 0) T 
  have c_S_IFMT : Ct X 1 (.ref 63) G_S_IFMT := ct_def T F_S_IFMT S_S_IFMT h'_S_IFMT.toF
  have F_filemode : FunAt X 103 (fdOf (kPT K 105) 103) (scopeOf (topAt PySem.Challenge.pw_ph0077_01 24)) (bodyOf (topAt PySem.Challenge.pw_ph0077_01 24)) ["mode"] := funAt_ob kn k.e_filemode (by decide)
  have S_filemode : FnScope (scopeOf (topAt PySem.Challenge.pw_ph0077_01 24)) ["mode", "perm", "index", "table", "bit", "char"] ["mode"] := fn_of (by decide +kernel)
  have m_filemode : X.mg "filemode" = some (.ref 103) := by rw [mgX]; exact mg_of KX Tp.g k.m_filemode
  have k_filemode : ∀ W, Cal X W (.ref 103) := fun _ => F_filemode.cal
  have h'_filemode := sb_filemode (n := 1) T (m_S_IFMT := m_S_IFMT) (k_S_IFMT := k_S_IFMT) (c_S_IFMT := c_S_IFMT.mono (by decide)) (b_enumerate := b_enumerate) (m_table := m_table) (r_table := r_table)
  have c_filemode : Ct X 2 (.ref 103) G_filemode := ct_def T F_filemode S_filemode h'_filemode.toF
  have F_law_tape : FunAt X 110 (fdOf (kPT K 105) 110) (scopeOf (topAt PySem.Challenge.pw_ph0077_01 26)) (bodyOf (topAt PySem.Challenge.pw_ph0077_01 26)) ["text"] := funAt_ob kn k.e_law_tape (by decide)
  have S_law_tape : FnScope (scopeOf (topAt PySem.Challenge.pw_ph0077_01 26)) ["text", "tape", "left"] ["text"] := fn_of (by decide +kernel)
  have m_law_tape : X.mg "_law_tape" = some (.ref 110) := by rw [mgX]; exact mg_of KX Tp.g k.m_law_tape
  have k_law_tape : ∀ W, Cal X W (.ref 110) := fun _ => F_law_tape.cal
  have l_cd : (fdOf (kPT K 105) 110).code = .ref 109 := k.l_cd
  have l_q : (fdOf (kPT K 105) 110).qualname = "_law_tape" := k.l_q
  have h'_law_tape := sb_law_tape (n := 2) T (K := (kPT K 105)) (b_list := b_list) (m_netrclex := m_netrclex) (k_netrclex := k_netrclex) (c_netrclex := c_netrclex.mono (by decide)) (ok := ok) (lt := lt) (lo := lo) (hcode := l_cd) (hqual := by rw [lqX, l_q]; decide +kernel)
  have c_law_tape : Ct X 3 (.ref 110) (G_law_tape 52) := ct_def T F_law_tape S_law_tape h'_law_tape
  have F_law_row : FunAt X 117 (fdOf (kPT K 105) 117) (scopeOf (topAt PySem.Challenge.pw_ph0077_01 27)) (bodyOf (topAt PySem.Challenge.pw_ph0077_01 27)) ["mode"] := funAt_ob kn k.e_law_row (by decide)
  have S_law_row : FnScope (scopeOf (topAt PySem.Challenge.pw_ph0077_01 27)) ["mode", "signs", "j", "figure", "above"] ["mode"] := fn_of (by decide +kernel)
  have m_law_row : X.mg "_law_row" = some (.ref 117) := by rw [mgX]; exact mg_of KX Tp.g k.m_law_row
  have k_law_row : ∀ W, Cal X W (.ref 117) := fun _ => F_law_row.cal
  have h'_law_row := sb_law_row (n := 0) T (b_range := b_range)
  have c_law_row : Ct X 1 (.ref 117) G_law_row := ct_def T F_law_row S_law_row h'_law_row.toF
  have F_law_pieces : FunAt X 124 (fdOf (kPT K 105) 124) (scopeOf (topAt PySem.Challenge.pw_ph0077_01 28)) (bodyOf (topAt PySem.Challenge.pw_ph0077_01 28)) ["words", "manners"] := funAt_ob kn k.e_law_pieces (by decide)
  have S_law_pieces : FnScope (scopeOf (topAt PySem.Challenge.pw_ph0077_01 28)) ["words", "manners", "pieces", "n", "quoted", "way", "signs", "k", "sign", "apart"] ["words", "manners"] := fn_of (by decide +kernel)
  have m_law_pieces : X.mg "_law_pieces" = some (.ref 124) := by rw [mgX]; exact mg_of KX Tp.g k.m_law_pieces
  have k_law_pieces : ∀ W, Cal X W (.ref 124) := fun _ => F_law_pieces.cal
  have h'_law_pieces := sb_law_pieces (n := 0) T (b_range := b_range)
  have c_law_pieces : Ct X 1 (.ref 124) G_law_pieces := ct_def T F_law_pieces S_law_pieces h'_law_pieces.toF
  have F_law_desks : FunAt X 129 (fdOf (kPT K 105) 129) (scopeOf (topAt PySem.Challenge.pw_ph0077_01 29)) (bodyOf (topAt PySem.Challenge.pw_ph0077_01 29)) ["first", "words", "modes"] := funAt_ob kn k.e_law_desks (by decide)
  have S_law_desks : FnScope (scopeOf (topAt PySem.Challenge.pw_ph0077_01 29)) ["first", "words", "modes", "known", "n", "lines", "held", "gone", "marks", "tick", "j", "word", "figure", "lowest", "mode", "sign"] ["first", "words", "modes"] := fn_of (by decide +kernel)
  have m_law_desks : X.mg "_law_desks" = some (.ref 129) := by rw [mgX]; exact mg_of KX Tp.g k.m_law_desks
  have k_law_desks : ∀ W, Cal X W (.ref 129) := fun _ => F_law_desks.cal
  have h'_law_desks := sb_law_desks (n := 4) T (K := (kPT K 105)) (b_len := b_len) (ok := ok) (b_list := b_list) (h_get_token := mt_method ok k.f_get_token k.t_get_token (by decide +kernel) (c_get_token.mono (by decide)) k_get_token) (h_push_token := mt_method ok k.f_push_token k.t_push_token (by decide +kernel) (c_push_token.mono (by decide)) k_push_token) (m_filemode := m_filemode) (k_filemode := k_filemode) (c_filemode := c_filemode.mono (by decide)) (b_range := b_range) (m_netrclex := m_netrclex) (k_netrclex := k_netrclex) (c_netrclex := c_netrclex.mono (by decide)) (m_law_tape := m_law_tape) (k_law_tape := k_law_tape) (c_law_tape := c_law_tape.mono (by decide))
  have c_law_desks : Ct X 5 (.ref 129) (G_law_desks 52) := ct_def T F_law_desks S_law_desks h'_law_desks.toF
  have F_law_greatest : FunAt X 134 (fdOf (kPT K 105) 134) (scopeOf (topAt PySem.Challenge.pw_ph0077_01 30)) (bodyOf (topAt PySem.Challenge.pw_ph0077_01 30)) ["counts", "i", "j"] := funAt_ob kn k.e_law_greatest (by decide)
  have S_law_greatest : FnScope (scopeOf (topAt PySem.Challenge.pw_ph0077_01 30)) ["counts", "i", "j", "ways", "m", "sums", "past", "ends", "cut", "k"] ["counts", "i", "j"] := fn_of (by decide +kernel)
  have m_law_greatest : X.mg "_law_greatest" = some (.ref 134) := by rw [mgX]; exact mg_of KX Tp.g k.m_law_greatest
  have k_law_greatest : ∀ W, Cal X W (.ref 134) := fun _ => F_law_greatest.cal
  have h'_law_greatest := sb_law_greatest (n := 0) T (b_max := b_max) (b_sum := b_sum) (b_range := b_range)
  have c_law_greatest : Ct X 1 (.ref 134) G_law_greatest := ct_def T F_law_greatest S_law_greatest h'_law_greatest.toF
  have F_law : FunAt X 139 (fdOf (kPT K 105) 139) (scopeOf (topAt PySem.Challenge.pw_ph0077_01 31)) (bodyOf (topAt PySem.Challenge.pw_ph0077_01 31)) ["script"] := funAt_ob kn k.e_law (by decide)
  have S_law : FnScope (scopeOf (topAt PySem.Challenge.pw_ph0077_01 31)) ["script", "shifts", "given", "spelled", "shown", "named", "tokens", "parts", "told", "rights", "bare", "due", "seen", "hour", "over", "rest", "at", "each", "spell", "desk", "pair"] ["script"] := fn_of (by decide +kernel)
  have m_law : X.mg "law" = some (.ref 139) := by rw [mgX]; exact mg_of KX Tp.g k.m_law
  have k_law : ∀ W, Cal X W (.ref 139) := fun _ => F_law.cal
  have h'_law := sb_law (n := 6) T (K := (kPT K 105)) (b_len := b_len) (b_range := b_range) (m_law_greatest := m_law_greatest) (k_law_greatest := k_law_greatest) (c_law_greatest := c_law_greatest.mono (by decide)) (m_law_row := m_law_row) (k_law_row := k_law_row) (c_law_row := c_law_row.mono (by decide)) (m_law_desks := m_law_desks) (k_law_desks := k_law_desks) (c_law_desks := c_law_desks.mono (by decide)) (m_netrclex := m_netrclex) (k_netrclex := k_netrclex) (c_netrclex := c_netrclex.mono (by decide)) (m_law_tape := m_law_tape) (k_law_tape := k_law_tape) (c_law_tape := c_law_tape.mono (by decide)) (m_law_pieces := m_law_pieces) (k_law_pieces := k_law_pieces) (c_law_pieces := c_law_pieces.mono (by decide)) (b_chr := b_chr) (m_filemode := m_filemode) (k_filemode := k_filemode) (c_filemode := c_filemode.mono (by decide)) (b_sum := b_sum)
  have c_law : Ct X 7 (.ref 139) (G_law 52) := ct_def T F_law S_law h'_law.toF
  exact c_law.mono (by decide)

end Mine
open PySem PySem.W PyProof.Rows
set_option maxRecDepth 100000
namespace Mine
/-! evaluation, step by step -/
section
variable {vs vs1 : Vs} {H H1 H2 H3 H4 : Hp} {p q : XE} {ps : List XE} {c : XB} {f : D → D → Hp → Option D} {a b d : D} {ds : List D} {i : Nat} {r : Option (D × Hp)}
theorem e_var (h : vs[i]? = some (some d)) : xVar i vs H = some (d, H) := by unfold xVar; rw [h]
theorem e_lit : xLit d vs H = some (d, H) := rfl
theorem e_skip : xSkip vs H = some (.next, vs, H) := rfl
theorem e_op (h1 : p vs H = some (a, H1)) (h2 : q vs H1 = some (b, H2)) (h3 : f a b H2 = some d) : xOp2 f p q vs H = some (d, H2) := by unfold xOp2; rw [h1, Option.bind_some, h2, Option.bind_some, h3]; rfl
theorem e_test {t : Bool} (h1 : p vs H = some (a, H1)) (h2 : q vs H1 = some (b, H2)) (h3 : f a b H2 = some (.bool t)) : xTest f p q vs H = some (t, H2) := by unfold xTest; rw [e_op h1 h2 h3]; rfl
theorem e_nil : xAll [] vs H = some ([], H) := rfl
theorem e_cons (h1 : p vs H = some (d, H1)) (h2 : xAll ps vs H1 = some (ds, H2)) : xAll (p :: ps) vs H = some (d :: ds, H2) := by unfold xAll; rw [h1, Option.bind_some, h2]; rfl
theorem e_call {G : List D → Hp → Option (D × Hp)} (h1 : xAll ps vs H = some (ds, H1)) (h2 : G ds H1 = r) : xCall G ps vs H = r := by unfold xCall; rw [h1]; exact h2
theorem e_meth {ok : D → Hp → Bool} {G : D → List D → Hp → Option (D × Hp)} (h1 : p vs H = some (a, H1)) (h2 : ok a H1 = true) (h3 : xAll ps vs H1 = some (ds, H2)) (h4 : G a ds H2 = r) : xMeth ok G p ps vs H = r := by unfold xMeth; rw [h1, Option.bind_some, if_pos h2, h3]; exact h4
theorem e_lst (h1 : xAll ps vs H = some (ds, H1)) (h2 : okLen ds = true) : xLst ps vs H = some (.lst ds, H1) := by unfold xLst; rw [h1, Option.bind_some, if_pos h2]
theorem e_tup (h1 : xAll ps vs H = some (ds, H1)) (h2 : okLen ds = true) : xTup ps vs H = some (.tup ds, H1) := by unfold xTup; rw [h1, Option.bind_some, if_pos h2]
theorem e_new (h1 : xAll ps vs H = some (ds, H1)) (h2 : okLen ds = true) : xNew ps vs H = some (.own H1.length, H1 ++ [.list ds]) := by unfold xNew; rw [h1, Option.bind_some, if_pos h2]
theorem e_tru {g : D → Hp → Option Bool} {t : Bool} (h1 : p vs H = some (a, H1)) (h2 : g a H1 = some t) : xTru g p vs H = some (t, H1) := by unfold xTru; rw [h1, Option.bind_some, h2]; rfl
theorem e_ift {α : Type} {u v : Vs → Hp → Option (α × Hp)} {x : Option (α × Hp)} (h1 : c vs H = some (true, H1)) (h2 : u vs H1 = x) : xIf c u v vs H = x := by unfold xIf; rw [h1]; exact h2
theorem e_iff {α : Type} {u v : Vs → Hp → Option (α × Hp)} {x : Option (α × Hp)} (h1 : c vs H = some (false, H1)) (h2 : v vs H1 = x) : xIf c u v vs H = x := by unfold xIf; rw [h1]; exact h2
theorem e_andt (h1 : p vs H = some (.bool true, H1)) (h2 : q vs H1 = r) : xAndV p q vs H = r := by unfold xAndV; rw [h1]; exact h2
theorem e_andf (h1 : p vs H = some (.bool false, H1)) : xAndV p q vs H = some (.bool false, H1) := by unfold xAndV; rw [h1]; rfl
theorem e_ort (h1 : p vs H = some (.bool true, H1)) : xOrV p q vs H = some (.bool true, H1) := by unfold xOrV; rw [h1]; rfl
theorem e_orf (h1 : p vs H = some (.bool false, H1)) (h2 : q vs H1 = r) : xOrV p q vs H = r := by unfold xOrV; rw [h1]; exact h2
theorem e_orB {t u : Bool} (h1 : p vs H = some (.bool t, H)) (h2 : q vs H = some (.bool u, H)) : xOrV p q vs H = some (.bool (t || u), H) := match t, h1 with
  | true, h1 => e_ort h1
  | false, h1 => e_orf h1 h2
theorem e_andB {t u : Bool} (h1 : p vs H = some (.bool t, H)) (h2 : q vs H = some (.bool u, H)) : xAndV p q vs H = some (.bool (t && u), H) := match t, h1 with
  | true, h1 => e_andt h1 h2
  | false, h1 => e_andf h1
theorem e_orT {c2 : XB} {t u : Bool} (h1 : c vs H = some (t, H)) (h2 : c2 vs H = some (u, H)) : xIf c xTT c2 vs H = some (t || u, H) := match t, h1 with
  | true, h1 => e_ift h1 rfl
  | false, h1 => e_iff h1 h2
theorem e_andT {c2 : XB} {t u : Bool} (h1 : c vs H = some (t, H)) (h2 : c2 vs H = some (u, H)) : xIf c c2 xFF vs H = some (t && u, H) := match t, h1 with
  | true, h1 => e_ift h1 h2
  | false, h1 => e_iff h1 rfl
theorem e_pn : xPart none vs H = some (none, H) := rfl
theorem e_ps {n : Int} (h : q vs H = some (.int n, H1)) : xPart (some q) vs H = some (some n, H1) := by show (q vs H).bind _ = _; rw [h]; rfl
theorem e_slice {l h s : Option XE} {x y z : Option Int} (h0 : p vs H = some (a, H1)) (h1 : xPart l vs H1 = some (x, H2)) (h2 : xPart h vs H2 = some (y, H3)) (h3 : xPart s vs H3 = some (z, H4)) (h4 : fSlice a x y z H4 = some d) : xSlice p l h s vs H = some (d, H4) := by
  unfold xSlice; rw [h0, Option.bind_some, h1, Option.bind_some, h2, Option.bind_some, h3, Option.bind_some, h4]; rfl
theorem e_it {ds : List D} (h1 : p vs H = some (a, H1)) (h2 : itemsOf a = some ds) : xIt p vs H = some (ds, H1) := by unfold xIt; rw [h1, Option.bind_some, h2]; rfl
variable {s t : XS} {x : Option (Fl × Vs × Hp)}
theorem e_seq (h1 : s vs H = some (.next, vs1, H1)) (h2 : t vs1 H1 = x) : xSeq s t vs H = x := by unfold xSeq; rw [h1]; exact h2
theorem e_fin (h1 : s vs H = some (.next, vs1, H1)) : xSeq s xSkip vs H = some (.next, vs1, H1) := e_seq h1 rfl
theorem e_asg (h : p vs H = some (d, H1)) : xAssign i p vs H = some (.next, vs.set i (some d), H1) := by unfold xAssign; rw [h]; rfl
theorem e_aug (h1 : vs[i]? = some (some a)) (h2 : p vs H = some (b, H1)) (h3 : f a b H1 = some d) : xAug i f p vs H = some (.next, vs.set i (some d), H1) := e_asg (e_op (e_var h1) h2 h3)
theorem e_ret (h : p vs H = some (d, H1)) : xRet p vs H = some (.ret d, vs, H1) := by unfold xRet; rw [h]; rfl
theorem e_retS (h : p vs H = some (d, H1)) : xSeq (xRet p) s vs H = some (.ret d, vs, H1) := by unfold xSeq; rw [e_ret h]; rfl
theorem e_seqR (h : s vs H = some (.ret d, vs1, H1)) : xSeq s t vs H = some (.ret d, vs1, H1) := by unfold xSeq; rw [h]; rfl
theorem e_fun {k m : Nat} (hl : ds.length = k) (h : s (vars0 ds m) H = some (.ret d, vs1, H1)) : xFun s k m ds H = some (d, H1) := by unfold xFun; rw [if_pos hl, h]; rfl
theorem e_funN {k m : Nat} (hl : ds.length = k) (h : s (vars0 ds m) H = some (.next, vs1, H1)) : xFun s k m ds H = some (.none, H1) := by unfold xFun; rw [if_pos hl, h]; rfl
theorem e_do (h : p vs H = some (.none, H1)) : xDo p vs H = some (.next, vs, H1) := by unfold xDo; rw [h]; rfl
theorem e_brt (h1 : c vs H = some (true, H1)) (h2 : s vs H1 = x) : xBr c s t vs H = x := by unfold xBr; rw [h1]; exact h2
theorem e_brf (h1 : c vs H = some (false, H1)) (h2 : t vs H1 = x) : xBr c s t vs H = x := by unfold xBr; rw [h1]; exact h2
theorem e_attr {C : Addr} {ns : List Str} {name : Str} (h1 : p vs H = some (a, H1)) (h2 : gAttr C ns name a H1 = some d) : xAttr C ns name p vs H = some (d, H1) := by unfold xAttr; rw [h1, Option.bind_some, h2]; rfl
theorem e_augA {C : Addr} {ns : List Str} {name : Str} {o : D} (h1 : q vs H = some (o, H1)) (h2 : gAttr C ns name o H1 = some a) (h3 : p vs H1 = some (b, H2)) (h4 : f a b H2 = some d) (h5 : gSet C ns name o d H2 = some H3) : xAugA C ns name f q p vs H = some (.next, vs, H3) := by
  unfold xAugA; rw [h1, Option.bind_some, h2, Option.bind_some, h3, Option.bind_some, h4, Option.bind_some, h5]; rfl
theorem e_seti {po pi : XE} {o j : D} (h1 : p vs H = some (a, H1)) (h2 : po vs H1 = some (o, H2)) (h3 : pi vs H2 = some (j, H3)) (h4 : gSetItem o j a H3 = some H4) : xSetI po pi p vs H = some (.next, vs, H4) := by
  unfold xSetI; rw [h1, Option.bind_some, h2, Option.bind_some, h3, Option.bind_some, h4]; rfl
end
/-! the operations on plain data -/
noncomputable def S (l : List Nat) : Str := ⟨l.toArray⟩
noncomputable abbrev dS (l : List Nat) : D := .str (S l)
theorem S_inj {a b : List Nat} : S a = S b ↔ a = b := by
  constructor
  · intro h
    have h : a.toArray = b.toArray := by injection h
    simpa using h
  · rintro rfl; rfl
theorem S_beq (a b : List Nat) : (S a == S b) = (a == b) := by
  by_cases h : a = b
  · subst h; simp
  · rw [beq_eq_false_iff_ne.mpr h, beq_eq_false_iff_ne.mpr (fun e => h (S_inj.mp e))]
theorem S_len (a : List Nat) : (S a).length = a.length := by show a.toArray.size = _; simp
theorem S_app (a b : List Nat) : S a ++ S b = S (a ++ b) := by
  show (⟨a.toArray ++ b.toArray⟩ : Str) = ⟨(a ++ b).toArray⟩
  simp
/-- data whose texts can be laid -/
noncomputable def OkS (l : List Nat) : Prop := ∀ c ∈ l, c < 1114112
theorem okS_str {l : List Nat} (h : OkS l) : PyData.strOk (S l) = true := by
  show (l.toArray.all fun c => decide (c < 1114112)) = true
  unfold OkS at h
  simpa using h
theorem OkS.app {a b : List Nat} (h : OkS a) (k : OkS b) : OkS (a ++ b) := fun c hc => (List.mem_append.mp hc).elim (h c) (k c)

theorem fEq_str {a b : List Nat} {H : Hp} (ha : OkS a) (hb : OkS b) : fEq (dS a) (dS b) H = some (.bool (a == b)) := by
  have e : PyData.eqv (.str (S a)) (.str (S b)) = (a == b) := by simp only [PyData.eqv]; exact S_beq a b
  unfold fEq
  simp only [toPy, Option.bind_some]
  rw [if_pos, e]
  simp [SeqAt.shaped, PyData.canLay0, okS_str ha, okS_str hb, PyData.depth]
theorem fNe_str {a b : List Nat} {H : Hp} (ha : OkS a) (hb : OkS b) : fNe (dS a) (dS b) H = some (.bool (!(a == b))) := by
  have e : PyData.eqv (.str (S a)) (.str (S b)) = (a == b) := by simp only [PyData.eqv]; exact S_beq a b
  unfold fNe
  simp only [toPy, Option.bind_some]
  rw [if_pos, e]
  simp [SeqAt.shaped, PyData.canLay0, okS_str ha, okS_str hb, PyData.depth]
theorem fIn_sign {c : Nat} {l : List Nat} {H : Hp} : fIn (dS [c]) (dS l) H = some (.bool (decide (c ∈ l))) := rfl
theorem fAdd_str {a b : List Nat} {H : Hp} (h : a.length + b.length ≤ 1000000) : fAdd (dS a) (dS b) H = some (dS (a ++ b)) := by
  show (if (S a).length + (S b).length ≤ 1000000 then some (D.str (S a ++ S b)) else none) = _
  rw [S_len, S_len, if_pos h, S_app]
theorem fIAdd_str {a b : List Nat} {H : Hp} (h : a.length + b.length ≤ 1000000) : fIAddS (dS a) (dS b) H = some (dS (a ++ b)) := by
  show (if (S a).length + (S b).length ≤ 1000000 then some (D.str (S a ++ S b)) else none) = _
  rw [S_len, S_len, if_pos h, S_app]
theorem seqIx_nat {i n : Nat} (h : i < n) : seqIndex? (i : Int) n = some i := by
  unfold seqIndex?
  simp; omega
theorem smallIx_nat {i : Nat} (h : i < 1000000) : smallIx (i : Int) = true := by
  unfold smallIx
  simp; omega
theorem fItem_str {l : List Nat} {i : Nat} {c : Nat} {H : Hp} (h : l[i]? = some c) (hi : i < 1000000) : fItem (dS l) (.int (i : Int)) H = some (dS [c]) := by
  obtain ⟨hl, e⟩ := List.getElem?_eq_some_iff.mp h
  show (if smallIx (i : Int) then ((seqIndex? (i : Int) (S l).length).bind ((S l).cps[·]?)).map fun c => D.str ⟨#[c]⟩ else none) = _
  rw [if_pos (smallIx_nat hi), S_len, seqIx_nat hl]
  have : (S l).cps[i]? = some c := by show l.toArray[i]? = _; simpa using h
  simp only [Option.bind_some, this, Option.map_some]
  rfl
theorem fItem_lst {l : List D} {i : Nat} {d : D} {H : Hp} (h : l[i]? = some d) (hi : i < 1000000) : fItem (.lst l) (.int (i : Int)) H = some d := by
  obtain ⟨hl, e⟩ := List.getElem?_eq_some_iff.mp h
  show (if smallIx (i : Int) then ((seqIndex? (i : Int) l.length).bind (l[·]?)) else none) = _
  rw [if_pos (smallIx_nat hi), seqIx_nat hl]
  exact h
theorem fItem_tup {l : List D} {i : Nat} {d : D} {H : Hp} (h : l[i]? = some d) (hi : i < 1000000) : fItem (.tup l) (.int (i : Int)) H = some d := by
  obtain ⟨hl, e⟩ := List.getElem?_eq_some_iff.mp h
  show (if smallIx (i : Int) then ((seqIndex? (i : Int) l.length).bind (l[·]?)) else none) = _
  rw [if_pos (smallIx_nat hi), seqIx_nat hl]
  exact h
theorem fItem_own {l : List D} {i k : Nat} {d : D} {H : Hp} (hk : H[k]? = some (.list l)) (h : l[i]? = some d) (hi : i < 1000000) : fItem (.own k) (.int (i : Int)) H = some d := by
  obtain ⟨hl, e⟩ := List.getElem?_eq_some_iff.mp h
  show (match H[k]? with | some (.list xs) => if smallIx (i : Int) then ((seqIndex? (i : Int) xs.length).bind (xs[·]?)) else none | _ => none) = _
  rw [hk]
  show (if smallIx (i : Int) then ((seqIndex? (i : Int) l.length).bind (l[·]?)) else none) = _
  rw [if_pos (smallIx_nat hi), seqIx_nat hl]
  exact h
theorem fItem_lastL {l : List D} {d : D} {H : Hp} (hl : l.length < 1000000) : fItem (.lst (l ++ [d])) (.int (-1)) H = some d := by
  have : seqIndex? (-1) (l ++ [d]).length = some l.length := by
    unfold seqIndex?
    simp; omega
  show (if smallIx (-1) then ((seqIndex? (-1) (l ++ [d]).length).bind ((l ++ [d])[·]?)) else none) = _
  rw [if_pos (by decide), this]
  simp

theorem or2 {j : Nat} (h : j < 2) : j = 0 ∨ j = 1 := match j, h with
  | 0, _ => .inl rfl
  | 1, _ => .inr rfl
  | n + 2, h => absurd h (Nat.not_lt.mpr (Nat.le_add_left _ _))
theorem or3 {j : Nat} (h : j < 3) : j = 0 ∨ j = 1 ∨ j = 2 := match j, h with
  | 0, _ => .inl rfl
  | n + 1, h => .inr ((or2 (Nat.lt_of_succ_lt_succ h)).imp (congrArg (· + 1)) (congrArg (· + 1)))
theorem or4 {j : Nat} (h : j < 4) : j = 0 ∨ j = 1 ∨ j = 2 ∨ j = 3 := match j, h with
  | 0, _ => .inl rfl
  | n + 1, h => .inr ((or3 (Nat.lt_of_succ_lt_succ h)).imp (congrArg (· + 1)) fun x => x.imp (congrArg (· + 1)) (congrArg (· + 1)))
theorem or9 {P : Nat → Prop} (h0 : P 0) (h1 : P 1) (h2 : P 2) (h3 : P 3) (h4 : P 4) (h5 : P 5) (h6 : P 6) (h7 : P 7) (h8 : P 8) : ∀ j, j < 9 → P j
  | 0, _ => h0
  | 1, _ => h1
  | 2, _ => h2
  | 3, _ => h3
  | 4, _ => h4
  | 5, _ => h5
  | 6, _ => h6
  | 7, _ => h7
  | 8, _ => h8
  | n + 9, h => absurd h (Nat.not_lt.mpr (Nat.le_add_left _ _))
theorem mod2 (n : Nat) : n % 2 = 0 ∨ n % 2 = 1 := Nat.mod_two_eq_zero_or_one n
/-! ints -/
theorem div_nat (i j : Nat) (H : Hp) (h : 0 < j) (h' : j < 2 ^ 30) : fInt iDiv (.int (i : Int)) (.int (j : Int)) H = some (.int ((i / j : Nat) : Int)) := by
  show iDiv (i : Int) (j : Int) = _
  unfold iDiv
  rw [if_pos ⟨by omega, by omega⟩, Int.fdiv_eq_ediv_of_nonneg _ (by omega)]
  rfl
theorem mod_nat (i j : Nat) (H : Hp) (h : 0 < j) : fInt iMod (.int (i : Int)) (.int (j : Int)) H = some (.int ((i % j : Nat) : Int)) := by
  show iMod (i : Int) (j : Int) = _
  unfold iMod
  rw [if_pos (by omega), Int.fmod_eq_emod_of_nonneg _ (by omega)]
  rfl
theorem pow_nat (i j : Nat) (H : Hp) (h : i ≤ 64) (h' : j ≤ 64) : fInt iPow (.int (i : Int)) (.int (j : Int)) H = some (.int ((i ^ j : Nat) : Int)) := by
  show iPow (i : Int) (j : Int) = _
  unfold iPow
  rw [if_pos ⟨by omega, by omega, by omega, by omega⟩]
  simp
theorem mul_nat (i j : Nat) (H : Hp) (h : i < 2 ^ 60) (h' : j < 2 ^ 60) : fInt iMul (.int (i : Int)) (.int (j : Int)) H = some (.int ((i * j : Nat) : Int)) := by
  show iMul (i : Int) (j : Int) = _
  unfold iMul
  rw [if_pos ⟨by omega, by omega⟩]
  simp
theorem sub_nat (i j : Nat) (H : Hp) (h : j ≤ i) : fInt iSub (.int (i : Int)) (.int (j : Int)) H = some (.int ((i - j : Nat) : Int)) := by
  show iSub (i : Int) (j : Int) = _
  unfold iSub
  rw [Int.ofNat_sub h]
theorem add_nat (i j : Nat) (H : Hp) : fAdd (.int (i : Int)) (.int (j : Int)) H = some (.int ((i + j : Nat) : Int)) := rfl
theorem and_nat (i j : Nat) (H : Hp) : fInt iAnd (.int (i : Int)) (.int (j : Int)) H = some (.int ((i &&& j : Nat) : Int)) := by
  show iAnd (i : Int) (j : Int) = _
  unfold iAnd Builtin.bitAnd
  simp
theorem eq_nat (i j : Nat) (H : Hp) : fInt iEq (.int (i : Int)) (.int (j : Int)) H = some (.bool (i == j)) := by
  show iEq (i : Int) (j : Int) = _
  unfold iEq
  by_cases h : i = j
  · subst h; simp
  · have : ((i : Int) == (j : Int)) = false := beq_eq_false_iff_ne.mpr (by omega)
    rw [this, beq_eq_false_iff_ne.mpr h]

/-! own lists -/
theorem append_own {k : Nat} {xs : List D} {d : D} {H : Hp} (hk : H[k]? = some (.list xs)) (hl : xs.length < 100000) : gAppend (.own k) [d] H = some (.none, H.set k (.list (xs ++ [d]))) := by
  show (match H[k]? with | some (.list xs) => if xs.length < 100000 then some (D.none, H.set k (.list (xs ++ [d]))) else none | _ => none) = _
  rw [hk]; simp [hl]
theorem isOwnL_own {k : Nat} {xs : List D} {H : Hp} (hk : H[k]? = some (.list xs)) : isOwnL (.own k) H = true := by
  show (match H[k]? with | some (.list _) => true | _ => false) = true
  rw [hk]
theorem pop_own {k : Nat} {x : D} {xs : List D} {H : Hp} (hk : H[k]? = some (.list (x :: xs))) (hl : xs.length < 100000) : gPop (.own k) [.int 0] H = some (x, H.set k (.list xs)) := by
  show (match H[k]? with | some (.list (x :: xs)) => if xs.length < 100000 then some (x, H.set k (.list xs)) else none | _ => none) = _
  rw [hk]; simp [hl]
theorem its_lst {xs : List D} {H : Hp} : itsOf (.lst xs) H = some xs := rfl
theorem its_own' {k : Nat} {xs : List D} {H : Hp} (hk : H[k]? = some (.list xs)) : itsOf (.own k) H = some xs := by
  show (match H[k]? with | some (.list xs) => some xs | _ => none) = _
  rw [hk]
theorem fAdd_its {a b : D} {xs ys : List D} {H : Hp} (ha : itsOf a H = some xs) (hb : itsOf b H = some ys) (h : xs.length + ys.length ≤ 1000000) : fAdd a b H = some (.lst (xs ++ ys)) := by
  have e : ((itsOf a H).bind fun xs => (itsOf b H).bind fun ys => if xs.length + ys.length ≤ 1000000 then some (D.lst (xs ++ ys)) else none) = some (D.lst (xs ++ ys)) := by rw [ha, hb]; simp [h]
  cases a with
  | lst _ => exact e
  | own _ => exact e
  | _ => cases ha
theorem mapM_map {α β γ : Type} {f : β → Option γ} {g : α → β} {h : α → γ} (e : ∀ a, f (g a) = some (h a)) : ∀ l : List α, (l.map g).mapM f = some (l.map h)
  | [] => rfl
  | a :: l => by
    rw [List.map_cons, List.mapM_cons, e a, mapM_map e l]; rfl
theorem asStr_map (l : List (List Nat)) : (l.map dS).mapM asStr = some (l.map S) := mapM_map (f := asStr) (g := dS) (h := S) (fun _ => rfl) l
theorem asInt_map (l : List Int) : (l.map D.int).mapM asInt = some l := by
  have := mapM_map (f := asInt) (g := D.int) (h := fun i => i) (fun _ => rfl) l
  simpa using this
theorem foldl_len : ∀ (l : List (List Nat)) (n : Nat), (l.map S).foldl (fun x1 x2 => x1 + x2.length + (S []).length) n = n + l.flatten.length
  | [], n => by simp
  | a :: l, n => by
    rw [List.map_cons, List.foldl_cons, foldl_len l, S_len, S_len, List.flatten_cons, List.length_append]
    simp; omega
theorem join_flat : ∀ l : List (List Nat), Txt.join (S []) (l.map S) = S l.flatten
  | [] => rfl
  | [a] => by
    show S a = _
    simp
  | a :: b :: l => by
    have ih := join_flat (b :: l)
    have : Txt.join (S []) ((a :: b :: l).map S) = S a ++ S [] ++ Txt.join (S []) ((b :: l).map S) := by
      unfold Txt.join
      rw [StrLaws.glued_eq_join, StrLaws.glued_eq_join]
      rfl
    rw [this, ih, S_app, S_app]
    simp
theorem join_S {o : D} {l : List (List Nat)} {H : Hp} (ho : itsOf o H = some (l.map dS)) (hl : l.flatten.length ≤ 1000000) : gJoin (dS []) [o] H = some (dS l.flatten, H) := by
  show ((itsOf o H).bind fun xs => (xs.mapM asStr).bind fun ts => if JoinOk (S []) ts then some (D.str (Txt.join (S []) ts), H) else none) = _
  rw [ho, Option.bind_some, asStr_map, Option.bind_some, join_flat, if_pos]
  unfold JoinOk
  have : (l.map S).toArray.foldl (fun x1 x2 => x1 + x2.length + (S []).length) 0 = l.flatten.length := by
    rw [List.foldl_toArray, foldl_len]; simp
  rw [this]
  unfold Builtin.Str.tooLong
  rw [sizeLine_eq]
  generalize l.flatten.length = n at hl
  simp; omega
end Mine
open PySem PySem.W PyProof.Rows
set_option maxRecDepth 100000
namespace Mine
/-! filemode -/
theorem ifmt_eval (m : Nat) (H : Hp) : G_S_IFMT [.int (m : Int)] H = some (.int ((m &&& 61440 : Nat) : Int), H) := by
  have : fInt iAnd (.int (m : Int)) (.int 61440) H = some (.int ((m &&& 61440 : Nat) : Int)) := and_nat m 61440 H
  unfold G_S_IFMT xFun b_S_IFMT
  simp [xSeq, xBr, xTest, xOp2, xVar, xLit, xDo, xMeth, xCall, xAll, xSkip, xBrk, xCont, xRet, xAssign, xAug, xIf, xTT, xFF, xTru, tBool, xAndV, xOrV, xLst, xTup, Option.bind_some, Option.map_some, vars0, this]
noncomputable def pd (p : Nat × List Nat) : D × D := (.int (p.1 : Int), dS p.2)
noncomputable def pick0 (m : Nat) : List (Nat × List Nat) → List Nat
  | [] => [63]
  | (b, c) :: r => if m &&& 61440 = b then c else pick0 m r
noncomputable def pick1 (m : Nat) : List (Nat × List Nat) → List Nat
  | [] => [45]
  | (b, c) :: r => if m &&& b = b then c else pick1 m r
noncomputable def pickI (idx m : Nat) (l : List (Nat × List Nat)) : List Nat := if idx = 0 then pick0 m l else pick1 m l
noncomputable abbrev fmInner : XS := (xSeq (xBr (xTest (fInt iEq) (xVar 2) (xLit (.int 0))) (xSeq (xBr (xTest (fInt iEq) (xCall G_S_IFMT [(xVar 0)]) (xVar 4)) (xSeq (xDo (xMeth isOwnL gAppend (xVar 1) [(xVar 5)])) (xSeq xBrk xSkip)) xSkip) xSkip) (xSeq (xBr (xTest (fInt iEq) (xOp2 (fInt iAnd) (xVar 0) (xVar 4)) (xVar 4)) (xSeq (xDo (xMeth isOwnL gAppend (xVar 1) [(xVar 5)])) (xSeq xBrk xSkip)) xSkip) xSkip)) xSkip)
noncomputable abbrev fmElse : XS := (xSeq (xBr (xTest (fInt iEq) (xVar 2) (xLit (.int 0))) (xSeq (xDo (xMeth isOwnL gAppend (xVar 1) [(xLit (.str "?"))])) xSkip) (xSeq (xDo (xMeth isOwnL gAppend (xVar 1) [(xLit (.str "-"))])) xSkip)) xSkip)
theorem eqI_t {i j : Nat} {H : Hp} (h : i = j) : fInt iEq (.int (i : Int)) (.int (j : Int)) H = some (.bool true) := by
  rw [eq_nat, beq_iff_eq.mpr h]
theorem eqI_f {i j : Nat} {H : Hp} (h : i ≠ j) : fInt iEq (.int (i : Int)) (.int (j : Int)) H = some (.bool false) := by
  rw [eq_nat, beq_eq_false_iff_ne.mpr h]
theorem e_seqB {p q : XS} {vs vs1 : Vs} {H H1 : Hp} (h : p vs H = some (.brk, vs1, H1)) : xSeq p q vs H = some (.brk, vs1, H1) := by unfold xSeq; rw [h]; rfl
theorem loop2_brk {i j : Nat} {b o : XS} {d : D × D} {ds : List (D × D)} {vs vs1 : Vs} {H H1 : Hp} (h : b ((vs.set i (some d.1)).set j (some d.2)) H = some (.brk, vs1, H1)) : xLoop2 i j b o (d :: ds) vs H = some (.next, vs1, H1) := by unfold xLoop2; rw [h]; rfl
theorem loop2_next {i j : Nat} {b o : XS} {d : D × D} {ds : List (D × D)} {vs vs1 : Vs} {H H1 : Hp} {y : Option (Fl × Vs × Hp)} (h : b ((vs.set i (some d.1)).set j (some d.2)) H = some (.next, vs1, H1)) (h2 : xLoop2 i j b o ds vs1 H1 = y) : xLoop2 i j b o (d :: ds) vs H = y := by unfold xLoop2; rw [h]; exact h2
theorem fm_inner {m k idx : Nat} {xs : List D} {t : Option D} : ∀ (ps : List (Nat × List Nat)) (b c : Option D) (H : Hp), H[k]? = some (.list xs) → xs.length < 100000 →
    ∃ b' c', xLoop2 4 5 fmInner fmElse (ps.map pd) [some (.int (m : Int)), some (.own k), some (.int (idx : Int)), t, b, c] H = some (.next, [some (.int (m : Int)), some (.own k), some (.int (idx : Int)), t, b', c'], H.set k (.list (xs ++ [dS (pickI idx m ps)])))
  | [], b, c, H, hk, hl => by
    refine ⟨b, c, ?_⟩
    unfold pickI pick0 pick1
    by_cases h : idx = 0
    · rw [if_pos h]
      exact e_fin (s := xBr _ _ _) (e_brt (e_test (e_var rfl) e_lit (eqI_t (j := 0) h)) (e_fin (e_do (e_meth (e_var rfl) (isOwnL_own hk) (e_cons e_lit e_nil) (append_own hk hl)))))
    · rw [if_neg h]
      exact e_fin (s := xBr _ _ _) (e_brf (e_test (e_var rfl) e_lit (eqI_f (j := 0) h)) (e_fin (e_do (e_meth (e_var rfl) (isOwnL_own hk) (e_cons e_lit e_nil) (append_own hk hl)))))
  | (q, ch) :: ps, b, c, H, hk, hl => by
    obtain ⟨b', c', ih⟩ := fm_inner (m := m) (idx := idx) (t := t) ps (some (.int (q : Int))) (some (dS ch)) H hk hl
    have e4 := and_nat m q H
    have e5 := ifmt_eval m H
    unfold pickI pick0 pick1
    unfold pickI at ih
    by_cases h : idx = 0
    · rw [if_pos h] at ih ⊢
      by_cases g : m &&& 61440 = q
      · refine ⟨some (.int (q : Int)), some (dS ch), ?_⟩
        rw [if_pos g]
        exact loop2_brk (e_seqB (e_brt (e_test (e_var rfl) e_lit (eqI_t (j := 0) h)) (e_seqB (e_brt (e_test (e_call (e_cons (e_var rfl) e_nil) e5) (e_var rfl) (eqI_t g)) (e_seq (e_do (e_meth (e_var rfl) (isOwnL_own hk) (e_cons (e_var rfl) e_nil) (append_own hk hl))) (e_seqB rfl))))))
      · refine ⟨b', c', ?_⟩
        rw [if_neg g]
        exact loop2_next (e_fin (e_brt (e_test (e_var rfl) e_lit (eqI_t (j := 0) h)) (e_fin (e_brf (e_test (e_call (e_cons (e_var rfl) e_nil) e5) (e_var rfl) (eqI_f g)) e_skip)))) ih
    · rw [if_neg h] at ih ⊢
      by_cases g : m &&& q = q
      · refine ⟨some (.int (q : Int)), some (dS ch), ?_⟩
        rw [if_pos g]
        exact loop2_brk (e_seqB (e_brf (e_test (e_var rfl) e_lit (eqI_f (j := 0) h)) (e_seqB (e_brt (e_test (e_op (e_var rfl) (e_var rfl) e4) (e_var rfl) (eqI_t g)) (e_seq (e_do (e_meth (e_var rfl) (isOwnL_own hk) (e_cons (e_var rfl) e_nil) (append_own hk hl))) (e_seqB rfl))))))
      · refine ⟨b', c', ?_⟩
        rw [if_neg g]
        exact loop2_next (e_fin (e_brf (e_test (e_var rfl) e_lit (eqI_f (j := 0) h)) (e_fin (e_brf (e_test (e_op (e_var rfl) (e_var rfl) e4) (e_var rfl) (eqI_f g)) e_skip)))) ih
end Mine
open PySem PySem.W PyProof.Rows
set_option maxRecDepth 100000
namespace Mine
noncomputable def pairD (p : Nat × List Nat) : D := .tup [.int (p.1 : Int), dS p.2]
noncomputable def tD (ps : List (Nat × List Nat)) : D := .tup (ps.map pairD)
noncomputable def tbl : List (List (Nat × List Nat)) := [[(40960, [108]), (49152, [115]), (32768, [45]), (24576, [98]), (16384, [100]), (8192, [99]), (4096, [112])], [(256, [114])], [(128, [119])], [(2112, [115]), (2048, [83]), (64, [120])], [(32, [114])], [(16, [119])], [(1032, [115]), (1024, [83]), (8, [120])], [(4, [114])], [(2, [119])], [(513, [116]), (512, [84]), (1, [120])]]
theorem tableD_eq : tableD = .tup (tbl.map tD) := rfl
theorem pairs_tD (ps : List (Nat × List Nat)) : pairsOf (tD ps) = some (ps.map pd) := mapM_map (f := asPair) (g := pairD) (h := pd) (fun _ => rfl) ps
noncomputable def picks (m : Nat) : Nat → List (List (Nat × List Nat)) → List (List Nat)
  | _, [] => []
  | i, t :: ts => pickI i m t :: picks m (i + 1) ts
noncomputable abbrev fmBody : XS := xSeq (xFor2 4 5 (xPairs (xVar 3)) fmInner fmElse) xSkip
theorem set_same {H : Hp} {k : Nat} {a : CO} (h : H[k]? = some a) : H.set k a = H := by
  obtain ⟨hl, e⟩ := List.getElem?_eq_some_iff.mp h
  rw [← e]; exact List.set_getElem_self hl
theorem fm_outer {m k : Nat} : ∀ (ts : List (List (Nat × List Nat))) (i : Nat) (xs : List D) (a b c d : Option D) (H : Hp), H[k]? = some (.list xs) → xs.length + ts.length < 100000 →
    ∃ a' b' c' d', xLoop2 2 3 fmBody xSkip (numbered i (ts.map tD)) [some (.int (m : Int)), some (.own k), a, b, c, d] H = some (.next, [some (.int (m : Int)), some (.own k), a', b', c', d'], H.set k (.list (xs ++ (picks m i ts).map dS)))
  | [], i, xs, a, b, c, d, H, hk, hl => by
    refine ⟨a, b, c, d, ?_⟩
    simp [numbered, xLoop2, xSeq, xBr, xTest, xOp2, xVar, xLit, xDo, xMeth, xCall, xAll, xSkip, xBrk, xCont, xRet, xAssign, xAug, xIf, xTT, xFF, xTru, tBool, xAndV, xOrV, xLst, xTup, Option.bind_some, Option.map_some, picks, set_same hk]
  | t :: ts, i, xs, a, b, c, d, H, hk, hl => by
    rw [List.length_cons] at hl
    obtain ⟨c1, d1, e1⟩ := fm_inner (m := m) (idx := i) (t := some (tD t)) t c d H hk (by omega)
    have hk' : (H.set k (.list (xs ++ [dS (pickI i m t)])))[k]? = some (.list (xs ++ [dS (pickI i m t)])) := by
      rw [List.getElem?_set_self (List.getElem?_eq_some_iff.mp hk).1]
    obtain ⟨a2, b2, c2, d2, e2⟩ := fm_outer (m := m) ts (i + 1) (xs ++ [dS (pickI i m t)]) (some (.int (i : Int))) (some (tD t)) c1 d1 _ hk' (by simp; omega)
    refine ⟨a2, b2, c2, d2, ?_⟩
    have e0 : fmBody [some (.int (m : Int)), some (.own k), some (.int (i : Int)), some (tD t), c, d] H = some (.next, [some (.int (m : Int)), some (.own k), some (.int (i : Int)), some (tD t), c1, d1], H.set k (.list (xs ++ [dS (pickI i m t)]))) := by
      have e3 : xPairs (xVar 3) [some (.int (m : Int)), some (.own k), some (.int (i : Int)), some (tD t), c, d] H = some (t.map pd, H) := by
        simp [xPairs, xSeq, xBr, xTest, xOp2, xVar, xLit, xDo, xMeth, xCall, xAll, xSkip, xBrk, xCont, xRet, xAssign, xAug, xIf, xTT, xFF, xTru, tBool, xAndV, xOrV, xLst, xTup, Option.bind_some, Option.map_some, pairs_tD]
      simp [fmBody, xFor2, xSeq, e3, e1, xSkip]
    rw [List.map_cons]
    show (fmBody [some (.int (m : Int)), some (.own k), some (.int (i : Int)), some (tD t), c, d] H).bind _ = _
    rw [e0, Option.bind_some]
    show xLoop2 2 3 fmBody xSkip (numbered (i + 1) (ts.map tD)) _ _ = _
    rw [e2, List.set_set]
    simp [picks]
/-- filemode's signs -/
noncomputable def fmRow (m : Nat) : List Nat := (picks m 0 tbl).flatten
theorem get_new {H : Hp} {a : CO} : (H ++ [a])[H.length]? = some a := by simp
theorem set_new {H : Hp} {a b : CO} : (H ++ [a]).set H.length b = H ++ [b] := by simp
theorem pick0_len (m : Nat) : ∀ ps : List (Nat × List Nat), (∀ p ∈ ps, p.2.length = 1) → (pick0 m ps).length = 1
  | [], _ => rfl
  | (b, c) :: r, hp => by
    unfold pick0
    split
    · exact hp (b, c) (.head _)
    · exact pick0_len m r fun p q => hp p (.tail _ q)
theorem pick1_len (m : Nat) : ∀ ps : List (Nat × List Nat), (∀ p ∈ ps, p.2.length = 1) → (pick1 m ps).length = 1
  | [], _ => rfl
  | (b, c) :: r, hp => by
    unfold pick1
    split
    · exact hp (b, c) (.head _)
    · exact pick1_len m r fun p q => hp p (.tail _ q)
theorem pick_len (i m : Nat) (h : i < 10) : (pickI i m (tbl.getD i [])).length = 1 := by
  have key : ∀ j < 10, ∀ p ∈ tbl.getD j [], p.2.length = 1 := by decide
  unfold pickI
  split
  · exact pick0_len m _ (key i h)
  · exact pick1_len m _ (key i h)
theorem fmRow_len (m : Nat) : (fmRow m).length = 10 := by
  have a0 := pick_len 0 m (by omega); have a1 := pick_len 1 m (by omega); have a2 := pick_len 2 m (by omega); have a3 := pick_len 3 m (by omega); have a4 := pick_len 4 m (by omega)
  have a5 := pick_len 5 m (by omega); have a6 := pick_len 6 m (by omega); have a7 := pick_len 7 m (by omega); have a8 := pick_len 8 m (by omega); have a9 := pick_len 9 m (by omega)
  simp only [tbl, List.getD_cons_zero, List.getD_cons_succ] at a0 a1 a2 a3 a4 a5 a6 a7 a8 a9
  simp only [fmRow, tbl, picks, List.flatten_cons, List.flatten_nil, List.length_append, List.length_nil, a0, a1, a2, a3, a4, a5, a6, a7, a8, a9]
theorem filemode_eval (m : Nat) (H : Hp) : ∃ J, G_filemode [.int (m : Int)] H = some (dS (fmRow m), H ++ J) := by
  obtain ⟨a, b, c, d, e⟩ := fm_outer (m := m) (k := H.length) tbl 0 [] none none none none (H ++ [.list []]) get_new (by decide)
  rw [set_new] at e
  refine ⟨[.list ((picks m 0 tbl).map dS)], ?_⟩
  have e1 : xEnum (xLit tableD) [some (.int (m : Int)), some (.own H.length), none, none, none, none] (H ++ [.list []]) = some (numbered 0 (tbl.map tD), H ++ [.list []]) := by
    rw [tableD_eq]; rfl
  have e2 : gJoin (dS []) [.own H.length] (H ++ [.list ((picks m 0 tbl).map dS)]) = some (dS (fmRow m), H ++ [.list ((picks m 0 tbl).map dS)]) := join_S (its_own' get_new) (by show (fmRow m).length ≤ _; rw [fmRow_len]; omega)
  have l0 : ("" : Str) = S [] := rfl
  have hb : b_filemode = xSeq (xAssign 1 (xNew [])) (xSeq (xFor2 2 3 (xEnum (xLit tableD)) fmBody xSkip) (xSeq (xRet (xMeth isStrD gJoin (xLit (.str "")) [(xVar 1)])) xSkip)) := rfl
  unfold G_filemode xFun
  rw [hb]
  have e3 : xNew [] [some (.int (m : Int)), none, none, none, none, none] H = some (.own H.length, H ++ [.list []]) := rfl
  simp only [List.nil_append] at e
  simp [vars0, xSeq, xAssign, e3, xFor2, e1]
  rw [e]
  simp [xSeq, xBr, xTest, xOp2, xVar, xLit, xDo, xMeth, xCall, xAll, xSkip, xBrk, xCont, xRet, xAssign, xAug, xIf, xTT, xFF, xTru, tBool, xAndV, xOrV, xLst, xTup, Option.bind_some, Option.map_some, isStrD, l0, e2]
end Mine
open PySem PySem.W PyProof.Rows
set_option maxRecDepth 100000
namespace Mine
/-! the row in plain arithmetic -/
noncomputable def tc (t : Nat) : Nat := [63, 112, 99, 63, 100, 63, 98, 63, 45, 63, 108, 63, 115, 63, 63, 63].getD t 63
noncomputable def bc (c b : Nat) : Nat := if b = 1 then c else 45
noncomputable def xc (x c s b a : Nat) : Nat := if a = 1 then (if b = 1 then s else c) else (if b = 1 then x else 45)
noncomputable def row (m : Nat) : List Nat := [tc (m / 4096 % 16), bc 114 (m / 256 % 2), bc 119 (m / 128 % 2), xc 120 83 115 (m / 64 % 2) (m / 2048 % 2),
  bc 114 (m / 32 % 2), bc 119 (m / 16 % 2), xc 120 83 115 (m / 8 % 2) (m / 1024 % 2), bc 114 (m / 4 % 2), bc 119 (m / 2 % 2), xc 120 84 116 (m / 1 % 2) (m / 512 % 2)]
theorem bit_of {m k : Nat} : m.testBit k = decide (m / 2 ^ k % 2 = 1) := Nat.testBit_eq_decide_div_mod_eq
theorem and_bit1 (m k : Nat) (h : m / 2 ^ k % 2 = 1) : m &&& 2 ^ k = 2 ^ k := by
  apply Nat.eq_of_testBit_eq
  intro i
  rw [Nat.testBit_and, Nat.testBit_two_pow]
  by_cases hi : k = i
  · subst hi; rw [bit_of]; simp [h]
  · simp [hi]
theorem and_bit0 (m k : Nat) (h : ¬ m / 2 ^ k % 2 = 1) : m &&& 2 ^ k = 0 := by
  apply Nat.eq_of_testBit_eq
  intro i
  rw [Nat.testBit_and, Nat.testBit_two_pow]
  by_cases hi : k = i
  · subst hi; rw [bit_of]; simp [h]
  · simp [hi]
theorem and_bit (m k : Nat) : (m &&& 2 ^ k = 2 ^ k) ↔ m / 2 ^ k % 2 = 1 := by
  have hp : 0 < 2 ^ k := Nat.two_pow_pos k
  by_cases g : m / 2 ^ k % 2 = 1
  · simp [g, and_bit1 m k g]
  · simp [g, and_bit0 m k g]; omega
theorem and_bits (m j k : Nat) (hjk : 2 ^ j &&& 2 ^ k = 0) (a : Nat) (ha : a = 2 ^ j ||| 2 ^ k) : (m &&& a = a) ↔ (m / 2 ^ j % 2 = 1 ∧ m / 2 ^ k % 2 = 1) := by
  subst ha
  rw [Nat.and_or_distrib_left]
  have hj : 2 ^ j ≠ 0 := Nat.pos_iff_ne_zero.mp (Nat.two_pow_pos j)
  have hk : 2 ^ k ≠ 0 := Nat.pos_iff_ne_zero.mp (Nat.two_pow_pos k)
  constructor
  · intro h
    constructor
    · rw [← and_bit]
      have := congrArg (· &&& 2 ^ j) h
      simp only [Nat.and_or_distrib_right, Nat.and_assoc, Nat.and_self] at this
      rw [Nat.and_comm (2 ^ k) (2 ^ j), hjk] at this
      simpa using this
    · rw [← and_bit]
      have := congrArg (· &&& 2 ^ k) h
      simp only [Nat.and_or_distrib_right, Nat.and_assoc, Nat.and_self] at this
      rw [hjk] at this
      simpa using this
  · rintro ⟨h1, h2⟩
    rw [(and_bit m j).mpr h1, (and_bit m k).mpr h2]
theorem and_top (m : Nat) : m &&& 61440 = (m / 4096 % 16) * 4096 := by
  apply Nat.eq_of_testBit_eq
  intro i
  have e : (61440 : Nat) = (2 ^ 4 - 1) * 2 ^ 12 := by decide
  have e2 : m / 4096 % 16 * 4096 = (m / 2 ^ 12 % 2 ^ 4) * 2 ^ 12 := rfl
  rw [e2, Nat.testBit_and, e, Nat.testBit_mul_two_pow, Nat.testBit_mul_two_pow, Nat.testBit_two_pow_sub_one, Nat.testBit_mod_two_pow, Nat.testBit_div_two_pow]
  by_cases h : 12 ≤ i
  · have : i - 12 + 12 = i := by omega
    simp [h, this, Bool.and_comm]
  · simp [h]
theorem tc_eq (m : Nat) : pick0 m (tbl.getD 0 []) = [tc (m / 4096 % 16)] := by
  simp only [tbl, List.getD_cons_zero, pick0, and_top]
  have h : m / 4096 % 16 < 16 := Nat.mod_lt _ (by omega)
  generalize m / 4096 % 16 = t at h
  have key : ∀ t < 16, (if t * 4096 = 40960 then [108] else if t * 4096 = 49152 then [115] else if t * 4096 = 32768 then [45] else if t * 4096 = 24576 then [98] else if t * 4096 = 16384 then [100] else if t * 4096 = 8192 then [99] else if t * 4096 = 4096 then [112] else [63]) = [tc t] := by decide
  exact key t h
theorem one_bit (m k c : Nat) (q : Nat) (hq : q = 2 ^ k) : pick1 m [(q, [c])] = [bc c (m / 2 ^ k % 2)] := by
  subst hq
  simp only [pick1, bc]
  by_cases h : m / 2 ^ k % 2 = 1
  · rw [if_pos ((and_bit m k).mpr h), if_pos h]
  · rw [if_neg (fun e => h ((and_bit m k).mp e)), if_neg h]
theorem two_bit (m j k x c s a p q : Nat) (hp : p = 2 ^ j) (hq : q = 2 ^ k) (ha : a = 2 ^ j ||| 2 ^ k) (hjk : 2 ^ j &&& 2 ^ k = 0) : pick1 m [(a, [s]), (q, [c]), (p, [x])] = [xc x c s (m / 2 ^ j % 2) (m / 2 ^ k % 2)] := by
  subst hp hq
  simp only [pick1, xc]
  have e := and_bits m j k hjk a ha
  have e1 := and_bit m j
  have e2 := and_bit m k
  by_cases h1 : m / 2 ^ j % 2 = 1
  · by_cases h2 : m / 2 ^ k % 2 = 1
    · rw [if_pos (e.mpr ⟨h1, h2⟩), if_pos h2, if_pos h1]
    · rw [if_neg (fun g => h2 (e.mp g).2), if_neg (fun g => h2 (e2.mp g)), if_pos (e1.mpr h1), if_neg h2, if_pos h1]
  · by_cases h2 : m / 2 ^ k % 2 = 1
    · rw [if_neg (fun g => h1 (e.mp g).1), if_pos (e2.mpr h2), if_pos h2, if_neg h1]
    · rw [if_neg (fun g => h2 (e.mp g).2), if_neg (fun g => h2 (e2.mp g)), if_neg (fun g => h1 (e1.mp g)), if_neg h2, if_neg h1]
theorem fmRow_eq (m : Nat) : fmRow m = row m := by
  have h0 := tc_eq m
  simp only [tbl, List.getD_cons_zero] at h0
  simp only [fmRow, tbl, picks, pickI, if_pos, reduceIte, h0, Nat.succ_ne_zero, Nat.reduceAdd, Nat.reduceEqDiff, Nat.one_ne_zero]
  rw [one_bit m 8 114 256 rfl, one_bit m 7 119 128 rfl, two_bit m 6 11 120 83 115 2112 64 2048 rfl rfl (by decide) (by decide), one_bit m 5 114 32 rfl, one_bit m 4 119 16 rfl, two_bit m 3 10 120 83 115 1032 8 1024 rfl rfl (by decide) (by decide),
    one_bit m 2 114 4 rfl, one_bit m 1 119 2 rfl, two_bit m 0 9 120 84 116 513 1 512 rfl rfl (by decide) (by decide)]
  rfl
theorem filemode_row (m : Nat) (H : Hp) : ∃ J, G_filemode [.int (m : Int)] H = some (dS (row m), H ++ J) := by
  rw [← fmRow_eq]; exact filemode_eval m H
end Mine
open PySem PySem.W PyProof.Rows
set_option maxRecDepth 100000
namespace Mine
/-! loops by an invariant -/
theorem xLoop_inv {i : Nat} {body : XS} (I : Nat → Vs → Hp → Prop) : ∀ (ds : List D) (k : Nat) (vs : Vs) (H : Hp), I k vs H →
    (∀ j d vs H, ds[j]? = some d → I (k + j) vs H → ∃ vs' H', body (vs.set i (some d)) H = some (.next, vs', H') ∧ I (k + j + 1) vs' H') →
    ∃ vs' H', xLoop i body xSkip ds vs H = some (.next, vs', H') ∧ I (k + ds.length) vs' H'
  | [], k, vs, H, h, _ => ⟨vs, H, rfl, h⟩
  | d :: ds, k, vs, H, h, st => by
    obtain ⟨v1, H1, e1, i1⟩ := st 0 d vs H rfl h
    obtain ⟨v2, H2, e2, i2⟩ := xLoop_inv I ds (k + 1) v1 H1 i1 (fun j e vs H hj hi => by
      have := st (j + 1) e vs H (by simpa using hj) (by rw [show k + (j + 1) = k + 1 + j by omega]; exact hi)
      rw [show k + (j + 1) + 1 = k + 1 + j + 1 by omega] at this
      exact this)
    refine ⟨v2, H2, ?_, by rw [show k + (d :: ds).length = k + 1 + ds.length by simp; omega]; exact i2⟩
    show (body (vs.set i (some d)) H).bind _ = _
    rw [e1]; exact e2
/-- the ints of range(n) -/
theorem range_of (n : Nat) (h : n < 1000000) : rangeOf 0 (n : Int) = some ((List.range n).map fun (i : Nat) => D.int (i : Int)) := by
  unfold rangeOf intsD
  rw [if_pos ⟨by omega, by omega⟩]
  simp
theorem range_get (n j : Nat) (h : j < n) : ((List.range n).map fun (i : Nat) => D.int (i : Int))[j]? = some (.int (j : Int)) := by
  simp [h]
theorem range_some {n j : Nat} {d : D} (h : ((List.range n).map fun (i : Nat) => D.int (i : Int))[j]? = some d) : j < n ∧ d = .int (j : Int) := by
  have hj : j < n := by
    have := (List.getElem?_eq_some_iff.mp h).1
    simpa using this
  rw [range_get n j hj] at h
  exact ⟨hj, (Option.some.inj h).symm⟩
theorem xRange1_some {p : XE} {vs : Vs} {H H' : Hp} {b : Int} {ds : List D} (h : p vs H = some (.int b, H')) (e : rangeOf 0 b = some ds) : xRange1 p vs H = some (ds, H') := by
  unfold xRange1
  rw [h, Option.bind_some]
  show (rangeOf 0 b).map (fun ds => (ds, H')) = _
  rw [e]
  rfl
theorem xRange1_nat {n : Nat} {vs : Vs} {H : Hp} (h : n < 1000000) : xRange1 (xLit (.int (n : Int))) vs H = some ((List.range n).map fun (i : Nat) => D.int (i : Int), H) := by
  exact xRange1_some rfl (range_of n h)
theorem e_for {i : Nat} {it : XI} {b o : XS} {vs : Vs} {H H1 : Hp} {ds : List D} {x : Option (Fl × Vs × Hp)} (h : it vs H = some (ds, H1)) (h2 : xLoop i b o ds vs H1 = x) : xFor i it b o vs H = x := by
  unfold xFor; rw [h]; exact h2
/-! _law_row -/
noncomputable abbrev lrBody : XS := (xSeq (xAssign 3 (xOp2 (fInt iMod) (xOp2 (fInt iDiv) (xVar 0) (xOp2 (fInt iPow) (xLit (.int 8)) (xOp2 (fInt iSub) (xLit (.int 2)) (xVar 2)))) (xLit (.int 8)))) (xSeq (xAssign 4 (xOp2 (fInt iMod) (xOp2 (fInt iDiv) (xVar 0) (xOp2 (fInt iPow) (xLit (.int 2)) (xOp2 (fInt iSub) (xLit (.int 11)) (xVar 2)))) (xLit (.int 2)))) (xSeq (xDo (xMeth isOwnL gAppend (xVar 1) [(xOp2 fItem (xLit (.str "-r")) (xOp2 (fInt iDiv) (xVar 3) (xLit (.int 4))))])) (xSeq (xDo (xMeth isOwnL gAppend (xVar 1) [(xOp2 fItem (xLit (.str "-w")) (xOp2 (fInt iMod) (xOp2 (fInt iDiv) (xVar 3) (xLit (.int 2))) (xLit (.int 2))))])) (xSeq (xDo (xMeth isOwnL gAppend (xVar 1) [(xOp2 fItem (xOp2 fItem (xLst [(xLit (.str "-xSs")), (xLit (.str "-xSs")), (xLit (.str "-xTt"))]) (xVar 2)) (xOp2 fAdd (xOp2 (fInt iMod) (xVar 3) (xLit (.int 2))) (xOp2 (fInt iMul) (xLit (.int 2)) (xVar 4))))])) xSkip)))))
noncomputable def xsign (j b a : Nat) : Nat := if j = 2 then xc 120 84 116 b a else xc 120 83 115 b a
noncomputable def rowPart (m j : Nat) : List Nat := [bc 114 (m / 8 ^ (2 - j) % 8 / 4), bc 119 (m / 8 ^ (2 - j) % 8 / 2 % 2), xsign j (m / 8 ^ (2 - j) % 8 % 2) (m / 2 ^ (11 - j) % 2)]
theorem lr_body {m k j : Nat} {xs : List D} {f a : Option D} {H : Hp} (hj : j < 3) (hk : H[k]? = some (.list xs)) (hl : xs.length < 50000) :
    lrBody [some (.int (m : Int)), some (.own k), some (.int (j : Int)), f, a] H = some (.next, [some (.int (m : Int)), some (.own k), some (.int (j : Int)), some (.int ((m / 8 ^ (2 - j) % 8 : Nat) : Int)), some (.int ((m / 2 ^ (11 - j) % 2 : Nat) : Int))], H.set k (.list (xs ++ (rowPart m j).map fun c => dS [c]))) := by
  have s1 : ∀ H, fInt iSub (.int 2) (.int (j : Int)) H = some (.int ((2 - j : Nat) : Int)) := fun H => sub_nat 2 j H (by omega)
  have s2 : ∀ H, fInt iSub (.int 11) (.int (j : Int)) H = some (.int ((11 - j : Nat) : Int)) := fun H => sub_nat 11 j H (by omega)
  have p1 : ∀ H, fInt iPow (.int 8) (.int ((2 - j : Nat) : Int)) H = some (.int ((8 ^ (2 - j) : Nat) : Int)) := fun H => pow_nat 8 (2 - j) H (by omega) (by omega)
  have p2 : ∀ H, fInt iPow (.int 2) (.int ((11 - j : Nat) : Int)) H = some (.int ((2 ^ (11 - j) : Nat) : Int)) := fun H => pow_nat 2 (11 - j) H (by omega) (by omega)
  have q1 : 0 < 8 ^ (2 - j) ∧ 8 ^ (2 - j) < 2 ^ 30 := by
    rcases or3 hj with rfl | rfl | rfl <;> decide
  have q2 : 0 < 2 ^ (11 - j) ∧ 2 ^ (11 - j) < 2 ^ 30 := by
    rcases or3 hj with rfl | rfl | rfl <;> decide
  have d1 : ∀ H, fInt iDiv (.int (m : Int)) (.int ((8 ^ (2 - j) : Nat) : Int)) H = some (.int ((m / 8 ^ (2 - j) : Nat) : Int)) := fun H => div_nat _ _ H q1.1 q1.2
  have d2 : ∀ H, fInt iDiv (.int (m : Int)) (.int ((2 ^ (11 - j) : Nat) : Int)) H = some (.int ((m / 2 ^ (11 - j) : Nat) : Int)) := fun H => div_nat _ _ H q2.1 q2.2
  unfold rowPart
  generalize m / 8 ^ (2 - j) = u at *
  generalize m / 2 ^ (11 - j) = v at *
  generalize 8 ^ (2 - j) = u1 at *
  generalize 2 ^ (11 - j) = v1 at *
  generalize 2 - j = u2 at *
  generalize 11 - j = v2 at *
  have m1 : ∀ H, fInt iMod (.int (u : Int)) (.int 8) H = some (.int ((u % 8 : Nat) : Int)) := fun H => mod_nat u 8 H (by omega)
  have m2 : ∀ H, fInt iMod (.int (v : Int)) (.int 2) H = some (.int ((v % 2 : Nat) : Int)) := fun H => mod_nat v 2 H (by omega)
  have hf : u % 8 < 8 := Nat.mod_lt _ (by omega)
  have ha : v % 2 < 2 := Nat.mod_lt _ (by omega)
  have g1 : ∀ H, fInt iDiv (.int ((u % 8 : Nat) : Int)) (.int 4) H = some (.int ((u % 8 / 4 : Nat) : Int)) := fun H => div_nat _ 4 H (by omega) (by omega)
  have g2 : ∀ H, fInt iDiv (.int ((u % 8 : Nat) : Int)) (.int 2) H = some (.int ((u % 8 / 2 : Nat) : Int)) := fun H => div_nat _ 2 H (by omega) (by omega)
  have g3 : ∀ H, fInt iMod (.int ((u % 8 / 2 : Nat) : Int)) (.int 2) H = some (.int ((u % 8 / 2 % 2 : Nat) : Int)) := fun H => mod_nat _ 2 H (by omega)
  have g4 : ∀ H, fInt iMod (.int ((u % 8 : Nat) : Int)) (.int 2) H = some (.int ((u % 8 % 2 : Nat) : Int)) := fun H => mod_nat _ 2 H (by omega)
  have g5 : ∀ H, fInt iMul (.int 2) (.int ((v % 2 : Nat) : Int)) H = some (.int ((2 * (v % 2) : Nat) : Int)) := fun H => mul_nat 2 _ H (by omega) (by omega)
  have g6 : ∀ H, fAdd (.int ((u % 8 % 2 : Nat) : Int)) (.int ((2 * (v % 2) : Nat) : Int)) H = some (.int ((u % 8 % 2 + 2 * (v % 2) : Nat) : Int)) := fun H => add_nat _ _ H
  have i1 : ∀ H, fItem (.str "-r") (.int ((u % 8 / 4 : Nat) : Int)) H = some (dS [bc 114 (u % 8 / 4)]) := fun H => by
    refine fItem_str (l := [45, 114]) ?_ (by omega)
    rcases or2 (Nat.div_lt_of_lt_mul (show u % 8 < 4 * 2 from hf)) with e | e <;> rw [e] <;> rfl
  have i2 : ∀ H, fItem (.str "-w") (.int ((u % 8 / 2 % 2 : Nat) : Int)) H = some (dS [bc 119 (u % 8 / 2 % 2)]) := fun H => by
    refine fItem_str (l := [45, 119]) ?_ (by omega)
    rcases mod2 (u % 8 / 2) with e | e <;> rw [e] <;> rfl
  have i3 : ∀ H, fItem (.lst [.str "-xSs", .str "-xSs", .str "-xTt"]) (.int (j : Int)) H = some (if j = 2 then .str "-xTt" else .str "-xSs") := fun H => by
    refine fItem_lst ?_ (by omega)
    rcases or3 hj with rfl | rfl | rfl <;> rfl
  have i4 : ∀ H, fItem (if j = 2 then .str "-xTt" else .str "-xSs") (.int ((u % 8 % 2 + 2 * (v % 2) : Nat) : Int)) H = some (dS [xsign j (u % 8 % 2) (v % 2)]) := fun H => by
    unfold xsign
    by_cases h2 : j = 2
    · rw [if_pos h2, if_pos h2]
      refine fItem_str (l := [45, 120, 84, 116]) ?_ (by omega)
      rcases mod2 (u % 8) with e | e <;> rcases mod2 v with e' | e' <;> rw [e, e'] <;> rfl
    · rw [if_neg h2, if_neg h2]
      refine fItem_str (l := [45, 120, 83, 115]) ?_ (by omega)
      rcases mod2 (u % 8) with e | e <;> rcases mod2 v with e' | e' <;> rw [e, e'] <;> rfl
  have o1 := isOwnL_own hk
  have a1 := append_own (d := dS [bc 114 (u % 8 / 4)]) hk (by omega)
  have hk1 : ∀ l : List D, (H.set k (.list l))[k]? = some (.list l) := fun l => List.getElem?_set_self (List.getElem?_eq_some_iff.mp hk).1
  have o2 := fun l => isOwnL_own (hk1 l)
  have a2 := append_own (d := dS [bc 119 (u % 8 / 2 % 2)]) (hk1 (xs ++ [dS [bc 114 (u % 8 / 4)]])) (by simp; omega)
  have a3 := append_own (d := dS [xsign j (u % 8 % 2) (v % 2)]) (hk1 (xs ++ [dS [bc 114 (u % 8 / 4)]] ++ [dS [bc 119 (u % 8 / 2 % 2)]])) (by simp; omega)
  rw [List.set_set] at a2 a3
  simp only [List.append_assoc, List.cons_append, List.nil_append] at a2 a3
  have ok : ∀ a b c : D, okLen [a, b, c] = true := fun _ _ _ => by simp [okLen]
  generalize bc 114 (u % 8 / 4) = c1 at *
  generalize bc 119 (u % 8 / 2 % 2) = c2 at *
  generalize xsign j (u % 8 % 2) (v % 2) = c3 at *
  repeat' first | assumption | exact e_lit | exact e_skip | exact e_var rfl | exact e_nil | exact e_pn | apply e_fin | apply e_seq | apply e_asg | apply e_op | apply e_test | apply e_call | apply e_cons | apply e_meth | apply e_do | apply e_lst | apply e_tup | apply e_new | apply e_retS | apply e_ret | apply e_ps | apply e_slice | apply e_tru | apply e_it | apply e_seti | apply e_aug | apply_assumption
theorem q84 (m : Nat) : m % 8 / 4 = m / 4 % 2 := Nat.mod_mul_right_div_self m 4 2
theorem q82 (m : Nat) : m % 8 / 2 % 2 = m / 2 % 2 := (congrArg (· % 2) (Nat.mod_mul_right_div_self m 2 4)).trans (Nat.mod_mod_of_dvd _ ⟨2, rfl⟩)
theorem q81 (m : Nat) : m % 8 % 2 = m % 2 := Nat.mod_mod_of_dvd m ⟨4, rfl⟩
theorem rowParts (m : Nat) : row m = tc (m / 4096 % 16) :: (rowPart m 0 ++ rowPart m 1 ++ rowPart m 2) := by
  unfold row rowPart xsign
  rw [q84, q84, q84, q82, q82, q82, q81, q81, q81, Nat.div_div_eq_div_mul, Nat.div_div_eq_div_mul, Nat.div_div_eq_div_mul, Nat.div_div_eq_div_mul, Nat.div_div_eq_div_mul, Nat.div_div_eq_div_mul]
  rfl
theorem row_len (m : Nat) : (row m).length = 10 := rfl
theorem flat_one (l : List Nat) : (l.map fun c => [c]).flatten = l := by
  induction l with
  | nil => rfl
  | cons a l ih => simp [ih]
theorem law_row_eval (m : Nat) (H : Hp) : ∃ J, G_law_row [.int (m : Int)] H = some (dS (row m), H ++ J) := by
  have hb : b_law_row = (xSeq (xAssign 1 (xNew [(xOp2 fItem (xLit (.str "?pc?d?b?-?l?s???")) (xOp2 (fInt iMod) (xOp2 (fInt iDiv) (xVar 0) (xLit (.int 4096))) (xLit (.int 16))))])) (xSeq (xFor 2 (xRange1 (xLit (.int 3))) lrBody xSkip) (xSeq (xRet (xMeth isStrD gJoin (xLit (.str "")) [(xVar 1)])) xSkip))) := rfl
  have d1 : ∀ H, fInt iDiv (.int (m : Int)) (.int 4096) H = some (.int ((m / 4096 : Nat) : Int)) := fun H => div_nat m 4096 H (by omega) (by omega)
  have d2 : ∀ H, fInt iMod (.int ((m / 4096 : Nat) : Int)) (.int 16) H = some (.int ((m / 4096 % 16 : Nat) : Int)) := fun H => mod_nat _ 16 H (by omega)
  have ht : m / 4096 % 16 < 16 := Nat.mod_lt _ (by omega)
  have i1 : ∀ H, fItem (.str "?pc?d?b?-?l?s???") (.int ((m / 4096 % 16 : Nat) : Int)) H = some (dS [tc (m / 4096 % 16)]) := fun H => by
    refine fItem_str (l := [63, 112, 99, 63, 100, 63, 98, 63, 45, 63, 108, 63, 115, 63, 63, 63]) ?_ (by omega)
    unfold tc
    generalize m / 4096 % 16 = t at ht
    have key : ∀ t < 16, ([63, 112, 99, 63, 100, 63, 98, 63, 45, 63, 108, 63, 115, 63, 63, 63] : List Nat)[t]? = some ([63, 112, 99, 63, 100, 63, 98, 63, 45, 63, 108, 63, 115, 63, 63, 63].getD t 63) := by decide
    exact key t ht
  have n1 : xNew [(xOp2 fItem (xLit (.str "?pc?d?b?-?l?s???")) (xOp2 (fInt iMod) (xOp2 (fInt iDiv) (xVar 0) (xLit (.int 4096))) (xLit (.int 16))))] [some (.int (m : Int)), none, none, none, none] H = some (.own H.length, H ++ [.list [dS [tc (m / 4096 % 16)]]])  := e_new (e_cons (e_op e_lit (e_op (e_op (e_var rfl) e_lit (d1 _)) e_lit (d2 _)) (i1 _)) e_nil) rfl
  obtain ⟨vs', H', e, h1, h2⟩ := xLoop_inv (i := 2) (body := lrBody) (fun j vs H' => ∃ a f g, vs = [some (.int (m : Int)), some (.own H.length), a, f, g] ∧ H' = H ++ [.list ((tc (m / 4096 % 16) :: ((List.range j).flatMap (rowPart m))).map fun c => dS [c])])
    ((List.range 3).map fun (i : Nat) => D.int (i : Int)) 0 [some (.int (m : Int)), some (.own H.length), none, none, none] (H ++ [.list [dS [tc (m / 4096 % 16)]]]) ⟨_, _, _, rfl, rfl⟩ (by
      rintro j d vs H1 hd ⟨a, f, g, rfl, rfl⟩
      obtain ⟨hj, rfl⟩ := range_some hd
      rw [Nat.zero_add]
      have hlen : ∀ j < 3, ((tc (m / 4096 % 16) :: ((List.range j).flatMap (rowPart m))).map fun c => dS [c]).length < 50000 := by
        intro j hj
        rcases or3 hj with rfl | rfl | rfl <;> simp [List.range_succ, rowPart]
      refine ⟨_, _, lr_body hj get_new (hlen j hj), _, _, _, rfl, ?_⟩
      rw [set_new, List.range_succ]
      simp)
  obtain ⟨f, g, rfl, rfl⟩ := h2
  have hr : (tc (m / 4096 % 16) :: ((List.range 3).flatMap (rowPart m))) = row m := by
    rw [rowParts]; simp [List.range_succ]
  simp only [List.length_map, List.length_range, Nat.zero_add, hr] at e
  refine ⟨[.list ((row m).map fun c => dS [c])], ?_⟩
  have e2 : gJoin (dS []) [.own H.length] (H ++ [.list ((row m).map fun c => dS [c])]) = some (dS (row m), H ++ [.list ((row m).map fun c => dS [c])]) := by
    have := join_S (o := .own H.length) (l := (row m).map fun c => [c]) (H := H ++ [.list ((row m).map fun c => dS [c])]) (by rw [its_own' get_new]; simp) (by rw [flat_one, row_len]; omega)
    rw [flat_one] at this
    exact this
  have l0 : ("" : Str) = S [] := rfl
  have r1 : ∀ vs H, xRange1 (xLit (.int 3)) vs H = some ((List.range 3).map fun (i : Nat) => D.int (i : Int), H) := fun vs H => xRange1_nat (n := 3) (by omega)
  exact e_fun rfl ((congrFun (congrFun hb _) _).trans (e_seq (e_asg n1) (e_seq (e_for (xRange1_nat (n := 3) (by decide)) e) (e_retS (e_meth e_lit rfl (e_cons (e_var rfl) e_nil) e2)))))
end Mine
open PySem PySem.W PyProof.Rows
set_option maxRecDepth 100000
namespace Mine
/-! frames of own objects -/
noncomputable def Fr (L : List Nat) (H H' : Hp) : Prop := H.length ≤ H'.length ∧ ∀ j, j < H.length → j ∉ L → H'[j]? = H[j]?
theorem Fr.trans {L L' : List Nat} {H H' H'' : Hp} (a : Fr L H H') (b : Fr L' H' H'') (h : ∀ j ∈ L', j < H.length → j ∈ L) : Fr L H H'' := by
  refine ⟨Nat.le_trans a.1 b.1, fun j hj hn => ?_⟩
  rw [b.2 j (Nat.lt_of_lt_of_le hj a.1) (fun m => hn (h j m hj)), a.2 j hj hn]
theorem Fr.mono {L L' : List Nat} {H H' : Hp} (a : Fr L H H') (h : ∀ j ∈ L, j ∈ L') : Fr L' H H' := ⟨a.1, fun j hj hn => a.2 j hj fun m => hn (h j m)⟩
theorem Fr.set (H : Hp) (k : Nat) (a : CO) : Fr [k] H (H.set k a) := ⟨by simp, fun j _ hn => by rw [List.getElem?_set_ne (by rintro rfl; exact hn (.head _))]⟩
theorem Fr.app (L : List Nat) (H J : Hp) : Fr L H (H ++ J) := ⟨by simp, fun j hj _ => List.getElem?_append_left hj⟩
theorem Fr.get {L : List Nat} {H H' : Hp} (a : Fr L H H') {j : Nat} {o : CO} (h : H[j]? = some o) (hn : j ∉ L) : H'[j]? = some o := by
  rw [a.2 j (List.getElem?_eq_some_iff.mp h).1 hn, h]
theorem get_lt {H : Hp} {j : Nat} {o : CO} (h : H[j]? = some o) : j < H.length := (List.getElem?_eq_some_iff.mp h).1
theorem set_get {H : Hp} {j : Nat} {o a : CO} (h : H[j]? = some o) : (H.set j a)[j]? = some a := List.getElem?_set_self (get_lt h)

/-! lexers -/
structure LS where
  text : List Nat
  tot : Int
  ws : List Nat
  push : List (List Nat)
structure Ix where
  k : Nat
  kd : Nat
  pb : Nat
  t : Nat
  td : Nat
  lm : Nat
  lf : Nat
noncomputable def Ix.all (x : Ix) : List Nat := [x.k, x.kd, x.pb, x.t, x.td, x.lm, x.lf]
noncomputable def LS.line (s : LS) : Int := s.tot - (s.text.count 10 : Nat)
structure LexAt (C : Addr) (H : Hp) (x : Ix) (s : LS) : Prop where
  inst : H[x.k]? = some (.inst C x.kd)
  attrs : ∃ f, H[x.kd]? = some (.attrs lexNs f) ∧ f "lineno" = some (.int s.line) ∧ f "instream" = some (.own x.t) ∧ f "whitespace" = some (dS s.ws) ∧ f "pushback" = some (.own x.pb)
  pb : H[x.pb]? = some (.list (s.push.map dS))
  tinst : H[x.t]? = some (.inst C x.td)
  tattrs : ∃ g, H[x.td]? = some (.attrs lexNs g) ∧ g "read" = some (.own x.lm) ∧ g "instream" = some (.own x.lf)
  lam : H[x.lm]? = some (.lam x.lf)
  left : H[x.lf]? = some (.list (s.text.map fun c => dS [c]))
  ne1 : x.pb ≠ x.lf
  ne2 : x.kd ≠ x.td
  ok : OkS s.text
  len : s.text.length < 900
section
variable {C : Addr} {H H' : Hp} {x : Ix} {s : LS}
theorem LexAt.frame {L : List Nat} (l : LexAt C H x s) (f : Fr L H H') (h : ∀ j ∈ x.all, j ∉ L) : LexAt C H' x s where
  inst := f.get l.inst (h _ (by simp [Ix.all]))
  attrs := let ⟨g, a, r⟩ := l.attrs; ⟨g, f.get a (h _ (by simp [Ix.all])), r⟩
  pb := f.get l.pb (h _ (by simp [Ix.all]))
  tinst := f.get l.tinst (h _ (by simp [Ix.all]))
  tattrs := let ⟨g, a, r⟩ := l.tattrs; ⟨g, f.get a (h _ (by simp [Ix.all])), r⟩
  lam := f.get l.lam (h _ (by simp [Ix.all]))
  left := f.get l.left (h _ (by simp [Ix.all]))
  ne1 := l.ne1
  ne2 := l.ne2
  ok := l.ok
  len := l.len
theorem LexAt.lt (l : LexAt C H x s) : ∀ j ∈ x.all, j < H.length := by
  intro j hj
  simp only [Ix.all, List.mem_cons, List.not_mem_nil, or_false] at hj
  obtain ⟨f, a1, _⟩ := l.attrs
  obtain ⟨g, a2, _⟩ := l.tattrs
  rcases hj with rfl | rfl | rfl | rfl | rfl | rfl | rfl
  · exact get_lt l.inst
  · exact get_lt a1
  · exact get_lt l.pb
  · exact get_lt l.tinst
  · exact get_lt a2
  · exact get_lt l.lam
  · exact get_lt l.left
theorem LexAt.app (l : LexAt C H x s) (J : Hp) : LexAt C (H ++ J) x s := l.frame (Fr.app [] H J) (by simp)

theorem gAttr_of {name : Str} {k kd : Nat} {f : Str → Option D} {d : D} (h1 : H[k]? = some (.inst C kd)) (h2 : H[kd]? = some (.attrs lexNs f)) (hn : name ∈ lexNs) (hf : f name = some d) (ho : okHand d = true) : gAttr C lexNs name (.own k) H = some d := by
  unfold gAttr
  simp only [h1, h2]
  rw [if_pos ⟨trivial, trivial, hn⟩, hf, Option.bind_some, if_pos ho]
theorem gSet_of {name : Str} {k kd : Nat} {f : Str → Option D} {d : D} (h1 : H[k]? = some (.inst C kd)) (h2 : H[kd]? = some (.attrs lexNs f)) (hn : name ∈ lexNs) : gSet C lexNs name (.own k) d H = some (H.set kd (.attrs lexNs fun y => if y = name then some d else f y)) := by
  unfold gSet
  simp only [h1, h2]
  rw [if_pos ⟨trivial, trivial, hn⟩]
theorem isInst_of {k kd : Nat} {f : Str → Option D} (h1 : H[k]? = some (.inst C kd)) (h2 : H[kd]? = some (.attrs lexNs f)) : isInst C lexNs (.own k) H = true := by
  unfold isInst
  simp only [h1, h2]
  simp
theorem LexAt.isI (l : LexAt C H x s) : isInst C lexNs (.own x.k) H = true := let ⟨f, a, _⟩ := l.attrs; isInst_of l.inst a
theorem in_line : ("lineno" : Str) ∈ lexNs := by decide +kernel
theorem in_instream : ("instream" : Str) ∈ lexNs := by decide +kernel
theorem in_ws : ("whitespace" : Str) ∈ lexNs := by decide +kernel
theorem in_pb : ("pushback" : Str) ∈ lexNs := by decide +kernel
theorem in_read : ("read" : Str) ∈ lexNs := by decide +kernel
theorem LexAt.gInstream (l : LexAt C H x s) : gAttr C lexNs "instream" (.own x.k) H = some (.own x.t) := let ⟨f, a, _, b, _⟩ := l.attrs; gAttr_of l.inst a in_instream b rfl
theorem LexAt.gLine (l : LexAt C H x s) : gAttr C lexNs "lineno" (.own x.k) H = some (.int s.line) := let ⟨f, a, b, _⟩ := l.attrs; gAttr_of l.inst a in_line b rfl
theorem LexAt.gWs (l : LexAt C H x s) : gAttr C lexNs "whitespace" (.own x.k) H = some (dS s.ws) := let ⟨f, a, _, _, b, _⟩ := l.attrs; gAttr_of l.inst a in_ws b rfl
theorem LexAt.gPb (l : LexAt C H x s) : gAttr C lexNs "pushback" (.own x.k) H = some (.own x.pb) := let ⟨f, a, _, _, _, b⟩ := l.attrs; gAttr_of l.inst a in_pb b rfl
theorem LexAt.gRd (l : LexAt C H x s) : gAttr C lexNs "read" (.own x.t) H = some (.own x.lm) := let ⟨f, a, b, _⟩ := l.tattrs; gAttr_of l.tinst a in_read b rfl
theorem LexAt.gLeft (l : LexAt C H x s) : gAttr C lexNs "instream" (.own x.t) H = some (.own x.lf) := let ⟨f, a, _, b⟩ := l.tattrs; gAttr_of l.tinst a in_instream b rfl

/-! a list of signs against [] -/
theorem canLayAll_signs : ∀ {l : List Nat}, OkS l → PyData.canLayAll0 (l.map fun c => PyData.str (S [c])) = true
  | [], _ => rfl
  | a :: l, h => by
    have h1 : PyData.strOk (S [a]) = true := okS_str (l := [a]) fun c hc => by rw [List.mem_singleton.mp hc]; exact h a (.head _)
    have h2 := canLayAll_signs (l := l) fun c hc => h c (.tail _ hc)
    simp [PyData.canLayAll0, PyData.canLay0, h1, h2]
theorem depthAll_signs : ∀ (l : List Nat), PyData.depthAll (l.map fun c => PyData.str (S [c])) = 0
  | [] => rfl
  | a :: l => by simp [PyData.depthAll, PyData.depth, depthAll_signs l]
theorem toPy_signs (n : Nat) (l : List Nat) : (l.map fun c => dS [c]).mapM (toPy (n + 1) H) = some (l.map fun c => PyData.str (S [c])) := mapM_map (f := toPy (n + 1) H) (g := fun c => dS [c]) (h := fun c => PyData.str (S [c])) (fun _ => rfl) l
theorem ne_nil {j : Nat} {l : List Nat} (h : H[j]? = some (.list (l.map fun c => dS [c]))) (ho : OkS l) : fNe (.own j) (.lst []) H = some (.bool (!l.isEmpty)) := by
  have e1 : toPy 8 H (.own j) = some (.list (l.map fun c => PyData.str (S [c]))) := by
    show (match H[j]? with | some (.list xs) => (xs.mapM (toPy 7 H)).map PyData.list | _ => none) = _
    rw [h]
    show (List.mapM (toPy 7 H) (l.map fun c => dS [c])).map PyData.list = _
    rw [toPy_signs 6]; rfl
  have e2 : toPy 8 H (.lst []) = some (.list []) := rfl
  have e3 : PyData.eqv (.list (l.map fun c => PyData.str (S [c]))) (.list []) = l.isEmpty := by
    cases l <;> simp [PyData.eqv, PyData.eqvAll]
  unfold fNe
  rw [e1, e2, Option.bind_some, Option.bind_some, e3, if_pos]
  simp [SeqAt.shaped, PyData.canLay0, canLayAll_signs ho, PyData.depth, depthAll_signs, PyData.canLayAll0, PyData.depthAll]
theorem read_nil {j : Nat} (h : H[j]? = some (.list [])) : gRead j [.int 1] H = some (dS [], H) := by
  have e := ne_nil (l := []) h (by intro c hc; cases hc)
  show (fNe (.own j) (.lst []) H).bind _ = _
  rw [e]; rfl
theorem read_cons {j c : Nat} {t : List Nat} (h : H[j]? = some (.list ((c :: t).map fun c => dS [c]))) (ho : OkS (c :: t)) (hl : t.length < 900) : gRead j [.int 1] H = some (dS [c], H.set j (.list (t.map fun c => dS [c]))) := by
  have e := ne_nil h ho
  show (fNe (.own j) (.lst []) H).bind _ = _
  rw [e]
  exact pop_own (by rw [h]; rfl) (by rw [List.length_map]; omega)
theorem OkS.tail {c : Nat} {t : List Nat} (h : OkS (c :: t)) : OkS t := fun a ha => h a (.tail _ ha)
theorem OkS.one {c : Nat} (h : c < 1114112) : OkS [c] := fun a ha => by rw [List.mem_singleton.mp ha]; exact h
theorem okS_nil : OkS [] := fun a ha => by cases ha

/-- the lexer behind the reading of one sign -/
theorem LexAt.read (l : LexAt C H x s) {c : Nat} {t : List Nat} (hs : s.text = c :: t) : ∃ H', G_read_char C [.own x.k] H = some (dS [c], H') ∧ LexAt C H' x { s with text := t } ∧ Fr [x.kd, x.lf] H H' := by
  obtain ⟨f, a1, a2, a3, a4, a5⟩ := l.attrs
  obtain ⟨g, b1, b2, b3⟩ := l.tattrs
  have hok : OkS (c :: t) := hs ▸ l.ok
  have hlen : t.length < 900 := by have := l.len; rw [hs] at this; simp at this; omega
  have r1 := read_cons (by rw [← hs]; exact l.left) hok hlen
  have n1 : x.lf ≠ x.k := by intro e; have := l.left; rw [e, l.inst] at this; cases this
  have n2 : x.lf ≠ x.kd := by intro e; have := l.left; rw [e, a1] at this; cases this
  have n3 : x.lf ≠ x.t := by intro e; have := l.left; rw [e, l.tinst] at this; cases this
  have n4 : x.lf ≠ x.td := by intro e; have := l.left; rw [e, b1] at this; cases this
  have n5 : x.lf ≠ x.lm := by intro e; have := l.left; rw [e, l.lam] at this; cases this
  have n6 : x.kd ≠ x.k := by intro e; rw [e, l.inst] at a1; cases a1
  have n7 : x.kd ≠ x.t := by intro e; rw [e, l.tinst] at a1; cases a1
  have n8 : x.kd ≠ x.lm := by intro e; rw [e, l.lam] at a1; cases a1
  have n9 : x.kd ≠ x.pb := by intro e; rw [e, l.pb] at a1; cases a1
  have fl := Fr.set H x.lf (.list (t.map fun c => dS [c]))
  have e1 : fEq (dS [c]) (.str "\n") (H.set x.lf (.list (t.map fun c => dS [c]))) = some (.bool ([c] == [10])) := fEq_str (b := [10]) (OkS.one (hok c (.head _))) (OkS.one (by omega))
  have hr : xRead C lexNs "read" (xAttr C lexNs "instream" (xVar 0)) [some (.own x.k), none] H = some (dS [c], H.set x.lf (.list (t.map fun c => dS [c]))) := by
    simp only [xRead, xAttr, xSeq, xBr, xTest, xOp2, xVar, xLit, xDo, xMeth, xCall, xAll, xSkip, xBrk, xCont, xRet, xAssign, xAug, xIf, xTT, xFF, xTru, tBool, xAndV, xOrV, xLst, xTup, Option.bind_some, Option.map_some, List.getElem?_cons_zero, List.getElem?_cons_succ, List.set_cons_zero, List.set_cons_succ, List.set_nil, List.getElem?_nil, if_true, reduceIte, Bool.false_eq_true, if_false, List.set_set, l.gInstream, l.gRd, l.lam]
    exact r1
  by_cases hc : c = 10
  · subst hc
    have l2 : gAttr C lexNs "lineno" (.own x.k) (H.set x.lf (.list (t.map fun c => dS [c]))) = some (.int s.line) := gAttr_of (fl.get l.inst (by simpa using n1.symm)) (fl.get a1 (by simpa using n2.symm)) in_line a2 rfl
    have l3 := gSet_of (d := .int (s.line + 1)) (fl.get l.inst (by simpa using n1.symm)) (fl.get a1 (by simpa using n2.symm)) in_line
    refine ⟨(H.set x.lf (.list (t.map fun c => dS [c]))).set x.kd (.attrs lexNs fun y => if y = "lineno" then some (.int (s.line + 1)) else f y), ?_, ?_, ?_⟩
    · have e2 : fInt iAdd (.int s.line) (.int 1) (H.set x.lf (.list (t.map fun c => dS [c]))) = some (.int (s.line + 1)) := rfl
      exact e_fun rfl (e_seq (e_asg hr) (e_seq (e_brt (e_test (e_var rfl) e_lit e1) (e_fin (e_augA (e_var rfl) l2 e_lit e2 l3))) (e_retS (e_var rfl))))
    · have fk := Fr.set (H.set x.lf (.list (t.map fun c => dS [c]))) x.kd (.attrs lexNs fun y => if y = "lineno" then some (.int (s.line + 1)) else f y)
      refine ⟨fk.get (fl.get l.inst (by simpa using n1.symm)) (by simpa using n6.symm), ⟨_, set_get (fl.get a1 (by simpa using n2.symm)), ?_, ?_, ?_, ?_⟩, fk.get (fl.get l.pb (by simpa using l.ne1)) (by simpa using n9.symm), fk.get (fl.get l.tinst (by simpa using n3.symm)) (by simpa using n7.symm), ⟨g, fk.get (fl.get b1 (by simpa using n4.symm)) (by simpa using l.ne2.symm), b2, b3⟩,
        fk.get (fl.get l.lam (by simpa using n5.symm)) (by simpa using n8.symm), fk.get (set_get l.left) (by simpa using n2), l.ne1, l.ne2, hok.tail, hlen⟩
      · simp only [if_true]
        unfold LS.line
        rw [hs]
        simp; omega
      · show (if ("instream" : Str) = "lineno" then _ else _) = _
        rw [if_neg (by decide +kernel)]; exact a3
      · show (if ("whitespace" : Str) = "lineno" then _ else _) = _
        rw [if_neg (by decide +kernel)]; exact a4
      · show (if ("pushback" : Str) = "lineno" then _ else _) = _
        rw [if_neg (by decide +kernel)]; exact a5
    · exact (fl.mono (L' := [x.kd, x.lf]) (by simp)).trans (Fr.set _ _ _) (by simp)
  · refine ⟨H.set x.lf (.list (t.map fun c => dS [c])), ?_, ?_, fl.mono (by simp)⟩
    · have : ([c] == [10]) = false := by simpa using hc
      rw [this] at e1
      exact e_fun rfl (e_seq (e_asg hr) (e_seq (e_brf (e_test (e_var rfl) e_lit e1) e_skip) (e_retS (e_var rfl))))
    · refine ⟨fl.get l.inst (by simpa using n1.symm), ⟨f, fl.get a1 (by simpa using n2.symm), ?_, a3, a4, a5⟩, fl.get l.pb (by simpa using l.ne1), fl.get l.tinst (by simpa using n3.symm), ⟨g, fl.get b1 (by simpa using n4.symm), b2, b3⟩, fl.get l.lam (by simpa using n5.symm), set_get l.left, l.ne1, l.ne2, hok.tail, hlen⟩
      rw [a2]
      unfold LS.line
      rw [hs]
      simp [List.count_cons, hc]
theorem LexAt.readEnd (l : LexAt C H x s) (hs : s.text = []) : G_read_char C [.own x.k] H = some (dS [], H) := by
  have r1 : gRead x.lf [.int 1] H = some (dS [], H) := read_nil (by rw [l.left, hs]; rfl)
  have e1 : fEq (dS []) (.str "\n") H = some (.bool false) := fEq_str (b := [10]) okS_nil (OkS.one (by omega))
  have hr : xRead C lexNs "read" (xAttr C lexNs "instream" (xVar 0)) [some (.own x.k), none] H = some (dS [], H) := by
    simp only [xRead, xAttr, xSeq, xBr, xTest, xOp2, xVar, xLit, xDo, xMeth, xCall, xAll, xSkip, xBrk, xCont, xRet, xAssign, xAug, xIf, xTT, xFF, xTru, tBool, xAndV, xOrV, xLst, xTup, Option.bind_some, Option.map_some, List.getElem?_cons_zero, List.getElem?_cons_succ, List.set_cons_zero, List.set_cons_succ, List.set_nil, List.getElem?_nil, if_true, reduceIte, Bool.false_eq_true, if_false, List.set_set, l.gInstream, l.gRd, l.lam]
    exact r1
  exact e_fun rfl (e_seq (e_asg hr) (e_seq (e_brf (e_test (e_var rfl) e_lit e1) e_skip) (e_retS (e_var rfl))))
end
end Mine
open PySem PySem.W PyProof.Rows
set_option maxRecDepth 100000
namespace Mine
section
variable {C : Addr} {H H' : Hp} {x : Ix} {s : LS} {ci : Nat}
/-! iter(self._read_char, '') -/
theorem LexAt.next (l : LexAt C H x s) {c : Nat} {t : List Nat} (hs : s.text = c :: t) (hci : H[ci]? = some (.citer x.k false)) :
    ∃ H', gNext (G_read_char C) ci H = some (some (dS [c]), H') ∧ LexAt C H' x { s with text := t } ∧ Fr [x.kd, x.lf] H H' ∧ H'[ci]? = some (.citer x.k false) := by
  obtain ⟨H', e, l', f⟩ := l.read hs
  obtain ⟨g, a1, _⟩ := l.attrs
  have hn : ci ∉ [x.kd, x.lf] := by
    simp only [List.mem_cons, List.not_mem_nil, or_false, not_or]
    refine ⟨fun q => ?_, fun q => ?_⟩
    · rw [q, a1] at hci; cases hci
    · rw [q, l.left] at hci; cases hci
  have hc' := f.get hci hn
  refine ⟨H', ?_, l', f, hc'⟩
  have hl : (S [c]).length = 1 := rfl
  unfold gNext
  simp only [hci, e, Option.bind_some, hc', if_true, hl, Nat.one_ne_zero, if_false]
theorem LexAt.nextEnd (l : LexAt C H x s) (hs : s.text = []) (hci : H[ci]? = some (.citer x.k false)) : gNext (G_read_char C) ci H = some (none, H.set ci (.citer x.k true)) := by
  have e := l.readEnd hs
  have hl : (S []).length = 0 := rfl
  unfold gNext
  simp only [hci, e, Option.bind_some, if_true, hl]
theorem next_ended {k : Nat} (hci : H[ci]? = some (.citer k true)) : gNext (G_read_char C) ci H = some (none, H) := by
  unfold gNext
  simp only [hci]
/-! the reading of a word -/
noncomputable def rd (stop : Nat → Bool) : List Nat → List Nat × Option (List Nat)
  | [] => ([], none)
  | [c] => if stop c then ([], some []) else if c = 92 then ([], none) else ([c], none)
  | c :: e :: t => if stop c then ([], some (e :: t)) else if c = 92 then (e :: (rd stop t).1, (rd stop t).2) else (c :: (rd stop (e :: t)).1, (rd stop (e :: t)).2)
noncomputable abbrev rcM {C : Addr} : XE := xMeth (isInst C lexNs) (fun o ds H => (G_read_char C) (o :: ds) H) (xVar 0) []
noncomputable abbrev inBody (C : Addr) (c0 : XB) : XS := (xSeq (xBr c0 (xSeq (xRet (xVar 1)) xSkip) (xSeq (xBr (xTest fEq (xVar 3) (xLit (.str "\\"))) (xSeq (xAssign 3 (rcM (C := C))) xSkip) xSkip) xSkip)) (xSeq (xAug 1 fIAddS (xVar 3)) xSkip))
/-- what the loop leaves -/
noncomputable def LoopOut (C : Addr) (x : Ix) (s : LS) (ci : Nat) (H : Hp) (tok : List Nat) (r : List Nat × Option (List Nat)) (o : Option (Fl × Vs × Hp)) : Prop :=
  match r.2 with
  | some rest => ∃ vs' H', o = some (.ret (dS (tok ++ r.1)), vs', H') ∧ LexAt C H' x { s with text := rest } ∧ Fr [x.kd, x.lf] H H'
  | none => ∃ ch H', o = some (.next, [some (.own x.k), some (dS (tok ++ r.1)), some (.own ci), ch], H') ∧ LexAt C H' x { s with text := [] } ∧ Fr [x.kd, x.lf, ci] H H' ∧ H'[ci]? = some (.citer x.k true)
theorem LexAt.ci_ne (l : LexAt C H x s) {b : Bool} (hci : H[ci]? = some (.citer x.k b)) : ∀ j ∈ x.all, j ∉ [ci] := by
  intro j hj
  obtain ⟨f, a1, _⟩ := l.attrs
  obtain ⟨g, a2, _⟩ := l.tattrs
  simp only [Ix.all, List.mem_cons, List.not_mem_nil, or_false] at hj
  rw [List.mem_singleton]
  rintro rfl
  rcases hj with q | q | q | q | q | q | q <;> rw [q] at hci
  · rw [l.inst] at hci; cases hci
  · rw [a1] at hci; cases hci
  · rw [l.pb] at hci; cases hci
  · rw [l.tinst] at hci; cases hci
  · rw [a2] at hci; cases hci
  · rw [l.lam] at hci; cases hci
  · rw [l.left] at hci; cases hci
theorem LexAt.setCi (l : LexAt C H x s) {b : Bool} (hci : H[ci]? = some (.citer x.k b)) (o : CO) : LexAt C (H.set ci o) x s := l.frame (Fr.set H ci o) (l.ci_ne hci)
theorem LoopOut.after {tok a : List Nat} {r : List Nat × Option (List Nat)} {o : Option (Fl × Vs × Hp)} {t : List Nat} (f : Fr [x.kd, x.lf] H H') (h : LoopOut C x { s with text := t } ci H' (tok ++ a) r o) : LoopOut C x s ci H tok (a ++ r.1, r.2) o := by
  unfold LoopOut at h ⊢
  cases hr : r.2 with
  | some rest =>
    rw [hr] at h
    obtain ⟨vs', H2, e, l, g⟩ := h
    exact ⟨vs', H2, by rw [e, List.append_assoc], l, f.trans g (by simp)⟩
  | none =>
    rw [hr] at h
    obtain ⟨ch, H2, e, l, g, c⟩ := h
    exact ⟨ch, H2, by rw [e, List.append_assoc], l, (f.mono (by simp)).trans g (by simp), c⟩
theorem loop_in {ws0 : List Nat} {stop : Nat → Bool} {c0 : XB} (hstop : ∀ (H : Hp) (s : LS) (tok : List Nat) (c : Nat), LexAt C H x s → c < 1114112 → s.ws = ws0 → c0 [some (.own x.k), some (dS tok), some (.own ci), some (dS [c])] H = some (stop c, H)) (fuel : Nat) :
    ∀ (text tok : List Nat) (ch : Option D) (H : Hp) (s : LS), s.text = text → s.ws = ws0 → text.length < fuel → tok.length + text.length ≤ 900000 → LexAt C H x s → H[ci]? = some (.citer x.k false) →
      LoopOut C x s ci H tok (rd stop text) (xLoopC (G_read_char C) 3 ci (inBody C c0) xSkip fuel [some (.own x.k), some (dS tok), some (.own ci), ch] H) := by
  induction fuel with
  | zero => intro text tok ch H s _ _ hf; omega
  | succ fuel ih =>
    intro text tok ch H s hs hw hf hl l hci
    match text, hs with
    | [], hs =>
      have e := l.nextEnd hs hci
      show LoopOut C x s ci H tok ([], none) _
      refine ⟨ch, H.set ci (.citer x.k true), ?_, ?_, (Fr.set H ci _).mono (by simp), set_get hci⟩
      · show (gNext (G_read_char C) ci H).bind _ = _
        rw [e]; simp [xSkip]
      · have : ({ s with text := [] } : LS) = s := by rw [← hs]
        rw [this]; exact l.setCi hci _
    | c :: t, hs =>
      obtain ⟨H1, e1, l1, f1, c1⟩ := l.next hs hci
      have hc : c < 1114112 := l.ok c (by rw [hs]; exact .head _)
      have hst := hstop H1 { s with text := t } tok c l1 hc hw
      have eq92 : fEq (dS [c]) (.str "\\") H1 = some (.bool ([c] == [92])) := fEq_str (b := [92]) (OkS.one hc) (OkS.one (by omega))
      have step : xLoopC (G_read_char C) 3 ci (inBody C c0) xSkip (fuel + 1) [some (.own x.k), some (dS tok), some (.own ci), ch] H = (inBody C c0 [some (.own x.k), some (dS tok), some (.own ci), some (dS [c])] H1).bind fun b => match b.1 with
          | .next => xLoopC (G_read_char C) 3 ci (inBody C c0) xSkip fuel b.2.1 b.2.2
          | .cont => xLoopC (G_read_char C) 3 ci (inBody C c0) xSkip fuel b.2.1 b.2.2
          | .brk => some (.next, b.2)
          | .ret d => some (.ret d, b.2) := by
        show (gNext (G_read_char C) ci H).bind _ = _
        rw [e1]; rfl
      rw [step]
      by_cases h1 : stop c = true
      · rw [h1] at hst
        have eb : inBody C c0 [some (.own x.k), some (dS tok), some (.own ci), some (dS [c])] H1 = some (.ret (dS tok), [some (.own x.k), some (dS tok), some (.own ci), some (dS [c])], H1) := e_seqR (e_brt hst (e_retS (e_var rfl)))
        have er : rd stop (c :: t) = ([], some t) := by
          cases t with
          | nil => simp [rd, h1]
          | cons e t' => simp [rd, h1]
        rw [eb, er]
        exact ⟨[some (.own x.k), some (dS tok), some (.own ci), some (dS [c])], H1, by rw [List.append_nil]; rfl, l1, f1⟩
      · have h1' : stop c = false := by simpa using h1
        rw [h1'] at hst
        by_cases h2 : c = 92
        · subst h2
          have eq92 : fEq (dS [92]) (.str "\\") H1 = some (.bool true) := eq92
          match t, hs, l1 with
          | [], hs, l1 =>
            have e2 := l1.readEnd rfl
            have ei := l1.isI
            have ea : fIAddS (dS tok) (dS []) H1 = some (dS (tok ++ [])) := fIAdd_str (by simp at hl ⊢; omega)
            have eb : inBody C c0 [some (.own x.k), some (dS tok), some (.own ci), some (dS [92])] H1 = some (.next, [some (.own x.k), some (dS (tok ++ [])), some (.own ci), some (dS [])], H1) := e_seq (e_brf hst (e_fin (e_brt (e_test (e_var rfl) e_lit eq92) (e_fin (e_asg (e_meth (e_var rfl) ei e_nil e2)))))) (e_fin (e_aug rfl (e_var rfl) ea))
            have er : rd stop [92] = ([], none) := by simp [rd, h1']
            rw [eb, er]
            have := ih [] (tok ++ []) (some (dS [])) H1 { s with text := [] } rfl hw (by simp at hf ⊢; omega) (by simp at hl ⊢; omega) l1 c1
            exact LoopOut.after (a := []) f1 this
          | e :: t', hs, l1 =>
            obtain ⟨H2, e2, l2, f2⟩ := l1.read (c := e) (t := t') rfl
            have ei := l1.isI
            have ea : fIAddS (dS tok) (dS [e]) H2 = some (dS (tok ++ [e])) := fIAdd_str (by simp at hl ⊢; omega)
            have c2 : H2[ci]? = some (.citer x.k false) := by
              refine f2.get c1 ?_
              intro m
              simp only [List.mem_cons, List.not_mem_nil, or_false] at m
              rcases m with m | m
              · exact l1.ci_ne c1 x.kd (by simp [Ix.all]) (by rw [m]; simp)
              · exact l1.ci_ne c1 x.lf (by simp [Ix.all]) (by rw [m]; simp)
            have eb : inBody C c0 [some (.own x.k), some (dS tok), some (.own ci), some (dS [92])] H1 = some (.next, [some (.own x.k), some (dS (tok ++ [e])), some (.own ci), some (dS [e])], H2) := e_seq (e_brf hst (e_fin (e_brt (e_test (e_var rfl) e_lit eq92) (e_fin (e_asg (e_meth (e_var rfl) ei e_nil e2)))))) (e_fin (e_aug rfl (e_var rfl) ea))
            have er : rd stop (92 :: e :: t') = (e :: (rd stop t').1, (rd stop t').2) := by simp [rd, h1']
            rw [eb, er]
            have := ih t' (tok ++ [e]) (some (dS [e])) H2 { s with text := t' } rfl hw (by simp at hf; omega) (by simp at hl ⊢; omega) l2 c2
            exact LoopOut.after (a := [e]) (f1.trans f2 (by simp)) this
        · have eq92 : fEq (dS [c]) (.str "\\") H1 = some (.bool false) := by rw [eq92]; simp [h2]
          have ea : fIAddS (dS tok) (dS [c]) H1 = some (dS (tok ++ [c])) := fIAdd_str (by simp at hl ⊢; omega)
          have eb : inBody C c0 [some (.own x.k), some (dS tok), some (.own ci), some (dS [c])] H1 = some (.next, [some (.own x.k), some (dS (tok ++ [c])), some (.own ci), some (dS [c])], H1) := e_seq (e_brf hst (e_fin (e_brf (e_test (e_var rfl) e_lit eq92) e_skip))) (e_fin (e_aug rfl (e_var rfl) ea))
          have er : rd stop (c :: t) = (c :: (rd stop t).1, (rd stop t).2) := by
            cases t with
            | nil => simp [rd, h1', h2]
            | cons e t' => simp [rd, h1', h2]
          rw [eb, er]
          have := ih t (tok ++ [c]) (some (dS [c])) H1 { s with text := t } rfl hw (by simp at hf; omega) (by simp at hl ⊢; omega) l1 c1
          exact LoopOut.after (a := [c]) f1 this
/-! get_token -/
noncomputable def lexEsc (ws : List Nat) : List Nat → List Nat × List Nat
  | [] => ([], [])
  | e :: t' => (e :: (rd (fun a => decide (a ∈ ws)) t').1, (rd (fun a => decide (a ∈ ws)) t').2.getD [])
noncomputable def lexTok (ws : List Nat) : List Nat → List Nat × List Nat
  | [] => ([], [])
  | c :: t => if c ∈ ws then lexTok ws t else if c = 34 then ((rd (· == 34) t).1, (rd (· == 34) t).2.getD [])
    else if c = 92 then lexEsc ws t
    else (c :: (rd (fun a => decide (a ∈ ws)) t).1, (rd (fun a => decide (a ∈ ws)) t).2.getD [])
noncomputable abbrev tQ : XB := xTest fEq (xVar 3) (xLit (.str "\""))
noncomputable abbrev tW (C : Addr) : XB := xTest fIn (xVar 3) (xAttr C lexNs "whitespace" (xVar 0))
theorem tQ_ok (ci : Nat) (H : Hp) (s : LS) (tok : List Nat) (c : Nat) (l : LexAt C H x s) (hc : c < 1114112) : tQ [some (.own x.k), some (dS tok), some (.own ci), some (dS [c])] H = some (c == 34, H) := by
  have e : fEq (dS [c]) (.str "\"") H = some (.bool ([c] == [34])) := fEq_str (b := [34]) (OkS.one hc) (OkS.one (by omega))
  have : ([c] == [34]) = (c == 34) := by simp
  rw [this] at e
  exact e_test (e_var rfl) e_lit e
theorem tW_ok (ci : Nat) (H : Hp) (s : LS) (tok : List Nat) (c : Nat) (l : LexAt C H x s) : tW C [some (.own x.k), some (dS tok), some (.own ci), some (dS [c])] H = some (decide (c ∈ s.ws), H) := by
  have e : fIn (dS [c]) (dS s.ws) H = some (.bool (decide (c ∈ s.ws))) := fIn_sign
  simp only [xSeq, xBr, xTest, xOp2, xVar, xLit, xDo, xMeth, xCall, xAll, xSkip, xBrk, xCont, xRet, xAssign, xAug, xIf, xTT, xFF, xTru, tBool, xAndV, xOrV, xLst, xTup, Option.bind_some, Option.map_some, List.getElem?_cons_zero, List.getElem?_cons_succ, List.set_cons_zero, List.set_cons_succ, List.set_nil, List.getElem?_nil, if_true, reduceIte, Bool.false_eq_true, if_false, List.set_set, xAttr, l.gWs, e]
/-- the outer loop's turn -/
noncomputable abbrev gtBody (C : Addr) : XS := (xSeq (xBr (tW C) (xSeq xCont xSkip) xSkip) (xSeq (xBr tQ (xSeq (xForC (G_read_char C) 1000 3 (xVar 2) (inBody C tQ) xSkip) xSkip) (xSeq (xBr (xTest fEq (xVar 3) (xLit (.str "\\"))) (xSeq (xAssign 3 (rcM (C := C))) xSkip) xSkip) (xSeq (xAug 1 fIAddS (xVar 3)) (xSeq (xForC (G_read_char C) 1000 3 (xVar 2) (inBody C (tW C)) xSkip) xSkip)))) xSkip))
/-- what the outer loop leaves -/
noncomputable def OutOut (C : Addr) (x : Ix) (s : LS) (ci : Nat) (H : Hp) (r : List Nat × List Nat) (o : Option (Fl × Vs × Hp)) : Prop :=
  ∃ fl vs' H', o = some (fl, vs', H') ∧ (fl = .ret (dS r.1) ∨ (fl = .next ∧ vs'[1]? = some (some (dS r.1)))) ∧ LexAt C H' x { s with text := r.2 } ∧ Fr [x.kd, x.lf, ci] H H'
theorem OutOut.after {r : List Nat × List Nat} {o : Option (Fl × Vs × Hp)} {t : List Nat} (f : Fr [x.kd, x.lf] H H') (h : OutOut C x { s with text := t } ci H' r o) : OutOut C x s ci H r o := by
  obtain ⟨fl, vs', H2, e, a, l, g⟩ := h
  exact ⟨fl, vs', H2, e, a, l, (f.mono (by simp)).trans g (by simp)⟩
noncomputable abbrev goOn (fuel ci : Nat) (C : Addr) (body : XS) (o : Option (Fl × Vs × Hp)) : Option (Fl × Vs × Hp) := o.bind fun b => match b.1 with
          | .next => xLoopC (G_read_char C) 3 ci body xSkip fuel b.2.1 b.2.2
          | .cont => xLoopC (G_read_char C) 3 ci body xSkip fuel b.2.1 b.2.2
          | .brk => some (.next, b.2)
          | .ret d => some (.ret d, b.2)
/-- the inner loop as the last of a turn -/
theorem turn_end {fuel : Nat} {body : XS} {tok : List Nat} {r : List Nat × Option (List Nat)} {o : Option (Fl × Vs × Hp)} (h : LoopOut C x s ci H tok r o) :
    OutOut C x s ci H (tok ++ r.1, r.2.getD []) (goOn (fuel + 1) ci C body o) := by
  unfold LoopOut at h
  cases hr : r.2 with
  | some rest =>
    rw [hr] at h
    obtain ⟨vs', H', e, l, f⟩ := h
    exact ⟨.ret (dS (tok ++ r.1)), vs', H', by rw [e]; rfl, .inl rfl, l, f.mono (by simp)⟩
  | none =>
    rw [hr] at h
    obtain ⟨ch, H', e, l, f, c⟩ := h
    refine ⟨.next, [some (.own x.k), some (dS (tok ++ r.1)), some (.own ci), ch], H', ?_, .inr ⟨rfl, rfl⟩, l, f⟩
    rw [e]
    show (gNext (G_read_char C) ci H').bind _ = _
    rw [next_ended c]
    rfl
theorem xSeq_skip (p : XS) : xSeq p xSkip = p := by
  funext vs H
  unfold xSeq
  cases h : p vs H with
  | none => rfl
  | some a =>
    obtain ⟨f, v, H'⟩ := a
    cases f <;> rfl
theorem e_skipR {p : XS} {vs : Vs} {y : Option (Fl × Vs × Hp)} (h : p vs H = y) : xSeq p xSkip vs H = y := by rw [xSeq_skip]; exact h
theorem e_seqC {p q : XS} {vs vs1 : Vs} (h : p vs H = some (.cont, vs1, H')) : xSeq p q vs H = some (.cont, vs1, H') := by unfold xSeq; rw [h]; rfl
theorem forC_of {fuel : Nat} {body orelse : XS} {vs : Vs} {b : Bool} (hv : vs[2]? = some (some (.own ci))) (hci : H[ci]? = some (.citer x.k b)) : xForC (G_read_char C) fuel 3 (xVar 2) body orelse vs H = xLoopC (G_read_char C) 3 ci body orelse fuel vs H := by
  unfold xForC xVar
  simp only [hv, Option.bind_some, hci]
theorem loop_out (fuel : Nat) : ∀ (text : List Nat) (ch : Option D) (H : Hp) (s : LS), s.text = text → text.length + 1 < fuel → LexAt C H x s → H[ci]? = some (.citer x.k false) →
      OutOut C x s ci H (lexTok s.ws text) (xLoopC (G_read_char C) 3 ci (gtBody C) xSkip fuel [some (.own x.k), some (dS []), some (.own ci), ch] H) := by
  induction fuel with
  | zero => intro text ch H s _ hf; omega
  | succ fuel ih =>
    intro text ch H s hs hf l hci
    match text, hs with
    | [], hs =>
      have e := l.nextEnd hs hci
      refine ⟨.next, [some (.own x.k), some (dS []), some (.own ci), ch], H.set ci (.citer x.k true), ?_, .inr ⟨rfl, rfl⟩, ?_, (Fr.set H ci _).mono (by simp)⟩
      · show (gNext (G_read_char C) ci H).bind _ = _
        rw [e]; rfl
      · have : ({ s with text := (lexTok s.ws []).2 } : LS) = s := by show ({ s with text := [] } : LS) = s; rw [← hs]
        rw [this]; exact l.setCi hci _
    | c :: t, hs =>
      obtain ⟨H1, e1, l1, f1, c1⟩ := l.next hs hci
      have hc : c < 1114112 := l.ok c (by rw [hs]; exact .head _)
      have hlen := l.len
      rw [hs] at hlen
      have hlen : t.length + 1 < 900 := by simpa using hlen
      have step : xLoopC (G_read_char C) 3 ci (gtBody C) xSkip (fuel + 1) [some (.own x.k), some (dS []), some (.own ci), ch] H = goOn fuel ci C (gtBody C) (gtBody C [some (.own x.k), some (dS []), some (.own ci), some (dS [c])] H1) := by
        show (gNext (G_read_char C) ci H).bind _ = _
        rw [e1]; rfl
      rw [step]
      have hf2 : ∃ f', fuel = f' + 1 := ⟨fuel - 1, by omega⟩
      obtain ⟨f', rfl⟩ := hf2
      have hW := tW_ok (C := C) ci H1 _ [] c l1
      have hQ := tQ_ok (C := C) ci H1 _ [] c l1 hc
      have eq92 : fEq (dS [c]) (.str "\\") H1 = some (.bool ([c] == [92])) := fEq_str (b := [92]) (OkS.one hc) (OkS.one (by omega))
      by_cases h1 : c ∈ s.ws
      · have er : lexTok s.ws (c :: t) = lexTok s.ws t := by rw [lexTok, if_pos h1]
        rw [show decide (c ∈ s.ws) = true by simpa using h1] at hW
        have eb : gtBody C [some (.own x.k), some (dS []), some (.own ci), some (dS [c])] H1 = some (.cont, [some (.own x.k), some (dS []), some (.own ci), some (dS [c])], H1) := e_seqC (e_brt hW (e_seqC rfl))
        rw [er, eb]
        exact OutOut.after f1 (ih t (some (dS [c])) H1 { s with text := t } rfl (by simp at hf; omega) l1 c1)
      · rw [show decide (c ∈ s.ws) = false by simpa using h1] at hW
        by_cases h2 : c = 34
        · subst h2
          have er : lexTok s.ws (34 :: t) = ((rd (· == 34) t).1, (rd (· == 34) t).2.getD []) := by rw [lexTok, if_neg h1, if_pos rfl]
          have hQ : tQ [some (.own x.k), some (dS []), some (.own ci), some (dS [34])] H1 = some (true, H1) := hQ
          have eb : gtBody C [some (.own x.k), some (dS []), some (.own ci), some (dS [34])] H1 = xLoopC (G_read_char C) 3 ci (inBody C tQ) xSkip 1000 [some (.own x.k), some (dS []), some (.own ci), some (dS [34])] H1 := e_seq (e_brf hW e_skip) (e_skipR (e_brt hQ (e_skipR (forC_of (x := x) rfl c1))))
          rw [er, eb]
          have := loop_in (C := C) (x := x) (ci := ci) (ws0 := s.ws) (stop := (· == 34)) (c0 := tQ) (fun H s tok c l hc _ => tQ_ok ci H s tok c l hc) 1000 t [] (some (dS [34])) H1 { s with text := t } rfl rfl (by omega) (by simp; omega) l1 c1
          exact OutOut.after f1 (turn_end this)
        · have hQ' : tQ [some (.own x.k), some (dS []), some (.own ci), some (dS [c])] H1 = some (false, H1) := by rw [hQ]; simp [h2]
          have lw := fun tok t ch H s hs hw hf hl l c => loop_in (C := C) (x := x) (ci := ci) (ws0 := s.ws) (stop := fun a => decide (a ∈ s.ws)) (c0 := tW C) (fun H s' tok c l hc hw => by rw [tW_ok ci H s' tok c l, hw]) 1000 t tok ch H s hs hw hf hl l c
          have q34 : fEq (dS [c]) (.str "\"") H1 = some (.bool false) := by
            have e : fEq (dS [c]) (.str "\"") H1 = some (.bool ([c] == [34])) := fEq_str (b := [34]) (OkS.one hc) (OkS.one (by omega))
            rw [e]; simp [h2]
          by_cases h3 : c = 92
          · subst h3
            have eq92 : fEq (dS [92]) (.str "\\") H1 = some (.bool true) := eq92
            match t, hs, l1, hlen with
            | [], hs, l1, hlen =>
              have e2 := l1.readEnd rfl
              have ei := l1.isI
              have ea : fIAddS (dS []) (dS []) H1 = some (dS []) := fIAdd_str (by simp)
              have er : lexTok s.ws [92] = ([], []) := by rw [lexTok, if_neg h1, if_neg (by omega), if_pos rfl, lexEsc]
              have eb : gtBody C [some (.own x.k), some (dS []), some (.own ci), some (dS [92])] H1 = xLoopC (G_read_char C) 3 ci (inBody C (tW C)) xSkip 1000 [some (.own x.k), some (dS []), some (.own ci), some (dS [])] H1 := e_seq (e_brf hW e_skip) (e_skipR (e_brf hQ' (e_seq (e_brt (e_test (e_var rfl) e_lit eq92) (e_fin (e_asg (e_meth (e_var rfl) ei e_nil e2)))) (e_seq (e_aug rfl (e_var rfl) ea) (e_skipR (forC_of (x := x) rfl c1))))))
              rw [er, eb]
              have := lw [] [] (some (dS [])) H1 { s with text := [] } rfl rfl (by simp) (by simp) l1 c1
              exact OutOut.after f1 (turn_end this)
            | e :: t', hs, l1, hlen =>
              obtain ⟨H2, e2, l2, f2⟩ := l1.read (c := e) (t := t') rfl
              have ei := l1.isI
              have ea : fIAddS (dS []) (dS [e]) H2 = some (dS [e]) := fIAdd_str (by simp)
              have c2 : H2[ci]? = some (.citer x.k false) := by
                refine f2.get c1 ?_
                intro m
                simp only [List.mem_cons, List.not_mem_nil, or_false] at m
                rcases m with m | m
                · exact l1.ci_ne c1 x.kd (by simp [Ix.all]) (by rw [m]; simp)
                · exact l1.ci_ne c1 x.lf (by simp [Ix.all]) (by rw [m]; simp)
              have er : lexTok s.ws (92 :: e :: t') = (e :: (rd (fun a => decide (a ∈ s.ws)) t').1, (rd (fun a => decide (a ∈ s.ws)) t').2.getD []) := by rw [lexTok, if_neg h1, if_neg (by omega), if_pos rfl, lexEsc]
              have eb : gtBody C [some (.own x.k), some (dS []), some (.own ci), some (dS [92])] H1 = xLoopC (G_read_char C) 3 ci (inBody C (tW C)) xSkip 1000 [some (.own x.k), some (dS [e]), some (.own ci), some (dS [e])] H2 := e_seq (e_brf hW e_skip) (e_skipR (e_brf hQ' (e_seq (e_brt (e_test (e_var rfl) e_lit eq92) (e_fin (e_asg (e_meth (e_var rfl) ei e_nil e2)))) (e_seq (e_aug rfl (e_var rfl) ea) (e_skipR (forC_of (x := x) rfl c2))))))
              rw [er, eb]
              have := lw [e] t' (some (dS [e])) H2 { s with text := t' } rfl rfl (by simp at hlen; omega) (by simp at hlen ⊢; omega) l2 c2
              exact OutOut.after (f1.trans f2 (by simp)) (turn_end this)
          · have eq92 : fEq (dS [c]) (.str "\\") H1 = some (.bool false) := by rw [eq92]; simp [h3]
            have ea : fIAddS (dS []) (dS [c]) H1 = some (dS [c]) := fIAdd_str (by simp)
            have er : lexTok s.ws (c :: t) = (c :: (rd (fun a => decide (a ∈ s.ws)) t).1, (rd (fun a => decide (a ∈ s.ws)) t).2.getD []) := by rw [lexTok, if_neg h1, if_neg h2, if_neg h3]
            have eb : gtBody C [some (.own x.k), some (dS []), some (.own ci), some (dS [c])] H1 = xLoopC (G_read_char C) 3 ci (inBody C (tW C)) xSkip 1000 [some (.own x.k), some (dS [c]), some (.own ci), some (dS [c])] H1 := e_seq (e_brf hW e_skip) (e_skipR (e_brf hQ' (e_seq (e_brf (e_test (e_var rfl) e_lit eq92) e_skip) (e_seq (e_aug rfl (e_var rfl) ea) (e_skipR (forC_of (x := x) rfl c1))))))
            rw [er, eb]
            have := lw [c] t (some (dS [c])) H1 { s with text := t } rfl rfl (by omega) (by simp; omega) l1 c1
            exact OutOut.after f1 (turn_end this)
end
end Mine
open PySem PySem.W PyProof.Rows
set_option maxRecDepth 100000
namespace Mine
theorem app_get (H l : Hp) (i : Nat) : (H ++ l)[H.length + i]? = l[i]? := by
  rw [List.getElem?_append_right (by omega)]; congr 1; omega
theorem app_get0 (H l : Hp) : (H ++ l)[H.length]? = l[0]? := app_get H l 0
theorem app_set (H l : Hp) (i : Nat) (a : CO) : (H ++ l).set (H.length + i) a = H ++ l.set i a := by
  rw [List.set_append_right _ _ (by omega)]; congr 2; omega
theorem app_set0 (H l : Hp) (a : CO) : (H ++ l).set H.length a = H ++ l.set 0 a := app_set H l 0 a
section
variable {C : Addr} {H H' : Hp} {x : Ix} {s : LS} {ci : Nat}
theorem gt_body_eq : b_get_token C = xSeq (xBr (xTru tLst (xAttr C lexNs "pushback" (xVar 0))) (xSeq (xRet (xMeth isOwnL gPop (xAttr C lexNs "pushback" (xVar 0)) [(xLit (.int 0))])) xSkip) xSkip) (xSeq (xAssign 1 (xLit (.str ""))) (xSeq (xAssign 2 (xIter (isInst C lexNs) (xVar 0))) (xSeq (xForC (G_read_char C) 1000 3 (xVar 2) (gtBody C) xSkip) (xSeq (xRet (xVar 1)) xSkip)))) := rfl
/-- a word that was pushed -/
theorem LexAt.pop (l : LexAt C H x s) {w : List Nat} {r : List (List Nat)} (hp : s.push = w :: r) (hl : r.length < 1000) : ∃ H', G_get_token C [.own x.k] H = some (dS w, H') ∧ LexAt C H' x { s with push := r } ∧ Fr [x.pb] H H' := by
  obtain ⟨f, a1, a2, a3, a4, a5⟩ := l.attrs
  obtain ⟨g, b1, b2, b3⟩ := l.tattrs
  have hpb : H[x.pb]? = some (.list (dS w :: r.map dS)) := by rw [l.pb, hp]; rfl
  have n1 : x.pb ≠ x.k := by intro e; have := l.pb; rw [e, l.inst] at this; cases this
  have n2 : x.pb ≠ x.kd := by intro e; have := l.pb; rw [e, a1] at this; cases this
  have n3 : x.pb ≠ x.t := by intro e; have := l.pb; rw [e, l.tinst] at this; cases this
  have n4 : x.pb ≠ x.td := by intro e; have := l.pb; rw [e, b1] at this; cases this
  have n5 : x.pb ≠ x.lm := by intro e; have := l.pb; rw [e, l.lam] at this; cases this
  have fl := Fr.set H x.pb (.list (r.map dS))
  refine ⟨H.set x.pb (.list (r.map dS)), ?_, ?_, fl⟩
  · have e1 : tLst (.own x.pb) H = some true := by
      unfold tLst
      rw [its_own' hpb, Option.bind_some, if_pos (by simp; omega)]
      rfl
    have e2 := isOwnL_own hpb
    have e3 := pop_own hpb (by simp; omega)
    exact e_fun rfl ((congrFun (congrFun (gt_body_eq (C := C)) _) _).trans (e_seqR (e_brt (e_tru (e_attr (e_var rfl) l.gPb) e1) (e_retS (e_meth (e_attr (e_var rfl) l.gPb) e2 (e_cons e_lit e_nil) e3)))))
  · exact ⟨fl.get l.inst (by simpa using n1.symm), ⟨f, fl.get a1 (by simpa using n2.symm), a2, a3, a4, a5⟩, set_get hpb, fl.get l.tinst (by simpa using n3.symm), ⟨g, fl.get b1 (by simpa using n4.symm), b2, b3⟩, fl.get l.lam (by simpa using n5.symm), fl.get l.left (by simpa using l.ne1.symm), l.ne1, l.ne2, l.ok, l.len⟩
/-- a word that is read -/
theorem LexAt.token (l : LexAt C H x s) (hp : s.push = []) : ∃ H', G_get_token C [.own x.k] H = some (dS (lexTok s.ws s.text).1, H') ∧ LexAt C H' x { s with text := (lexTok s.ws s.text).2 } ∧ Fr [x.kd, x.lf] H H' := by
  have hpb : H[x.pb]? = some (.list []) := by rw [l.pb, hp]; rfl
  have e1 : tLst (.own x.pb) H = some false := by
    unfold tLst
    rw [its_own' hpb]; rfl
  have ei := l.isI
  have l1 : LexAt C (H ++ [.citer x.k false]) x s := l.app _
  have hlen := l.len
  obtain ⟨fl, vs', H', e, hfl, l', f'⟩ := loop_out (C := C) (x := x) (ci := H.length) 1000 s.text none (H ++ [.citer x.k false]) s rfl (by omega) l1 get_new
  have hfr : Fr [x.kd, x.lf] H H' := (Fr.app [x.kd, x.lf] H [.citer x.k false]).trans f' (by
    intro j hj hlt
    simp only [List.mem_cons, List.not_mem_nil, or_false] at hj ⊢
    rcases hj with q | q | q
    · exact .inl q
    · exact .inr q
    · omega)
  refine ⟨H', ?_, l', hfr⟩
  have eI : xIter (isInst C lexNs) (xVar 0) [some (.own x.k), some (dS []), none, none] H = some (.own H.length, H ++ [.citer x.k false]) := by
    simp only [xIter, xSeq, xBr, xTest, xOp2, xVar, xLit, xDo, xMeth, xCall, xAll, xSkip, xBrk, xCont, xRet, xAssign, xAug, xIf, xTT, xFF, xTru, tBool, xAndV, xOrV, xLst, xTup, Option.bind_some, Option.map_some, List.getElem?_cons_zero, List.getElem?_cons_succ, List.set_cons_zero, List.set_cons_succ, List.set_nil, List.getElem?_nil, if_true, reduceIte, Bool.false_eq_true, if_false, List.set_set, ei]
  have eF := (forC_of (x := x) (fuel := 1000) (body := gtBody C) (orelse := xSkip) (vs := [some (.own x.k), some (dS []), some (.own H.length), none]) rfl (get_new (H := H) (a := .citer x.k false))).trans e
  have go : ∀ {y}, (xSeq (xForC (G_read_char C) 1000 3 (xVar 2) (gtBody C) xSkip) (xSeq (xRet (xVar 1)) xSkip)) [some (.own x.k), some (dS []), some (.own H.length), none] (H ++ [.citer x.k false]) = y → (xSeq (xBr (xTru tLst (xAttr C lexNs "pushback" (xVar 0))) (xSeq (xRet (xMeth isOwnL gPop (xAttr C lexNs "pushback" (xVar 0)) [(xLit (.int 0))])) xSkip) xSkip) (xSeq (xAssign 1 (xLit (.str ""))) (xSeq (xAssign 2 (xIter (isInst C lexNs) (xVar 0))) (xSeq (xForC (G_read_char C) 1000 3 (xVar 2) (gtBody C) xSkip) (xSeq (xRet (xVar 1)) xSkip))))) [some (.own x.k), none, none, none] H = y := fun h =>
    e_seq (e_brf (e_tru (e_attr (e_var rfl) l.gPb) e1) e_skip) (e_seq (e_asg e_lit) (e_seq (e_asg eI) h))
  have fin : ∃ vs2, b_get_token C (vars0 [D.own x.k] 4) H = some (.ret (dS (lexTok s.ws s.text).1), vs2, H') := by
    rw [gt_body_eq]
    rcases hfl with rfl | ⟨rfl, hv⟩
    · exact ⟨_, go (e_seqR eF)⟩
    · exact ⟨_, go (e_seq eF (e_retS (e_var hv)))⟩
  obtain ⟨vs2, hf⟩ := fin
  exact e_fun rfl hf
/-- push_token -/
theorem LexAt.pushed (l : LexAt C H x s) (w : List Nat) (hl : s.push.length < 1000) : ∃ H', G_push_token C [.own x.k, dS w] H = some (.none, H') ∧ LexAt C H' x { s with push := s.push ++ [w] } ∧ Fr [x.pb] H H' := by
  obtain ⟨f, a1, a2, a3, a4, a5⟩ := l.attrs
  obtain ⟨g, b1, b2, b3⟩ := l.tattrs
  have n1 : x.pb ≠ x.k := by intro e; have := l.pb; rw [e, l.inst] at this; cases this
  have n2 : x.pb ≠ x.kd := by intro e; have := l.pb; rw [e, a1] at this; cases this
  have n3 : x.pb ≠ x.t := by intro e; have := l.pb; rw [e, l.tinst] at this; cases this
  have n4 : x.pb ≠ x.td := by intro e; have := l.pb; rw [e, b1] at this; cases this
  have n5 : x.pb ≠ x.lm := by intro e; have := l.pb; rw [e, l.lam] at this; cases this
  have fl := Fr.set H x.pb (.list (s.push.map dS ++ [dS w]))
  refine ⟨H.set x.pb (.list (s.push.map dS ++ [dS w])), ?_, ?_, fl⟩
  · have e2 := isOwnL_own l.pb
    have e3 := append_own (d := dS w) l.pb (by simp; omega)
    exact e_funN rfl (e_fin (e_do (e_meth (e_attr (e_var rfl) l.gPb) e2 (e_cons (e_var rfl) e_nil) e3)))
  · refine ⟨fl.get l.inst (by simpa using n1.symm), ⟨f, fl.get a1 (by simpa using n2.symm), a2, a3, a4, a5⟩, ?_, fl.get l.tinst (by simpa using n3.symm), ⟨g, fl.get b1 (by simpa using n4.symm), b2, b3⟩, fl.get l.lam (by simpa using n5.symm), fl.get l.left (by simpa using l.ne1.symm), l.ne1, l.ne2, l.ok, l.len⟩
    rw [set_get l.pb]; simp
end
/-! a new lexer -/
noncomputable def f0 (d : D) (pb : Nat) : Str → Option D := fun y => if y = "pushback" then some (.own pb) else if y = "whitespace" then some (.str "\n\t\r ") else if y = "instream" then some d else if y = "lineno" then some (.int 1) else none
theorem str_ne {a b : Str} (h : (a == b) = false) : a ≠ b := by simpa using h
theorem new_eval (C : Addr) (d : D) (H : Hp) : gNew C lexNs (G_init C) [d] H = some (.own (H.length + 1), H ++ [.attrs lexNs (f0 d (H.length + 2)), .inst C H.length, .list []]) := by
  have h1 : ∀ f o, (H ++ [CO.attrs lexNs f, CO.inst C H.length] ++ o)[H.length + 1]? = some (.inst C H.length) := fun f o => by rw [List.append_assoc, app_get]; rfl
  have h2 : ∀ f o, (H ++ [CO.attrs lexNs f, CO.inst C H.length] ++ o)[H.length]? = some (.attrs lexNs f) := fun f o => by rw [List.append_assoc, app_get0]; rfl
  have h3 : ∀ f o a, (H ++ [CO.attrs lexNs f, CO.inst C H.length] ++ o).set H.length a = H ++ [a, CO.inst C H.length] ++ o := fun f o a => by rw [List.append_assoc, app_set0, List.append_assoc]; rfl
  have g : ∀ (name : Str) f o v, name ∈ lexNs → gSet C lexNs name (.own (H.length + 1)) v (H ++ [CO.attrs lexNs f, CO.inst C H.length] ++ o) = some (H ++ [CO.attrs lexNs fun y => if y = name then some v else f y, CO.inst C H.length] ++ o) := fun name f o v hn => by
    rw [gSet_of (h1 f o) (h2 f o) hn, h3]
  have g1 := fun f v => g "lineno" f [] v in_line
  have g2 := fun f v => g "instream" f [] v in_instream
  have g3 := fun f v => g "whitespace" f [] v in_ws
  have g4 := fun f v => g "pushback" f [.list []] v in_pb
  simp only [List.append_nil] at g1 g2 g3
  have e : G_init C [.own (H.length + 1), d] (H ++ [CO.attrs lexNs fun _ => none, CO.inst C H.length]) = some (.none, H ++ [CO.attrs lexNs (f0 d (H.length + 2)), CO.inst C H.length] ++ [.list []]) := by
    have ok : okLen [] = true := rfl
    have hl : ∀ f, (H ++ [CO.attrs lexNs f, CO.inst C H.length]).length = H.length + 2 := fun f => by simp
    unfold G_init xFun b_init
    simp only [vars0, List.length_cons, List.length_nil, reduceIte, List.map_cons, List.map_nil, List.replicate, List.cons_append, List.nil_append, Nat.zero_add, Nat.reduceAdd, Nat.reduceSub, List.append_nil, xSeq, xBr, xTest, xOp2, xVar, xLit, xDo, xMeth, xCall, xAll, xSkip, xBrk, xCont, xRet, xAssign, xAug, xIf, xTT, xFF, xTru, tBool, xAndV, xOrV, xLst, xTup, Option.bind_some, Option.map_some, List.getElem?_cons_zero, List.getElem?_cons_succ, List.set_cons_zero, List.set_cons_succ, List.set_nil, List.getElem?_nil, if_true, reduceIte, Bool.false_eq_true, if_false, List.set_set, xSetA, xNew, ok, g1, g2, g3, hl, g4]
    rfl
  unfold gNew
  have : H ++ [CO.attrs lexNs fun _ => none] ++ [CO.inst C H.length] = H ++ [CO.attrs lexNs fun _ => none, CO.inst C H.length] := by simp
  rw [this, e]
  simp
end Mine
open PySem PySem.W PyProof.Rows
set_option maxRecDepth 100000
namespace Mine
/-! what a lexer reads out of a word's piece -/
noncomputable def bodyL : List (Bool × Nat) → List Nat
  | [] => []
  | (e, c) :: r => if e then 92 :: c :: bodyL r else c :: bodyL r
theorem rd_stop {stop : Nat → Bool} {c : Nat} {t : List Nat} (h : stop c = true) : rd stop (c :: t) = ([], some t) := by
  cases t <;> simp [rd, h]
theorem rd_esc {stop : Nat → Bool} {c : Nat} {t : List Nat} (h : stop 92 = false) : rd stop (92 :: c :: t) = (c :: (rd stop t).1, (rd stop t).2) := by
  simp [rd, h]
theorem rd_plain {stop : Nat → Bool} {c : Nat} {t : List Nat} (h : stop c = false) (h2 : c ≠ 92) : rd stop (c :: t) = (c :: (rd stop t).1, (rd stop t).2) := by
  cases t <;> simp [rd, h, h2]
theorem rd_body {stop : Nat → Bool} (h92 : stop 92 = false) (t : List Nat) : ∀ l : List (Bool × Nat), (∀ p ∈ l, p.1 = false → stop p.2 = false ∧ p.2 ≠ 92) → rd stop (bodyL l ++ t) = (l.map (·.2) ++ (rd stop t).1, (rd stop t).2)
  | [], _ => rfl
  | (e, c) :: r, h => by
    have ih := rd_body h92 t r fun p hp => h p (.tail _ hp)
    cases e with
    | true =>
      show rd stop (92 :: c :: (bodyL r ++ t)) = _
      rw [rd_esc h92, ih]; rfl
    | false =>
      obtain ⟨h1, h2⟩ := h (false, c) (.head _) rfl
      show rd stop (c :: (bodyL r ++ t)) = _
      rw [rd_plain h1 h2, ih]; rfl
theorem lex_lead {ws : List Nat} (t : List Nat) : ∀ l : List Nat, (∀ c ∈ l, c ∈ ws) → lexTok ws (l ++ t) = lexTok ws t
  | [], _ => rfl
  | c :: l, h => by
    show lexTok ws (c :: (l ++ t)) = _
    rw [lexTok, if_pos (h c (.head _))]
    exact lex_lead t l fun c hc => h c (.tail _ hc)
/-- a word's piece without its tail -/
noncomputable def pieceL (lead : List Nat) (quoted : Bool) (l : List (Bool × Nat)) : List Nat := lead ++ (if quoted then 34 :: bodyL l else bodyL l)
structure PieceOk (ws lead : List Nat) (quoted : Bool) (l : List (Bool × Nat)) : Prop where
  lead : ∀ c ∈ lead, c ∈ ws
  n34 : 34 ∉ ws
  n92 : 92 ∉ ws
  q : quoted = true → ∀ p ∈ l, p.1 = false → p.2 ≠ 34 ∧ p.2 ≠ 92
  u : quoted = false → ∀ p ∈ l, p.1 = false → p.2 ∉ ws ∧ p.2 ≠ 92
  first : quoted = false → ∃ p r, l = p :: r ∧ (p.1 = false → p.2 ≠ 34)
theorem lex_piece {ws lead : List Nat} {quoted : Bool} {l : List (Bool × Nat)} (h : PieceOk ws lead quoted l) (t : List Nat) (w2 : List Nat) (o : Option (List Nat))
    (hq : quoted = true → rd (· == 34) t = (w2, o)) (hu : quoted = false → rd (fun a => decide (a ∈ ws)) t = (w2, o)) : lexTok ws (pieceL lead quoted l ++ t) = (l.map (·.2) ++ w2, o.getD []) := by
  unfold pieceL
  rw [List.append_assoc, lex_lead _ _ h.lead]
  cases quoted with
  | true =>
    show lexTok ws (34 :: (bodyL l ++ t)) = _
    rw [lexTok, if_neg h.n34, if_pos rfl, rd_body (by decide) t l (fun p hp e => by have := h.q rfl p hp e; simpa using this), hq rfl]
  | false =>
    obtain ⟨⟨e, c⟩, r, rfl, h1⟩ := h.first rfl
    have hb := rd_body (stop := fun a => decide (a ∈ ws)) (by simpa using h.n92) t r (fun p hp e => by
      have := h.u rfl p (.tail _ hp) e
      exact ⟨by simpa using this.1, this.2⟩)
    rw [hu rfl] at hb
    cases e with
    | true =>
      show lexTok ws (92 :: c :: (bodyL r ++ t)) = _
      rw [lexTok, if_neg h.n92, if_neg (by omega), if_pos rfl, lexEsc, hb]; rfl
    | false =>
      obtain ⟨h2, h3⟩ := h.u rfl (false, c) (.head _) rfl
      show lexTok ws (c :: (bodyL r ++ t)) = _
      rw [lexTok, if_neg h2, if_neg (h1 rfl), if_neg h3, hb]; rfl
/-- closed by its mark: the rest is left -/
theorem lex_closed {ws lead : List Nat} {quoted : Bool} {l : List (Bool × Nat)} (h : PieceOk ws lead quoted l) (b : Nat) (hb : if quoted then b = 34 else b ∈ ws) (rest : List Nat) : lexTok ws (pieceL lead quoted l ++ b :: rest) = (l.map (·.2), rest) := by
  rw [lex_piece h (b :: rest) [] (some rest) (fun q => ?_) (fun q => ?_), List.append_nil]; rfl
  · rw [q, if_pos rfl] at hb
    exact rd_stop (by simpa using hb)
  · rw [q, if_neg (by decide)] at hb
    exact rd_stop (by simpa using hb)
/-- open at the text's end -/
theorem lex_open {ws lead : List Nat} {quoted : Bool} {l : List (Bool × Nat)} (h : PieceOk ws lead quoted l) (t : List Nat) (ht : t = [] ∨ t = [92]) : lexTok ws (pieceL lead quoted l ++ t) = (l.map (·.2), []) := by
  have key : ∀ stop : Nat → Bool, stop 92 = false → rd stop t = ([], none) := by
    intro stop hs
    rcases ht with rfl | rfl
    · rfl
    · simp [rd, hs]
  rw [lex_piece h t [] none (fun q => key _ (by decide)) (fun q => key _ (by simpa using h.n92)), List.append_nil]; rfl
end Mine
open PySem PySem.W PyProof.Rows
set_option maxRecDepth 100000
namespace Mine
/-! slices -/
theorem clip_nat (n i : Nat) : clipAt n (i : Int) = min i n := by
  unfold clipAt
  split <;> omega
theorem pick_to {α : Type} (xs : List α) (b : Nat) : pick xs none (some (b : Int)) none = xs.take b := by
  rw [pick_plain]
  show (xs.drop 0).take (clipAt xs.length (b : Int) - 0) = _
  rw [clip_nat, List.drop_zero, Nat.sub_zero]
  by_cases h : b ≤ xs.length
  · rw [Nat.min_eq_left h]
  · rw [Nat.min_eq_right (by omega), List.take_of_length_le (Nat.le_refl _), List.take_of_length_le (by omega)]
theorem pick_from {α : Type} (xs : List α) (a : Nat) : pick xs (some (a : Int)) none none = xs.drop a := by
  rw [pick_plain]
  show (xs.drop (clipAt xs.length (a : Int))).take (xs.length - clipAt xs.length (a : Int)) = _
  rw [clip_nat, List.take_of_length_le (by simp)]
  by_cases h : a ≤ xs.length
  · rw [Nat.min_eq_left h]
  · rw [Nat.min_eq_right (by omega), List.drop_of_length_le (Nat.le_refl _), List.drop_of_length_le (by omega)]
theorem pick_mid {α : Type} (xs : List α) (a b : Nat) : pick xs (some (a : Int)) (some (b : Int)) none = (xs.drop a).take (b - a) := by
  rw [pick_plain]
  show (xs.drop (clipAt xs.length (a : Int))).take (clipAt xs.length (b : Int) - clipAt xs.length (a : Int)) = _
  rw [clip_nat, clip_nat]
  by_cases h : a ≤ xs.length
  · rw [Nat.min_eq_left h]
    by_cases g : b ≤ xs.length
    · rw [Nat.min_eq_left g]
    · rw [Nat.min_eq_right (by omega), List.take_of_length_le (by simp), List.take_of_length_le (by simp; omega)]
  · rw [show min a xs.length = xs.length by omega, List.drop_of_length_le (Nat.le_refl _), List.drop_of_length_le (by omega : xs.length ≤ a)]
    simp
theorem fSlice_str {l : List Nat} {lo hi : Option Int} {H : Hp} (h : l.length ≤ 1000000) : fSlice (dS l) lo hi none H = some (dS (pick l lo hi none)) := by
  show (if (none : Option Int) = none ∧ (S l).length ≤ 1000000 then some (D.str ⟨(pick (S l).cps.toList lo hi none).toArray⟩) else none) = _
  rw [S_len, if_pos ⟨rfl, h⟩]; rfl
theorem fSlice_its {o : D} {l : List D} {lo hi st : Option Int} {H : Hp} (ho : itsOf o H = some l) (h : l.length ≤ 1000000) (hs : st ≠ some 0) : fSlice o lo hi st H = some (.lst (pick l lo hi st)) := by
  have e : ((itsOf o H).bind fun xs => if xs.length ≤ 1000000 ∧ st ≠ some 0 then some (D.lst (pick xs lo hi st)) else none) = some (.lst (pick l lo hi st)) := by
    rw [ho, Option.bind_some, if_pos ⟨h, hs⟩]
  cases o with
  | lst _ => exact e
  | own _ => exact e
  | _ => cases ho
theorem take_sl {l : List Nat} (b : Nat) {H : Hp} (h : l.length ≤ 1000000) : fSlice (dS l) none (some (b : Int)) none H = some (dS (l.take b)) := by rw [fSlice_str h, pick_to]
theorem mid_sl {l : List Nat} (a b : Nat) {H : Hp} (h : l.length ≤ 1000000) : fSlice (dS l) (some (a : Int)) (some (b : Int)) none H = some (dS ((l.drop a).take (b - a))) := by rw [fSlice_str h, pick_mid]
theorem lt_nat (i j : Nat) (H : Hp) : fInt iLt (.int (i : Int)) (.int (j : Int)) H = some (.bool (decide (i < j))) := by
  show iLt (i : Int) (j : Int) = _
  unfold iLt
  simp
theorem le_nat (i j : Nat) (H : Hp) : fInt iLe (.int (i : Int)) (.int (j : Int)) H = some (.bool (decide (i ≤ j))) := by
  show iLe (i : Int) (j : Int) = _
  unfold iLe
  simp
end Mine
open PySem PySem.W PyProof.Rows
set_option maxRecDepth 100000
namespace Mine
/-! comprehensions -/
section
variable {vis : List Nat} {i : Nat} {it : XI} {p : XE} {vs : Vs} {H : Hp}
theorem items_mapE {g : D → D} : ∀ (ds : List D) (us : Vs) (H : Hp), (∀ d ∈ ds, ∀ H, ∃ H', p (us.set i (some d)) H = some (g d, H')) → ∃ H', xItems i none (xGens p []) ds us H = some (ds.map g, H')
  | [], us, H, _ => ⟨H, rfl⟩
  | d :: ds, us, H, h => by
    obtain ⟨H1, e1⟩ := h d (.head _) H
    obtain ⟨H2, e2⟩ := items_mapE ds us H1 fun e he => h e (.tail _ he)
    refine ⟨H2, ?_⟩
    have eg : xGens p [] (us.set i (some d)) H = some ([g d], H1) := by show (p (us.set i (some d)) H).map _ = _; rw [e1]; rfl
    unfold xItems
    simp only [runT, Option.bind_some, eg, Option.map_some, e2]
    rfl
theorem items_map {g : D → D} : ∀ (ds : List D) (us : Vs), (∀ d ∈ ds, p (us.set i (some d)) H = some (g d, H)) → xItems i none (xGens p []) ds us H = some (ds.map g, H)
  | [], us, _ => rfl
  | d :: ds, us, h => by
    have e1 := h d (.head _)
    have e2 := items_map ds us fun e he => h e (.tail _ he)
    have eg : xGens p [] (us.set i (some d)) H = some ([g d], H) := by show (p (us.set i (some d)) H).map _ = _; rw [e1]; rfl
    unfold xItems
    simp only [runT, Option.bind_some, eg, Option.map_some, e2]
    rfl
theorem okLen_of {l : List D} (h : l.length ≤ 16777216) : okLen l = true := by unfold okLen; simpa using h
theorem comp_mapE {g : D → D} {ds : List D} {H1 : Hp} (hit : it vs H = some (ds, H1)) (hl : ds.length ≤ 1000000) (hp : ∀ d ∈ ds, ∀ H, ∃ H', p ((mask vis 0 vs).set i (some d)) H = some (g d, H')) : ∃ H', xComp vis i it none [] p vs H = some (.lst (ds.map g), H') := by
  obtain ⟨H2, e⟩ := items_mapE ds (mask vis 0 vs) H1 hp
  refine ⟨H2, ?_⟩
  unfold xComp
  rw [hit, Option.bind_some, e, Option.bind_some, if_pos (okLen_of (by simp; omega))]
theorem comp_map {g : D → D} {ds : List D} (hit : it vs H = some (ds, H)) (hl : ds.length ≤ 1000000) (hp : ∀ d ∈ ds, p ((mask vis 0 vs).set i (some d)) H = some (g d, H)) : xComp vis i it none [] p vs H = some (.lst (ds.map g), H) := by
  have e := items_map ds (mask vis 0 vs) hp
  unfold xComp
  rw [hit, Option.bind_some, e, Option.bind_some, if_pos (okLen_of (by simp; omega))]
theorem comp_range {n : Nat} {g : Nat → D} (hn : n < 1000000) (hp : ∀ j < n, p ((mask vis 0 vs).set i (some (.int (j : Int)))) H = some (g j, H)) : xComp vis i (xRange1 (xLit (.int (n : Int)))) none [] p vs H = some (.lst ((List.range n).map g), H) := by
  let g' : D → D := fun d => match d with | .int j => g j.toNat | d => d
  have := comp_map (g := g') (p := p) (i := i) (vis := vis) (xRange1_nat (vs := vs) (H := H) hn) (by simp; omega) (by
    intro d hd
    obtain ⟨j, hj, rfl⟩ := List.mem_map.mp hd
    exact hp j (List.mem_range.mp hj))
  rw [this, List.map_map]
  rfl
theorem comp_rangeE {n : Nat} {g : Nat → D} (hn : n < 1000000) (hp : ∀ j < n, ∀ H, ∃ H', p ((mask vis 0 vs).set i (some (.int (j : Int)))) H = some (g j, H')) : ∃ H', xComp vis i (xRange1 (xLit (.int (n : Int)))) none [] p vs H = some (.lst ((List.range n).map g), H') := by
  let g' : D → D := fun d => match d with | .int j => g j.toNat | d => d
  obtain ⟨H', this⟩ := comp_mapE (g := g') (p := p) (i := i) (vis := vis) (xRange1_nat (vs := vs) (H := H) hn) (by simp; omega) (by
    intro d hd
    obtain ⟨j, hj, rfl⟩ := List.mem_map.mp hd
    exact hp j (List.mem_range.mp hj))
  refine ⟨H', ?_⟩
  rw [this, List.map_map]
  rfl
end
/-! plain data -/
theorem canLayAll_map {α : Type} {f : α → PyData} : ∀ l : List α, (∀ a ∈ l, (f a).canLay0 = true) → PyData.canLayAll0 (l.map f) = true
  | [], _ => rfl
  | a :: l, h => by
    have h2 := canLayAll_map l fun b hb => h b (.tail _ hb)
    simp [PyData.canLayAll0, h a (.head _), h2]
theorem depthAll_map {α : Type} {f : α → PyData} {k : Nat} : ∀ l : List α, (∀ a ∈ l, (f a).depth ≤ k) → PyData.depthAll (l.map f) ≤ k
  | [], _ => by simp [PyData.depthAll]
  | a :: l, h => by
    have h1 := h a (.head _)
    have h2 := depthAll_map l fun b hb => h b (.tail _ hb)
    simp [PyData.depthAll]; omega
mutual
theorem eqv_refl : ∀ x : PyData, x.canLay0 = true → PyData.eqv x x = true
  | .none, _ => by simp [PyData.eqv]
  | .bool b, _ => by simp [PyData.eqv]
  | .int i, _ => by simp [PyData.eqv]
  | .str s, _ => by simp [PyData.eqv]
  | .list xs, h => by
    simp only [PyData.eqv]; exact eqvAll_refl xs (by simpa [PyData.canLay0] using h)
  | .tuple xs, h => by
    simp only [PyData.eqv]; exact eqvAll_refl xs (by simpa [PyData.canLay0] using h)
  | .dict _, h => by simp [PyData.canLay0] at h
theorem eqvAll_refl : ∀ xs : List PyData, PyData.canLayAll0 xs = true → PyData.eqvAll xs xs = true
  | [], _ => by simp [PyData.eqvAll]
  | x :: xs, h => by
    simp only [PyData.canLayAll0, Bool.and_eq_true] at h
    simp only [PyData.eqvAll, Bool.and_eq_true]
    exact ⟨eqv_refl x h.1, eqvAll_refl xs h.2⟩
end
/-- the same plain data -/
theorem fNe_same {a b : D} {H : Hp} {x : PyData} (ha : toPy 8 H a = some x) (hb : toPy 8 H b = some x) (hs : SeqAt.shaped x = true) : fNe a b H = some (.bool false) := by
  unfold fNe
  rw [ha, hb, Option.bind_some, Option.bind_some, if_pos (by rw [hs]; rfl), eqv_refl x (SeqAt.canLay_of_shaped hs)]
  rfl
theorem fEq_same {a b : D} {H : Hp} {x : PyData} (ha : toPy 8 H a = some x) (hb : toPy 8 H b = some x) (hs : SeqAt.shaped x = true) : fEq a b H = some (.bool true) := by
  unfold fEq
  rw [ha, hb, Option.bind_some, Option.bind_some, if_pos (by rw [hs]; rfl), eqv_refl x (SeqAt.canLay_of_shaped hs)]
theorem ne_nilL {l : List D} {xs : List PyData} {H : Hp} (h : l.mapM (toPy 7 H) = some xs) (hc : PyData.canLayAll0 xs = true) (hd : PyData.depthAll xs ≤ 60) : fNe (.lst l) (.lst []) H = some (.bool (!l.isEmpty)) := by
  have e1 : toPy 8 H (.lst l) = some (.list xs) := by
    show (l.mapM (toPy 7 H)).map PyData.list = _
    rw [h]; rfl
  have e2 : toPy 8 H (.lst []) = some (.list []) := rfl
  have hlen : l.isEmpty = xs.isEmpty := by
    cases l with
    | nil => rw [List.mapM_nil] at h; cases h; rfl
    | cons a l =>
      rw [List.mapM_cons] at h
      cases h1 : toPy 7 H a with
      | none => rw [h1] at h; cases h
      | some y =>
        cases h2 : l.mapM (toPy 7 H) with
        | none => rw [h1, h2] at h; cases h
        | some ys => rw [h1, h2] at h; cases h; rfl
  have e3 : PyData.eqv (.list xs) (.list []) = xs.isEmpty := by
    cases xs <;> simp [PyData.eqv, PyData.eqvAll]
  unfold fNe
  rw [e1, e2, Option.bind_some, Option.bind_some, e3, hlen, if_pos]
  simp [SeqAt.shaped, PyData.canLay0, hc, PyData.depth, PyData.canLayAll0, PyData.depthAll]
  omega
end Mine
open PySem PySem.W PyProof.Rows
set_option maxRecDepth 100000
namespace Mine
/-! which seats a row shows -/
noncomputable def rights : List (List Nat) := [[114], [119], [120], [115], [116]]
theorem bc_right (c b : Nat) (hc : [c] ∈ rights) : ([bc c b] ∈ rights) ↔ b = 1 := by
  unfold bc
  by_cases h : b = 1
  · simp [h, hc]
  · simp [h]; decide
theorem xc_right (x c s b a : Nat) (hx : [x] ∈ rights) (hs : [s] ∈ rights) (hc : [c] ∉ rights) : ([xc x c s b a] ∈ rights) ↔ b = 1 := by
  unfold xc
  by_cases h : b = 1 <;> by_cases g : a = 1 <;> simp [h, g, hx, hs, hc]
  decide
noncomputable def rowB (h b : Nat) : List Nat := [tc (h / 8 % 16), bc 114 (b / 256 % 2), bc 119 (b / 128 % 2), xc 120 83 115 (b / 64 % 2) (h / 4 % 2),
  bc 114 (b / 32 % 2), bc 119 (b / 16 % 2), xc 120 83 115 (b / 8 % 2) (h / 2 % 2), bc 114 (b / 4 % 2), bc 119 (b / 2 % 2), xc 120 84 116 (b / 1 % 2) (h / 1 % 2)]
theorem div_lo (h b p q : Nat) (hp : 0 < p) : (h * (p * (2 * q)) + b) / p % 2 = b / p % 2 := by
  rw [Nat.add_comm, Nat.mul_comm h, Nat.mul_assoc, Nat.add_mul_div_left _ _ hp, Nat.mul_assoc, Nat.add_mul_mod_self_left]
theorem div_hi (h b q m : Nat) (hb : b < 512) : (h * 512 + b) / (512 * q) % m = h / q % m := by
  rw [← Nat.div_div_eq_div_mul, Nat.mul_comm, Nat.mul_add_div (Nat.succ_pos 511), Nat.div_eq_of_lt hb, Nat.add_zero]
theorem row_B (h b : Nat) (hb : b < 512) : row (h * 512 + b) = rowB h b := by
  unfold row rowB
  rw [show (h * 512 + b) / 4096 % 16 = h / 8 % 16 from div_hi h b 8 16 hb, show (h * 512 + b) / 256 % 2 = b / 256 % 2 from div_lo h b 256 1 (Nat.succ_pos _), show (h * 512 + b) / 128 % 2 = b / 128 % 2 from div_lo h b 128 2 (Nat.succ_pos _),
    show (h * 512 + b) / 64 % 2 = b / 64 % 2 from div_lo h b 64 4 (Nat.succ_pos _), show (h * 512 + b) / 2048 % 2 = h / 4 % 2 from div_hi h b 4 2 hb, show (h * 512 + b) / 32 % 2 = b / 32 % 2 from div_lo h b 32 8 (Nat.succ_pos _),
    show (h * 512 + b) / 16 % 2 = b / 16 % 2 from div_lo h b 16 16 (Nat.succ_pos _), show (h * 512 + b) / 8 % 2 = b / 8 % 2 from div_lo h b 8 32 (Nat.succ_pos _), show (h * 512 + b) / 1024 % 2 = h / 2 % 2 from div_hi h b 2 2 hb,
    show (h * 512 + b) / 4 % 2 = b / 4 % 2 from div_lo h b 4 64 (Nat.succ_pos _), show (h * 512 + b) / 2 % 2 = b / 2 % 2 from div_lo h b 2 128 (Nat.succ_pos _), show (h * 512 + b) / 1 % 2 = b / 1 % 2 from div_lo h b 1 256 (Nat.succ_pos _), show (h * 512 + b) / 512 % 2 = h / 1 % 2 from div_hi h b 1 2 hb]
theorem rowB_len (h b : Nat) : (rowB h b).length = 10 := rfl
theorem rowB_right (h b q : Nat) (hq : q < 9) : ([(rowB h b).getD (q + 1) 0] ∈ rights) ↔ b / 2 ^ (8 - q) % 2 = 1 := by
  have a1 := bc_right 114 (b / 256 % 2) (by decide)
  have a2 := bc_right 119 (b / 128 % 2) (by decide)
  have a3 := xc_right 120 83 115 (b / 64 % 2) (h / 4 % 2) (by decide) (by decide) (by decide)
  have a4 := bc_right 114 (b / 32 % 2) (by decide)
  have a5 := bc_right 119 (b / 16 % 2) (by decide)
  have a6 := xc_right 120 83 115 (b / 8 % 2) (h / 2 % 2) (by decide) (by decide) (by decide)
  have a7 := bc_right 114 (b / 4 % 2) (by decide)
  have a8 := bc_right 119 (b / 2 % 2) (by decide)
  have a9 := xc_right 120 84 116 (b / 1 % 2) (h / 1 % 2) (by decide) (by decide) (by decide)
  revert q
  refine or9 ?_ ?_ ?_ ?_ ?_ ?_ ?_ ?_ ?_
  · exact a1
  · exact a2
  · exact a3
  · exact a4
  · exact a5
  · exact a6
  · exact a7
  · exact a8
  · exact a9
end Mine
open PySem PySem.W PyProof.Rows
set_option maxRecDepth 100000
namespace Mine
/-! law 01: small lemmas -/
noncomputable def natL (l : List Nat) : List D := l.map fun (n : Nat) => .int (n : Int)
theorem OkS.sub {w u : List Nat} (h : OkS w) (k : ∀ c ∈ u, c ∈ w) : OkS u := fun c hc => h c (k c hc)
theorem bIn_dict {w : List Nat} {k m : Nat} {f : Str → Option D} {H : Hp} (hk : H[k]? = some (.dict m f)) : bIn (dS w) (.own k) H = some (f (S w)).isSome := by
  show (match H[k]? with | some (.dict _ f) => (strOf (dS w)).map fun x => (f x).isSome | some (.list xs) => inL (dS w) xs H | _ => none) = _
  rw [hk]; rfl
theorem fItem_dict {w : List Nat} {k m : Nat} {f : Str → Option D} {H : Hp} (hk : H[k]? = some (.dict m f)) : fItem (.own k) (dS w) H = f (S w) := by
  show (match H[k]? with | some (.dict _ f) => f (S w) | _ => none) = _
  rw [hk]
theorem set_dict {w : List Nat} {k m : Nat} {d : D} {f : Str → Option D} {H : Hp} (hk : H[k]? = some (.dict m f)) (hm : m ≤ 100000) : gSetItem (.own k) (dS w) d H = some (H.set k (.dict (m + 1) fun y => if y = S w then some d else f y)) := by
  show (match H[k]? with | some (.dict m f) => if m ≤ 100000 then some (H.set k (.dict (m + 1) fun y => if y = S w then some d else f y)) else none | _ => none) = _
  rw [hk]; simp [hm]
theorem set_list {k i : Nat} {d : D} {xs : List D} {H : Hp} (hk : H[k]? = some (.list xs)) (hi : i < xs.length) (hl : xs.length ≤ 1000000) : gSetItem (.own k) (.int (i : Int)) d H = some (H.set k (.list (xs.set i d))) := by
  show (match H[k]? with | some (.list xs) => if 0 ≤ (i : Int) ∧ (i : Int) < xs.length ∧ xs.length ≤ 1000000 then some (H.set k (.list (xs.set (i : Int).toNat d))) else none | _ => none) = _
  rw [hk]
  show (if 0 ≤ (i : Int) ∧ (i : Int) < xs.length ∧ xs.length ≤ 1000000 then some (H.set k (.list (xs.set (i : Int).toNat d))) else none) = _
  rw [if_pos ⟨by omega, by omega, hl⟩]; rfl
theorem step_next {p q : XS} {vs vs1 : Vs} {H H1 : Hp} (h : p vs H = some (.next, vs1, H1)) : xSeq p q vs H = q vs1 H1 := by
  unfold xSeq; rw [h]; rfl
theorem bc_small {c b : Nat} (h : c < 128) : bc c b < 128 := by
  unfold bc; split <;> omega
theorem xc_small {x c s b a : Nat} (h1 : x < 128) (h2 : c < 128) (h3 : s < 128) : xc x c s b a < 128 := by
  unfold xc; split <;> split <;> omega
theorem tc_small (h : Nat) : tc (h % 16) < 128 := by
  have : ∀ t < 16, tc t < 128 := by decide
  exact this _ (Nat.mod_lt _ (by omega))
theorem rowB_small (h b : Nat) : ∀ c ∈ rowB h b, c < 128 := by
  intro c hc
  unfold rowB at hc
  simp only [List.mem_cons, List.not_mem_nil, or_false] at hc
  rcases hc with rfl | rfl | rfl | rfl | rfl | rfl | rfl | rfl | rfl | rfl
  · exact tc_small _
  all_goals first | exact bc_small (by omega) | exact xc_small (by omega) (by omega) (by omega)
theorem okS_row (m : Nat) : OkS (row m) := by
  intro c hc
  have h : row m = rowB (m / 512) (m % 512) := by
    conv => lhs; rw [show m = m / 512 * 512 + m % 512 by omega]
    rw [row_B _ _ (Nat.mod_lt _ (by omega))]
  rw [h] at hc
  have := rowB_small _ _ c hc
  omega
theorem var_of {us : Vs} {i : Nat} {d : D} {H : Hp} (h : us[i]? = some (some d)) : xVar i us H = some (d, H) := by unfold xVar; rw [h]
theorem idx {n j : Nat} {f : Nat → D} {H : Hp} (h : j < n) (hn : n < 1000) : fItem (.lst ((List.range n).map f)) (.int (j : Int)) H = some (f j) := fItem_lst (by simp [h]) (by omega)
noncomputable def imod (x : Int) (m : Nat) : Nat := (x % (m : Int)).toNat
theorem modI (x : Int) {m : Nat} (h : 0 < m) (H : Hp) : fInt iMod (.int x) (.int (m : Int)) H = some (.int (imod x m : Nat)) := by
  show iMod x (m : Int) = _
  unfold iMod imod
  have h1 := Int.emod_nonneg x (b := (m : Int)) (by omega)
  rw [if_pos (by omega), Int.fmod_eq_emod_of_nonneg _ (by omega), Int.toNat_of_nonneg h1]
theorem divI (x : Int) {m : Nat} (h : 0 < m) (h' : m < 2 ^ 30) (H : Hp) : fInt iDiv (.int x) (.int (m : Int)) H = some (.int (x.fdiv m)) := by
  show iDiv x (m : Int) = _
  unfold iDiv
  rw [if_pos ⟨by omega, by omega⟩]
theorem addI (x y : Int) (H : Hp) : fAdd (.int x) (.int y) H = some (.int (x + y)) := rfl
theorem pick_map {α β : Type} (f : α → β) (l : List α) (lo hi st : Option Int) : pick (l.map f) lo hi st = (pick l lo hi st).map f := by
  unfold pick
  rw [List.length_map, List.map_filterMap]
  congr 1
  funext i
  rw [List.getElem?_map]
theorem sum_ints (l : List Int) (H : Hp) : gSum [.lst (l.map D.int)] H = some (.int l.sum, H) := by
  show ((itsOf (.lst (l.map D.int)) H).bind fun xs => (xs.mapM asInt).map fun ns => (D.int ns.sum, H)) = _
  rw [its_lst, Option.bind_some, asInt_map]; rfl
theorem sum_nats (l : List Nat) (H : Hp) : gSum [.lst (l.map fun (n : Nat) => .int (n : Int))] H = some (.int (l.sum : Nat), H) := by
  have e : (l.map fun (n : Nat) => D.int (n : Int)) = (l.map fun (n : Nat) => (n : Int)).map D.int := by rw [List.map_map]; rfl
  have e2 : ((l.map fun (n : Nat) => (n : Int))).sum = ((l.sum : Nat) : Int) := by
    induction l with
    | nil => rfl
    | cons a l ih =>
      have ih := ih (by rw [List.map_map]; rfl)
      rw [List.map_cons, List.sum_cons, List.sum_cons, ih]; simp
  rw [e, sum_ints, e2]
section
variable {us : Vs} {H : Hp} {j : Nat}
theorem lit4 (a b c d : Int) (hj : j < 4) : fItem (.lst [.int a, .int b, .int c, .int d]) (.int (j : Int)) H = some (.int (([a, b, c, d] : List Int).getD j 0)) := by
  refine fItem_lst ?_ (by omega)
  rcases (by omega : j = 0 ∨ j = 1 ∨ j = 2 ∨ j = 3) with rfl | rfl | rfl | rfl <;> rfl
theorem lst4_of (a b c d : Int) : xLst [(xLit (.int a)), (xLit (.int b)), (xLit (.int c)), (xLit (.int d))] us H = some (.lst [.int a, .int b, .int c, .int d], H) := rfl
theorem chr_of {a : Nat} (h : a < 55296) : gChr [.int (a : Int)] H = some (dS [a], H) := by
  show (if 0 ≤ (a : Int) ∧ (a : Int).toNat < 55296 then some (D.str ⟨#[(a : Int).toNat]⟩, H) else none) = _
  rw [if_pos ⟨by omega, by simpa using h⟩]; rfl
theorem mask_at (vis : List Nat) : ∀ (us : Vs) (j k : Nat), (mask vis j us)[k]? = (us[k]?).map fun d => if vis.contains (j + k) then d else none
  | [], j, k => by simp [mask]
  | d :: us, j, 0 => by simp [mask]
  | d :: us, j, k + 1 => by
    show (mask vis (j + 1) us)[k]? = _
    rw [mask_at vis us (j + 1) k, show j + 1 + k = j + (k + 1) by omega]
    rfl
theorem mask_len (vis : List Nat) : ∀ (us : Vs) (j : Nat), (mask vis j us).length = us.length
  | [], _ => rfl
  | d :: us, j => by simp [mask, mask_len vis us (j + 1)]
theorem mk_get {vis : List Nat} {us : Vs} {i k : Nat} {x : Option D} {d : D} (hk : vis.contains k = true) (hki : i ≠ k) (h : us[k]? = some (some d)) : ((mask vis 0 us).set i x)[k]? = some (some d) := by
  rw [List.getElem?_set_ne hki, mask_at, h]
  simp only [Option.map_some, Nat.zero_add]
  rw [if_pos hk]
theorem mk_self {vis : List Nat} {us : Vs} {i : Nat} {x : Option D} (h : i < us.length) : ((mask vis 0 us).set i x)[i]? = some x := List.getElem?_set_self (by rw [mask_len]; exact h)
theorem xIt_of {k : Nat} {l : List D} (h : us[k]? = some (some (.lst l))) : xIt (xVar k) us H = some (l, H) := by
  simp only [xIt, var_of h, Option.bind_some, itemsOf, Option.map_some]
theorem toPy_strs {n : Nat} (l : List (List Nat)) : toPy (n + 2) H (.lst (l.map dS)) = some (.list (l.map fun x => PyData.str (S x))) := by
  show ((l.map dS).mapM (toPy (n + 1) H)).map PyData.list = _
  rw [mapM_map (f := toPy (n + 1) H) (g := dS) (h := fun x => PyData.str (S x)) (fun _ => rfl)]
  rfl
theorem shaped_strs (l : List (List Nat)) (h : ∀ x ∈ l, OkS x) : SeqAt.shaped (.list (l.map fun x => PyData.str (S x))) = true := by
  have h1 : PyData.canLayAll0 (l.map fun x => PyData.str (S x)) = true := canLayAll_map l fun a ha => okS_str (h a ha)
  have h2 : PyData.depthAll (l.map fun x => PyData.str (S x)) ≤ 0 := depthAll_map l fun a _ => by simp [PyData.depth]
  simp [SeqAt.shaped, PyData.canLay0, h1, PyData.depth]
  omega
theorem count_nl (l : List Nat) : gCountS (dS l) [.str "\n"] H = some (.int (l.count 10 : Nat), H) := rfl
theorem len_text (l : List Nat) (h : l.length ≤ 1000000) : gLen [dS l] H = some (.int (l.length : Nat), H) := by
  show (if (S l).length ≤ 1000000 then some (D.int ((S l).length : Nat), H) else none) = _
  rw [S_len, if_pos h]
theorem assign_of {i : Nat} {p : XE} {us : Vs} {H H' : Hp} {d : D} (h : p us H = some (d, H')) : xAssign i p us H = some (.next, us.set i (some d), H') := by
  unfold xAssign; rw [h]; rfl
end
end Mine
open PySem PySem.W PyProof.Rows
set_option maxRecDepth 100000
namespace Mine
/-! law 01: a lexer on a text -/
theorem list_text (l : List Nat) (H : Hp) (h : l.length ≤ 1000000) : gList [dS l] H = some (.own H.length, H ++ [.list (l.map fun c => dS [c])]) := by
  show (if (S l).length ≤ 1000000 then some (D.own H.length, H ++ [CO.list (signs (S l))]) else none) = _
  rw [S_len, if_pos h]
  rfl
noncomputable def ws1 : List Nat := [10, 9, 13, 32]
noncomputable def tapeG (n : Nat) : Str → Option D := fun y => if y = "read" then some (.own (n + 4)) else f0 (.own n) (n + 3) y
theorem tape_new (C : Addr) (text : List Nat) (H : Hp) (hl : text.length < 900) :
    G_law_tape C [dS text] H = some (.own (H.length + 2), H ++ [CO.list (text.map fun c => dS [c]), CO.attrs lexNs (tapeG H.length), CO.inst C (H.length + 1), CO.list [], CO.lam H.length]) := by
  obtain ⟨n, hn⟩ : ∃ n, n = H.length := ⟨_, rfl⟩
  rw [← hn]
  have e1 : gList [dS text] H = some (.own n, H ++ [.list (text.map fun c => dS [c])]) := by rw [hn]; exact list_text text H (by omega)
  have e2 := new_eval C (.own n) (H ++ [.list (text.map fun c => dS [c])])
  have hn1 : (H ++ [CO.list (text.map fun c => dS [c])]).length = n + 1 := by simp [hn]
  rw [hn1] at e2
  have a1 : H ++ [CO.list (text.map fun c => dS [c])] ++ [CO.attrs lexNs (f0 (.own n) (n + 1 + 2)), CO.inst C (n + 1), CO.list []] = H ++ [CO.list (text.map fun c => dS [c]), CO.attrs lexNs (f0 (.own n) (n + 3)), CO.inst C (n + 1), CO.list []] := by simp
  rw [a1] at e2
  have e3 : gSet C lexNs "read" (.own (n + 1 + 1)) (.own (H ++ [CO.list (text.map fun c => dS [c]), CO.attrs lexNs (f0 (.own n) (n + 3)), CO.inst C (n + 1), CO.list []]).length) (H ++ [CO.list (text.map fun c => dS [c]), CO.attrs lexNs (f0 (.own n) (n + 3)), CO.inst C (n + 1), CO.list []] ++ [CO.lam n]) =
      some (H ++ [CO.list (text.map fun c => dS [c]), CO.attrs lexNs (tapeG n), CO.inst C (n + 1), CO.list [], CO.lam n]) := by
    have hl : (H ++ [CO.list (text.map fun c => dS [c]), CO.attrs lexNs (f0 (.own n) (n + 3)), CO.inst C (n + 1), CO.list []]).length = n + 4 := by simp [hn]
    rw [hl, List.append_assoc, gSet_of (kd := n + 1) (f := f0 (.own n) (n + 3)) (by rw [hn, show H.length + 1 + 1 = H.length + 2 from rfl, app_get]; rfl) (by rw [hn, app_get]; rfl) in_read]
    rw [hn, app_set]
    rfl
  unfold G_law_tape xFun b_law_tape
  simp only [vars0, List.length_cons, List.length_nil, reduceIte, List.map_cons, List.map_nil, List.replicate, List.cons_append, List.nil_append, Nat.zero_add, Nat.reduceAdd, Nat.reduceSub, xSeq, xAssign, xCall, xAll, xVar, List.getElem?_cons_zero, List.getElem?_cons_succ, Option.bind_some, Option.map_some, e1, List.set_cons_succ, List.set_cons_zero, e2, xLam, e3, List.take_succ_cons, List.take_zero, xRet, xSkip]
/-- _netrclex(_law_tape(text)) -/
theorem lexer1 (C : Addr) (text : List Nat) (H : Hp) (ht : OkS text) (hl : text.length < 900) {p : XE} {us : Vs} (hp : p us H = some (dS text, H)) :
    ∃ x H', xCall (gNew C lexNs (G_init C)) [(xCall (G_law_tape C) [p])] us H = some (.own x.k, H') ∧ LexAt C H' x ⟨text, 1 + (text.count 10 : Nat), ws1, []⟩ ∧ Fr [] H H' ∧ ∀ j ∈ x.all, H.length ≤ j := by
  have e1 := tape_new C text H hl
  have e2 := new_eval C (.own (H.length + 2)) (H ++ [CO.list (text.map fun c => dS [c]), CO.attrs lexNs (tapeG H.length), CO.inst C (H.length + 1), CO.list [], CO.lam H.length])
  obtain ⟨n, hn⟩ : ∃ n, n = H.length := ⟨_, rfl⟩
  rw [← hn] at e1 e2 ⊢
  have hl5 : (H ++ [CO.list (text.map fun c => dS [c]), CO.attrs lexNs (tapeG n), CO.inst C (n + 1), CO.list [], CO.lam n]).length = n + 5 := by simp [hn]
  rw [hl5, List.append_assoc] at e2
  simp only [List.cons_append, List.nil_append] at e2
  refine ⟨⟨n + 6, n + 5, n + 7, n + 2, n + 1, n + 4, n⟩, H ++ [CO.list (text.map fun c => dS [c]), CO.attrs lexNs (tapeG n), CO.inst C (n + 1), CO.list [], CO.lam n, CO.attrs lexNs (f0 (.own (n + 2)) (n + 5 + 2)), CO.inst C (n + 5), CO.list []], ?_, ?_, Fr.app [] H _, ?_⟩
  · simp only [xCall, xAll, hp, Option.bind_some, Option.map_some, e1, e2]
  · refine ⟨by show _[n + 6]? = _; rw [hn, app_get]; rfl, ⟨f0 (.own (n + 2)) (n + 5 + 2), by show _[n + 5]? = _; rw [hn, app_get]; rfl, ?_, ?_, ?_, ?_⟩, by show _[n + 7]? = _; rw [hn, app_get]; rfl, by show _[n + 2]? = _; rw [hn, app_get]; rfl, ⟨tapeG n, by show _[n + 1]? = _; rw [hn, app_get]; rfl, ?_, ?_⟩, by show _[n + 4]? = _; rw [hn, app_get]; rfl, by show _[n]? = _; rw [hn, app_get0]; rfl, by show n + 7 ≠ n; omega, by show n + 5 ≠ n + 1; omega, ht, hl⟩
    · unfold f0
      rw [if_neg (str_ne (by decide +kernel)), if_neg (str_ne (by decide +kernel)), if_neg (str_ne (by decide +kernel)), if_pos rfl]
      unfold LS.line
      simp
    · unfold f0
      rw [if_neg (str_ne (by decide +kernel)), if_neg (str_ne (by decide +kernel)), if_pos rfl]
    · unfold f0
      rw [if_neg (str_ne (by decide +kernel)), if_pos rfl]
      rfl
    · unfold f0
      rw [if_pos rfl]
    · unfold tapeG
      rw [if_pos rfl]
    · unfold tapeG
      rw [if_neg (str_ne (by decide +kernel))]
      unfold f0
      rw [if_neg (str_ne (by decide +kernel)), if_neg (str_ne (by decide +kernel)), if_pos rfl]
  · intro j hj
    simp only [Ix.all, List.mem_cons, List.not_mem_nil, or_false] at hj
    rcases hj with rfl | rfl | rfl | rfl | rfl | rfl | rfl <;> omega
end Mine
open PySem PySem.W PyProof.Rows
set_option maxRecDepth 100000
namespace Mine
/-! _law_pieces of law 01 -/
noncomputable def bl1 : List Nat := [32, 10, 9, 13]
noncomputable def lead1 (M : Nat) : List Nat := ([[], [32], [10], [13, 9]] : List (List Nat)).getD (M % 4) []
noncomputable def escq (q : Bool) (bl : List Nat) (k c M : Nat) : Bool := (decide (c ∈ if q then [34, 92] else 92 :: bl) || (c == 34 && k == 0)) || (M / 2 ^ (k + 8) % 2 == 1)
noncomputable abbrev pcInner : XS := (xSeq (xAssign 8 (xOp2 fItem (xOp2 fItem (xVar 0) (xVar 3)) (xVar 7))) (xSeq (xAssign 9 (xOrV (xOp2 fIn (xVar 8) (xIf (xTru tBool (xVar 4)) (xLit (.str "\"\\")) (xLit (.str "\\ \n\t\r")))) (xAndV (xOp2 fEq (xVar 8) (xLit (.str "\""))) (xOp2 (fInt iEq) (xVar 7) (xLit (.int 0)))))) (xSeq (xBr (xIf (xTru tBool (xVar 9)) xTT (xTest (fInt iEq) (xOp2 (fInt iMod) (xOp2 (fInt iDiv) (xOp2 fItem (xVar 1) (xVar 3)) (xOp2 (fInt iPow) (xLit (.int 2)) (xOp2 fAdd (xVar 7) (xLit (.int 8))))) (xLit (.int 2))) (xLit (.int 1)))) (xSeq (xDo (xMeth isOwnL gAppend (xVar 6) [(xLit (.str "\\"))])) xSkip) xSkip) (xSeq (xDo (xMeth isOwnL gAppend (xVar 6) [(xVar 8)])) xSkip))))
theorem pc_inner {words manners : List D} {w : List Nat} {p s n k c M way : Nat} {q : Bool} {a9 a10 : Option D} {xs : List (List Nat)} {H : Hp} (hw : words[n]? = some (dS w)) (hc : w[k]? = some c) (hM : manners[n]? = some (.int (M : Int))) (hn : n < 1000) (hk : k < 12) (hcs : c < 1114112) (hs : H[s]? = some (.list (xs.map dS))) (hl : xs.length < 1000) :
    pcInner [some (.lst words), some (.lst manners), some (.own p), some (.int (n : Int)), some (.bool q), some (.int (way : Int)), some (.own s), some (.int (k : Int)), a9, a10] H =
      some (.next, [some (.lst words), some (.lst manners), some (.own p), some (.int (n : Int)), some (.bool q), some (.int (way : Int)), some (.own s), some (.int (k : Int)), some (dS [c]), some (.bool (decide (c ∈ if q then [34, 92] else 92 :: bl1) || (c == 34 && k == 0)))], H.set s (.list ((xs ++ (if escq q bl1 k c M then [[92]] else []) ++ [[c]]).map dS))) := by
  have lits : ("\"\\" : Str) = S [34, 92] := rfl
  have ih : ∀ {a9 a10 : Option D} {H : Hp}, xIf (xTru tBool (xVar 4)) (xLit (.str "\"\\")) (xLit (.str "\\ \n\t\r")) [some (.lst words), some (.lst manners), some (.own p), some (.int (n : Int)), some (.bool q), some (.int (way : Int)), some (.own s), some (.int (k : Int)), a9, a10] H = some (dS (if q then [34, 92] else 92 :: bl1), H) := fun {a9 a10 H} => match q with
    | true => e_ift (e_tru (e_var rfl) rfl) e_lit
    | false => e_iff (e_tru (e_var rfl) rfl) e_lit
  have q1 : fEq (dS [c]) (.str "\"") H = some (.bool (c == 34)) := (fEq_str (b := [34]) (OkS.one hcs) (OkS.one (by decide))).trans (by rw [List.cons_beq_cons]; simp)
  have pw : 2 ^ (k + 8) < 2 ^ 30 := Nat.pow_lt_pow_right (by decide) (by omega)
  have cnd : xIf (xTru tBool (xVar 9)) xTT (xTest (fInt iEq) (xOp2 (fInt iMod) (xOp2 (fInt iDiv) (xOp2 fItem (xVar 1) (xVar 3)) (xOp2 (fInt iPow) (xLit (.int 2)) (xOp2 fAdd (xVar 7) (xLit (.int 8))))) (xLit (.int 2))) (xLit (.int 1))) [some (.lst words), some (.lst manners), some (.own p), some (.int (n : Int)), some (.bool q), some (.int (way : Int)), some (.own s), some (.int (k : Int)), some (dS [c]), some (.bool (decide (c ∈ if q then [34, 92] else 92 :: bl1) || (c == 34 && k == 0)))] H = some (escq q bl1 k c M, H) :=
    e_orT (e_tru (e_var rfl) rfl) (e_test (e_op (e_op (e_op (e_var rfl) (e_var rfl) (fItem_lst hM (Nat.lt_trans hn (by decide)))) (e_op e_lit (e_op (e_var rfl) e_lit (add_nat k 8 H)) (pow_nat 2 (k + 8) H (by decide) (by omega))) (div_nat M _ H (Nat.two_pow_pos _) pw)) e_lit (mod_nat _ 2 H (by decide))) e_lit (eq_nat _ 1 H))
  refine e_seq (e_asg (e_op (e_op (e_var rfl) (e_var rfl) (fItem_lst hw (Nat.lt_trans hn (by decide)))) (e_var rfl) (fItem_str hc (Nat.lt_trans hk (by decide))))) ?_
  refine e_seq (e_asg (e_orB (e_op (e_var rfl) ih fIn_sign) (e_andB (e_op (e_var rfl) e_lit q1) (e_op (e_var rfl) e_lit (eq_nat k 0 H))))) ?_
  have go : ∀ (ys : List (List Nat)) (H1 : Hp), H1[s]? = some (.list (ys.map dS)) → ys.length < 2000 → xSeq (xDo (xMeth isOwnL gAppend (xVar 6) [(xVar 8)])) xSkip [some (.lst words), some (.lst manners), some (.own p), some (.int (n : Int)), some (.bool q), some (.int (way : Int)), some (.own s), some (.int (k : Int)), some (dS [c]), some (.bool (decide (c ∈ if q then [34, 92] else 92 :: bl1) || (c == 34 && k == 0)))] H1 = some (.next, _, H1.set s (.list ((ys ++ [[c]]).map dS))) := fun ys H1 h hl2 =>
    e_fin (e_do (e_meth (e_var rfl) (isOwnL_own h) (e_cons (e_var rfl) e_nil) ((append_own h (by rw [List.length_map]; omega)).trans (by rw [List.map_append]; rfl))))
  cases hb2 : escq q bl1 k c M with
  | false =>
    rw [hb2] at cnd
    refine e_seq (e_brf cnd e_skip) ((go xs H hs (by omega)).trans ?_)
    rw [if_neg Bool.false_ne_true, List.append_nil]
  | true =>
    rw [hb2] at cnd
    refine e_seq (e_brt cnd (e_fin (e_do (e_meth (e_var rfl) (isOwnL_own hs) (e_cons e_lit e_nil) (append_own hs (by rw [List.length_map]; omega)))))) ((go (xs ++ [[92]]) (H.set s (.list (xs.map dS ++ [D.str "\\"]))) ((set_get hs).trans (by rw [List.map_append]; rfl)) (by rw [List.length_append, List.length_singleton]; omega)).trans ?_)
    rw [List.set_set, if_pos rfl]
noncomputable def qOf (M : Nat) : Bool := M / 16 % 2 == 1
noncomputable def escL (M : Nat) (w : List Nat) : List (Bool × Nat) := (List.range 12).map fun k => (escq (qOf M) bl1 k (w.getD k 0) M, w.getD k 0)
noncomputable def tailOf (M n : Nat) : List Nat := if n = 3 ∧ M / 4 % 4 < 2 then (if M / 4 % 4 = 0 then [] else [92]) else (if qOf M then [34] else [bl1.getD (M / 4 % 4) 0])
noncomputable def pieceT (M : Nat) (w : List Nat) (n : Nat) : List Nat := pieceL (lead1 M) (qOf M) (escL M w) ++ tailOf M n
noncomputable def signsT (M : Nat) (w : List Nat) (j : Nat) : List (List Nat) := [lead1 M, if qOf M then [34] else []] ++ (List.range j).flatMap fun k => (if escq (qOf M) bl1 k (w.getD k 0) M then [[92]] else []) ++ [[w.getD k 0]]
theorem flat_body : ∀ l : List (Bool × Nat), (l.flatMap fun p => (if p.1 then [[92]] else []) ++ [[p.2]]).flatten = bodyL l
  | [] => rfl
  | (e, c) :: r => by
    rw [List.flatMap_cons, List.flatten_append, flat_body r]
    cases e <;> rfl
theorem signsT_flat (M : Nat) (w : List Nat) : (signsT M w 12).flatten = pieceL (lead1 M) (qOf M) (escL M w) := by
  have e : (List.range 12).flatMap (fun k => (if escq (qOf M) bl1 k (w.getD k 0) M then [[92]] else []) ++ [[w.getD k 0]]) = (escL M w).flatMap fun p => (if p.1 then [[92]] else []) ++ [[p.2]] := by
    unfold escL; rw [List.flatMap_map]
  unfold signsT pieceL
  rw [e, List.flatten_append, flat_body]
  cases qOf M <;> simp
theorem signsT_len (M : Nat) (w : List Nat) : ∀ j, (signsT M w j).length ≤ 2 + 2 * j
  | 0 => by simp [signsT]
  | j + 1 => by
    have ih := signsT_len M w j
    unfold signsT at ih ⊢
    rw [List.range_succ, List.flatMap_append, ← List.append_assoc, List.length_append]
    have : ((List.flatMap (fun k => (if escq (qOf M) bl1 k (w.getD k 0) M then [[92]] else []) ++ [[w.getD k 0]]) [j])).length ≤ 2 := by
      simp only [List.flatMap_cons, List.flatMap_nil, List.append_nil]
      split <;> simp
    omega
theorem bodyL_len : ∀ l : List (Bool × Nat), (bodyL l).length ≤ 2 * l.length
  | [] => by simp [bodyL]
  | (e, c) :: r => by
    have := bodyL_len r
    cases e <;> simp [bodyL] <;> omega
theorem tailOf_len (M n : Nat) : (tailOf M n).length ≤ 1 := by
  unfold tailOf
  split
  · split <;> simp
  · split <;> simp
theorem pieceT_len (M : Nat) (w : List Nat) (n : Nat) : (pieceT M w n).length ≤ 30 := by
  have h1 := bodyL_len (escL M w)
  have h2 : (escL M w).length = 12 := by simp [escL]
  have h3 := tailOf_len M n
  unfold pieceT pieceL
  have h4 : (lead1 M).length ≤ 3 := by
    have h5 : M % 4 < 4 := Nat.mod_lt _ (by omega)
    unfold lead1
    rcases (by omega : M % 4 = 0 ∨ M % 4 = 1 ∨ M % 4 = 2 ∨ M % 4 = 3) with e | e | e | e <;> rw [e] <;> decide
  rw [List.length_append, List.length_append]
  cases qOf M <;> simp <;> omega
noncomputable abbrev pcNew : XE := (xNew [(xOp2 fItem (xLst [(xLit (.str "")), (xLit (.str " ")), (xLit (.str "\n")), (xLit (.str "\r\t"))]) (xOp2 (fInt iMod) (xOp2 fItem (xVar 1) (xVar 3)) (xLit (.int 4)))), (xIf (xTru tBool (xVar 4)) (xLit (.str "\"")) (xLit (.str "")))])
noncomputable abbrev pcTail : XS := (xBr (xIf (xTest (fInt iEq) (xVar 3) (xLit (.int 3))) (xTest (fInt iLt) (xVar 5) (xLit (.int 2))) xFF) (xSeq (xDo (xMeth isOwnL gAppend (xVar 6) [(xOp2 fItem (xLst [(xLit (.str "")), (xLit (.str "\\"))]) (xVar 5))])) xSkip) (xSeq (xDo (xMeth isOwnL gAppend (xVar 6) [(xIf (xTru tBool (xVar 4)) (xLit (.str "\"")) (xOp2 fItem (xLit (.str " \n\t\r")) (xVar 5)))])) xSkip))
noncomputable abbrev pcBody : XS := (xSeq (xAssign 4 (xOp2 (fInt iEq) (xOp2 (fInt iMod) (xOp2 (fInt iDiv) (xOp2 fItem (xVar 1) (xVar 3)) (xLit (.int 16))) (xLit (.int 2))) (xLit (.int 1)))) (xSeq (xAssign 5 (xOp2 (fInt iMod) (xOp2 (fInt iDiv) (xOp2 fItem (xVar 1) (xVar 3)) (xLit (.int 4))) (xLit (.int 4)))) (xSeq (xAssign 6 pcNew) (xSeq (xFor 7 (xRange1 (xLit (.int 12))) pcInner xSkip) (xSeq pcTail (xSeq (xDo (xMeth isOwnL gAppend (xVar 2) [(xMeth isStrD gJoin (xLit (.str "")) [(xVar 6)])])) xSkip))))))
section
variable {words manners : List D} {w : List Nat} {p n M : Nat} {H : Hp}
theorem pc_tail {a8 a9 a10 : Option D} {s : Nat} {xs : List (List Nat)} (hn : n < 1000) (hs : H[s]? = some (.list (xs.map dS))) (hl : xs.length < 1000) :
    pcTail [some (.lst words), some (.lst manners), some (.own p), some (.int (n : Int)), some (.bool (qOf M)), some (.int ((M / 4 % 4 : Nat) : Int)), some (.own s), a8, a9, a10] H =
      some (.next, [some (.lst words), some (.lst manners), some (.own p), some (.int (n : Int)), some (.bool (qOf M)), some (.int ((M / 4 % 4 : Nat) : Int)), some (.own s), a8, a9, a10], H.set s (.list ((xs ++ [tailOf M n]).map dS))) := by
  have cnd := e_andT (vs := [some (.lst words), some (.lst manners), some (.own p), some (.int (n : Int)), some (.bool (qOf M)), some (.int ((M / 4 % 4 : Nat) : Int)), some (.own s), a8, a9, a10]) (H := H) (e_test (e_var (i := 3) rfl) (e_lit (d := .int 3)) (eq_nat n 3 H)) (e_test (e_var (i := 5) rfl) (e_lit (d := .int 2)) (lt_nat (M / 4 % 4) 2 H))
  have app : ∀ {e : XE} {l : List Nat}, e [some (.lst words), some (.lst manners), some (.own p), some (.int (n : Int)), some (.bool (qOf M)), some (.int ((M / 4 % 4 : Nat) : Int)), some (.own s), a8, a9, a10] H = some (dS l, H) → xSeq (xDo (xMeth isOwnL gAppend (xVar 6) [e])) xSkip [some (.lst words), some (.lst manners), some (.own p), some (.int (n : Int)), some (.bool (qOf M)), some (.int ((M / 4 % 4 : Nat) : Int)), some (.own s), a8, a9, a10] H = some (.next, [some (.lst words), some (.lst manners), some (.own p), some (.int (n : Int)), some (.bool (qOf M)), some (.int ((M / 4 % 4 : Nat) : Int)), some (.own s), a8, a9, a10], H.set s (.list ((xs ++ [l]).map dS))) := fun h =>
    e_fin (e_do (e_meth (e_var rfl) (isOwnL_own hs) (e_cons h e_nil) ((append_own hs (by rw [List.length_map]; omega)).trans (by rw [List.map_append]; rfl))))
  unfold tailOf
  by_cases h : n = 3 ∧ M / 4 % 4 < 2
  · rw [if_pos h]
    rw [beq_iff_eq.mpr h.1, decide_eq_true h.2] at cnd
    refine e_brt cnd (app (e_op (e_lst (e_cons e_lit (e_cons e_lit e_nil)) rfl) (e_var rfl) (fItem_lst ?_ (by omega))))
    rcases or2 h.2 with e | e <;> rw [e] <;> rfl
  · rw [if_neg h]
    have hc : (n == 3 && decide (M / 4 % 4 < 2)) = false := by
      cases q : (n == 3 && decide (M / 4 % 4 < 2)) with
      | false => rfl
      | true => exact absurd ⟨beq_iff_eq.mp (Bool.and_eq_true_iff.mp q).1, of_decide_eq_true (Bool.and_eq_true_iff.mp q).2⟩ h
    rw [hc] at cnd
    refine e_brf cnd (app ?_)
    have i1 : fItem (.str (S bl1)) (.int ((M / 4 % 4 : Nat) : Int)) H = some (dS [bl1.getD (M / 4 % 4) 0]) := by
      refine fItem_str ?_ (Nat.lt_trans (Nat.mod_lt _ (by decide)) (by decide))
      rcases or4 (Nat.mod_lt (M / 4) (by decide : 4 > 0)) with e | e | e | e <;> rw [e] <;> rfl
    cases hq : qOf M with
    | true => exact e_ift (e_tru (e_var rfl) rfl) e_lit
    | false => exact e_iff (e_tru (e_var rfl) rfl) (e_op e_lit (e_var rfl) i1)
theorem pc_body {a5 a6 a7 a8 a9 a10 : Option D} {ps : List (List Nat)} (hw : words[n]? = some (dS w)) (hwl : w.length = 12) (hws : OkS w) (hM : manners[n]? = some (.int (M : Int))) (hn : n < 1000) (hp : H[p]? = some (.list (ps.map dS))) (hl : ps.length < 1000) :
    ∃ b5 b6 b7 b8 b9 b10 H', pcBody [some (.lst words), some (.lst manners), some (.own p), some (.int (n : Int)), a5, a6, a7, a8, a9, a10] H = some (.next, [some (.lst words), some (.lst manners), some (.own p), some (.int (n : Int)), b5, b6, b7, b8, b9, b10], H') ∧ H'[p]? = some (.list ((ps ++ [pieceT M w n]).map dS)) := by
  have i3 : ∀ {H}, fItem (.lst manners) (.int (n : Int)) H = some (.int (M : Int)) := fItem_lst hM (Nat.lt_trans hn (by decide))
  have e5 := e_asg (i := 4) (e_op (vs := [some (.lst words), some (.lst manners), some (.own p), some (.int (n : Int)), a5, a6, a7, a8, a9, a10]) (H := H) (e_op (e_op (e_op (e_var (i := 1) rfl) (e_var (i := 3) rfl) i3) (e_lit (d := .int 16)) (div_nat M 16 H (by decide) (by decide))) (e_lit (d := .int 2)) (mod_nat _ 2 H (by decide))) (e_lit (d := .int 1)) (eq_nat _ 1 H))
  have e6 := e_asg (i := 5) (e_op (vs := [some (.lst words), some (.lst manners), some (.own p), some (.int (n : Int)), some (.bool (qOf M)), a6, a7, a8, a9, a10]) (H := H) (e_op (e_op (e_var (i := 1) rfl) (e_var (i := 3) rfl) i3) (e_lit (d := .int 4)) (div_nat M 4 H (by decide) (by decide))) (e_lit (d := .int 4)) (mod_nat _ 4 H (by decide)))
  have sl : fItem (.lst [.str "", .str " ", .str "\n", .str "\r\t"]) (.int ((M % 4 : Nat) : Int)) H = some (dS (lead1 M)) := by
    refine fItem_lst ?_ (Nat.lt_trans (Nat.mod_lt _ (by decide)) (by decide))
    unfold lead1
    rcases or4 (Nat.mod_lt M (by decide : 4 > 0)) with e | e | e | e <;> rw [e] <;> rfl
  have eq : xIf (xTru tBool (xVar 4)) (xLit (.str "\"")) (xLit (.str "")) [some (.lst words), some (.lst manners), some (.own p), some (.int (n : Int)), some (.bool (qOf M)), some (.int ((M / 4 % 4 : Nat) : Int)), a7, a8, a9, a10] H = some (dS (if qOf M then [34] else []), H) := by
    cases hq : qOf M with
    | true => exact e_ift (e_tru (e_var rfl) rfl) e_lit
    | false => exact e_iff (e_tru (e_var rfl) rfl) e_lit
  have e7 : xAssign 6 pcNew [some (.lst words), some (.lst manners), some (.own p), some (.int (n : Int)), some (.bool (qOf M)), some (.int ((M / 4 % 4 : Nat) : Int)), a7, a8, a9, a10] H = some (.next, [some (.lst words), some (.lst manners), some (.own p), some (.int (n : Int)), some (.bool (qOf M)), some (.int ((M / 4 % 4 : Nat) : Int)), some (.own H.length), a8, a9, a10], H ++ [.list ((signsT M w 0).map dS)]) :=
    e_asg (e_new (e_cons (e_op (e_lst (e_cons e_lit (e_cons e_lit (e_cons e_lit (e_cons e_lit e_nil)))) rfl) (e_op (e_op (e_var rfl) (e_var rfl) i3) e_lit (mod_nat M 4 H (by decide))) sl) (e_cons eq e_nil)) rfl)
  have hpl := get_lt hp
  obtain ⟨vs', H', e8, b8, b9, b10, rfl, rfl⟩ := xLoop_inv (i := 7) (body := pcInner) (fun j vs H' => ∃ b8 b9 b10, vs = [some (.lst words), some (.lst manners), some (.own p), some (.int (n : Int)), some (.bool (qOf M)), some (.int ((M / 4 % 4 : Nat) : Int)), some (.own H.length), b8, b9, b10] ∧ H' = H ++ [.list ((signsT M w j).map dS)])
    ((List.range 12).map fun (i : Nat) => D.int (i : Int)) 0 [some (.lst words), some (.lst manners), some (.own p), some (.int (n : Int)), some (.bool (qOf M)), some (.int ((M / 4 % 4 : Nat) : Int)), some (.own H.length), a8, a9, a10] (H ++ [.list ((signsT M w 0).map dS)]) ⟨_, _, _, rfl, rfl⟩ (by
      rintro j d vs H1 hd ⟨b8, b9, b10, rfl, rfl⟩
      obtain ⟨hj, rfl⟩ := range_some hd
      rw [Nat.zero_add]
      have hc : w[j]? = some (w.getD j 0) := by rw [List.getD_eq_getElem?_getD, List.getElem?_eq_getElem (by omega)]; rfl
      have hlen := signsT_len M w j
      have key := pc_inner (words := words) (manners := manners) (p := p) (s := H.length) (way := M / 4 % 4) (q := qOf M) (a9 := b9) (a10 := b10) (xs := signsT M w j) hw hc hM hn hj (hws _ (List.mem_of_getElem? hc)) get_new (by omega)
      refine ⟨_, _, key, _, _, _, rfl, ?_⟩
      rw [set_new]
      unfold signsT
      rw [List.range_succ, List.flatMap_append]
      simp [List.append_assoc])
  simp only [List.length_map, List.length_range, Nat.zero_add] at e8
  have e9 := pc_tail (words := words) (manners := manners) (p := p) (n := n) (M := M) (a8 := b8) (a9 := b9) (a10 := b10) hn (get_new (H := H) (a := .list ((signsT M w 12).map dS))) (by have := signsT_len M w 12; omega)
  rw [set_new] at e9
  have hfl : (signsT M w 12 ++ [tailOf M n]).flatten = pieceT M w n := by
    rw [List.flatten_append, signsT_flat]; simp [pieceT]
  have e10 := join_S (o := .own H.length) (l := signsT M w 12 ++ [tailOf M n]) (its_own' (get_new (H := H))) (by rw [hfl]; have := pieceT_len M w n; omega)
  rw [hfl] at e10
  have hp2 : (H ++ [CO.list ((signsT M w 12 ++ [tailOf M n]).map dS)])[p]? = some (.list (ps.map dS)) := (List.getElem?_append_left hpl).trans hp
  refine ⟨some (.bool (qOf M)), some (.int ((M / 4 % 4 : Nat) : Int)), some (.own H.length), b8, b9, b10, (H ++ [CO.list ((signsT M w 12 ++ [tailOf M n]).map dS)]).set p (.list (ps.map dS ++ [dS (pieceT M w n)])), ?_, (set_get hp2).trans (by rw [List.map_append]; rfl)⟩
  refine e_seq e5 (e_seq e6 (e_seq e7 (e_seq (vs1 := [some (.lst words), some (.lst manners), some (.own p), some (.int (n : Int)), some (.bool (qOf M)), some (.int ((M / 4 % 4 : Nat) : Int)), some (.own H.length), b8, b9, b10]) ?_ (e_seq e9 (e_fin (e_do (e_meth (e_var rfl) (isOwnL_own hp2) (e_cons (e_meth e_lit rfl (e_cons (e_var rfl) e_nil) e10) e_nil) (append_own hp2 (by rw [List.length_map]; omega)))))))))
  exact e_for (xRange1_nat (n := 12) (by decide)) e8
end
/-- the pieces of the text -/
noncomputable def piecesT (ms : List Nat) (ws : List (List Nat)) (j : Nat) : List (List Nat) := (List.range j).map fun n => pieceT (ms.getD n 0) (ws.getD n []) n
noncomputable def lastT (M : Nat) : List (List Nat) := if M / 4 % 4 < 2 then [[], []] else ([[[], []], [[32, 13, 10], []], [[34, 34], []], [[9, 34, 34], [10, 32]]] : List (List (List Nat))).getD (M / 32 % 4) []
theorem pieces_eval {ms : List Nat} {ws : List (List Nat)} (hm : ms.length = 4) (hw : ws.length = 4) (hok : ∀ w ∈ ws, w.length = 12 ∧ OkS w) (H : Hp) :
    ∃ H', G_law_pieces [.lst (ws.map dS), .lst (ms.map fun (M : Nat) => .int (M : Int))] H = some (.lst ((piecesT ms ws 4 ++ lastT (ms.getD 3 0)).map dS), H') := by
  have r4 : ∀ vs H, xRange1 (xLit (.int 4)) vs H = some ((List.range 4).map fun (i : Nat) => D.int (i : Int), H) := fun vs H => xRange1_nat (n := 4) (by omega)
  have hb0 : b_law_pieces = (xSeq (xAssign 2 (xNew [])) (xSeq (xFor 3 (xRange1 (xLit (.int 4))) pcBody xSkip) (xSeq (xBr (xTest (fInt iLt) (xOp2 (fInt iMod) (xOp2 (fInt iDiv) (xOp2 fItem (xVar 1) (xLit (.int 3))) (xLit (.int 4))) (xLit (.int 4))) (xLit (.int 2))) (xSeq (xRet (xOp2 fAdd (xVar 2) (xLst [(xLit (.str "")), (xLit (.str ""))]))) xSkip) xSkip) (xSeq (xRet (xOp2 fAdd (xVar 2) (xOp2 fItem (xLst [(xLst [(xLit (.str "")), (xLit (.str ""))]), (xLst [(xLit (.str " \r\n")), (xLit (.str ""))]), (xLst [(xLit (.str "\"\"")), (xLit (.str ""))]), (xLst [(xLit (.str "\t\"\"")), (xLit (.str "\n "))])]) (xOp2 (fInt iMod) (xOp2 (fInt iDiv) (xOp2 fItem (xVar 1) (xLit (.int 3))) (xLit (.int 32))) (xLit (.int 4)))))) xSkip)))) := rfl
  have mget : ∀ j < 4, (ms.map fun (M : Nat) => D.int (M : Int))[j]? = some (.int (ms.getD j 0 : Nat)) := fun j hj => by
    rw [List.getElem?_map, List.getD_eq_getElem?_getD, List.getElem?_eq_getElem (by omega)]; rfl
  have wget : ∀ j < 4, (ws.map dS)[j]? = some (dS (ws.getD j [])) ∧ ws.getD j [] ∈ ws := fun j hj => by
    rw [List.getElem?_map, List.getD_eq_getElem?_getD, List.getElem?_eq_getElem (by omega)]
    exact ⟨rfl, List.getElem_mem _⟩
  obtain ⟨vs', H', e, b5, b6, b7, b8, b9, b10, a4, rfl, hp⟩ := xLoop_inv (i := 3) (body := pcBody) (fun j vs H' => ∃ b5 b6 b7 b8 b9 b10 a4, vs = [some (.lst (ws.map dS)), some (.lst (ms.map fun (M : Nat) => .int (M : Int))), some (.own H.length), a4, b5, b6, b7, b8, b9, b10] ∧ H'[H.length]? = some (.list ((piecesT ms ws j).map dS)))
    ((List.range 4).map fun (i : Nat) => D.int (i : Int)) 0 [some (.lst (ws.map dS)), some (.lst (ms.map fun (M : Nat) => .int (M : Int))), some (.own H.length), none, none, none, none, none, none, none] (H ++ [.list []]) ⟨_, _, _, _, _, _, _, rfl, get_new⟩ (by
      rintro j d vs H1 hd ⟨a5, a6, a7, a8, a9, a10, a4, rfl, hp⟩
      obtain ⟨hj, rfl⟩ := range_some hd
      rw [Nat.zero_add] at hp ⊢
      obtain ⟨w1, w2⟩ := wget j hj
      obtain ⟨b5, b6, b7, b8, b9, b10, H2, e2, hp2⟩ := pc_body (a5 := a5) (a6 := a6) (a7 := a7) (a8 := a8) (a9 := a9) (a10 := a10) (p := H.length) (H := H1) w1 (hok _ w2).1 (hok _ w2).2 (mget j hj) (by omega) hp (by simp [piecesT]; omega)
      refine ⟨_, H2, e2, _, _, _, _, _, _, _, rfl, ?_⟩
      have : piecesT ms ws (j + 1) = piecesT ms ws j ++ [pieceT (ms.getD j 0) (ws.getD j []) j] := by
        unfold piecesT; rw [List.range_succ, List.map_append]; rfl
      rw [this]; exact hp2)
  simp only [List.length_map, List.length_range, Nat.zero_add] at e hp
  have i3 : ∀ {H}, fItem (.lst (ms.map fun (M : Nat) => .int (M : Int))) (.int 3) H = some (.int (ms.getD 3 0 : Nat)) := fItem_lst (mget 3 (by decide)) (by decide)
  have cnd := e_test (vs := [some (.lst (ws.map dS)), some (.lst (ms.map fun (M : Nat) => .int (M : Int))), some (.own H.length), a4, b5, b6, b7, b8, b9, b10]) (H := H') (e_op (e_op (e_op (e_var (i := 1) rfl) (e_lit (d := .int 3)) i3) (e_lit (d := .int 4)) (div_nat _ 4 H' (by decide) (by decide))) (e_lit (d := .int 4)) (mod_nat _ 4 H' (by decide))) (e_lit (d := .int 2)) (lt_nat _ 2 H')
  have f2 : ∀ l : List (List Nat), l.length < 100 → fAdd (.own H.length) (.lst (l.map dS)) H' = some (.lst ((piecesT ms ws 4 ++ l).map dS)) := fun l hl =>
    (fAdd_its (its_own' hp) its_lst (by simp [piecesT]; omega)).trans (by rw [List.map_append])
  refine ⟨H', e_fun (vs1 := [some (.lst (ws.map dS)), some (.lst (ms.map fun (M : Nat) => .int (M : Int))), some (.own H.length), a4, b5, b6, b7, b8, b9, b10]) rfl ?_⟩
  rw [hb0]
  refine e_seq (e_asg (e_new e_nil rfl)) (e_seq (e_for (xRange1_nat (n := 4) (by decide)) e) ?_)
  unfold lastT
  generalize ms.getD 3 0 = M at *
  by_cases h : M / 4 % 4 < 2
  · rw [decide_eq_true h] at cnd
    rw [if_pos h]
    exact e_seqR (e_brt cnd (e_retS (e_op (e_var rfl) (e_lst (e_cons e_lit (e_cons e_lit e_nil)) rfl) (f2 [[], []] (by decide)))))
  · rw [decide_eq_false h] at cnd
    rw [if_neg h]
    refine e_seq (e_brf cnd e_skip) (e_retS (e_op (e_var rfl) (e_op (e_lst (e_cons (e_lst (e_cons e_lit (e_cons e_lit e_nil)) rfl) (e_cons (e_lst (e_cons e_lit (e_cons e_lit e_nil)) rfl) (e_cons (e_lst (e_cons e_lit (e_cons e_lit e_nil)) rfl) (e_cons (e_lst (e_cons e_lit (e_cons e_lit e_nil)) rfl) e_nil)))) rfl) (e_op (e_op (e_op (e_var rfl) e_lit i3) e_lit (div_nat _ 32 H' (by decide) (by decide))) e_lit (mod_nat _ 4 H' (by decide))) (d := .lst ((([[[], []], [[32, 13, 10], []], [[34, 34], []], [[9, 34, 34], [10, 32]]] : List (List (List Nat))).getD (M / 32 % 4) []).map dS)) (fItem_lst ?_ (Nat.lt_trans (Nat.mod_lt _ (by decide)) (by decide)))) (f2 _ ?_)))
    · rcases or4 (Nat.mod_lt (M / 32) (by decide : 4 > 0)) with e | e | e | e <;> rw [e] <;> rfl
    · rcases or4 (Nat.mod_lt (M / 32) (by decide : 4 > 0)) with e | e | e | e <;> rw [e] <;> decide
end Mine
open PySem PySem.W PyProof.Rows
set_option maxRecDepth 100000
namespace Mine
/-! _law_greatest: comprehensions with two clauses -/
section
variable {i k : Nat} {p : XE} {H : Hp}
end
end Mine
open PySem PySem.W PyProof.Rows
set_option maxRecDepth 100000
namespace Mine
/-! _law_greatest -/
section
variable {α : Type} {f : α → D} {i k : Nat} {p : XE} {H : Hp}
theorem items_mapA {g : α → D} : ∀ (l : List α) (us : Vs), (∀ a ∈ l, p (us.set i (some (f a))) H = some (g a, H)) → xItems i none (xGens p []) (l.map f) us H = some (l.map g, H)
  | [], us, _ => rfl
  | d :: ds, us, h => by
    have e1 := h d (.head _)
    have e2 := items_mapA ds us fun e he => h e (.tail _ he)
    have eg : xGens p [] (us.set i (some (f d))) H = some ([g d], H) := by show (p (us.set i (some (f d))) H).map _ = _; rw [e1]; rfl
    rw [List.map_cons]
    unfold xItems
    simp only [runT, Option.bind_some, eg, Option.map_some, e2]
    rfl
theorem gens1A {it2 : XI} {us : Vs} {es : List α} {g : α → D} (hit : it2 us H = some (es.map f, H)) (hp : ∀ e ∈ es, p ((us.set k none).set k (some (f e))) H = some (g e, H)) : xGens p [⟨k, it2, none⟩] us H = some (es.map g, H) := by
  show (it2 us H).bind (fun a => xItems k none (xGens p []) a.1 (us.set k none) a.2) = _
  rw [hit, Option.bind_some]
  exact items_mapA es (us.set k none) hp
theorem items2_mapA {it2 : XI} {g : α → List D} : ∀ (ds : List α) (us : Vs), (∀ d ∈ ds, xGens p [⟨k, it2, none⟩] (us.set i (some (f d))) H = some (g d, H)) → xItems i none (xGens p [⟨k, it2, none⟩]) (ds.map f) us H = some (ds.flatMap g, H)
  | [], us, _ => rfl
  | d :: ds, us, h => by
    have e1 := h d (.head _)
    have e2 := items2_mapA ds us fun e he => h e (.tail _ he)
    rw [List.map_cons]
    unfold xItems
    simp only [runT, Option.bind_some, e1, Option.map_some, e2]
    rfl
theorem comp2_mapA {vis : List Nat} {it it2 : XI} {vs : Vs} {g : α → List D} {ds : List α} (hit : it vs H = some (ds.map f, H)) (hl : (ds.flatMap g).length ≤ 1000000) (hp : ∀ d ∈ ds, xGens p [⟨k, it2, none⟩] ((mask vis 0 vs).set i (some (f d))) H = some (g d, H)) :
    xComp vis i it none [⟨k, it2, none⟩] p vs H = some (.lst (ds.flatMap g), H) := by
  have e := items2_mapA ds (mask vis 0 vs) hp
  unfold xComp
  rw [hit, Option.bind_some, e, Option.bind_some, if_pos (okLen_of (by show (ds.flatMap g).length ≤ _; omega))]
end
theorem range2_of (a b : Nat) (ha : a < 1000000) (hb : b < 1000000) : rangeOf (a : Int) (b : Int) = some ((List.range (b - a)).map fun (i : Nat) => D.int ((a + i : Nat) : Int)) := by
  unfold rangeOf intsD
  rw [if_pos ⟨by omega, by omega⟩]
  have : ((b : Int) - (a : Int)).toNat = b - a := by omega
  rw [this]
  congr 1
noncomputable def waysL (i : Nat) : Nat → List (List Nat × Nat)
  | 0 => [([], 0)]
  | j + 1 => (waysL i j).flatMap fun p => (List.range (i + 1 - p.2)).map fun a => (p.1 ++ [p.2], p.2 + a)
noncomputable def wayD (p : List Nat × Nat) : D := .lst (natL (p.1 ++ [p.2]))
noncomputable def endsL (i : Nat) (p : List Nat × Nat) : List Nat := (p.1 ++ [p.2]).drop 1 ++ [i]
noncomputable def sumsW (c : Nat → Nat → Nat) (i j : Nat) (p : List Nat × Nat) : List Nat :=
  (List.range (j + 1)).flatMap fun m => (List.range ((endsL i p).getD m 0 + 1 - (p.1 ++ [p.2]).getD m 0)).map fun a => c ((p.1 ++ [p.2]).getD m 0 + a) m
noncomputable def cD (c : Nat → Nat → Nat) : D := .lst ((List.range 4).map fun k => .lst ((List.range 3).map fun m => .int (c k m : Nat)))
theorem ways_ok : ∀ i < 4, ∀ j < 3, (waysL i j).length ≤ 100 ∧ ∀ p ∈ waysL i j, p.1.length = j ∧ p.2 ≤ i ∧ ∀ x ∈ p.1, x ≤ i := by decide
noncomputable abbrev grWay : XE := (xComp [1] 6 (xIt (xVar 3)) none [⟨8, (xRange2 (xOp2 fItem (xVar 6) (xLit (.int (-1)))) (xOp2 fAdd (xVar 1) (xLit (.int 1)))), none⟩] (xOp2 fAdd (xVar 6) (xLst [(xVar 8)])))
theorem way_step {i m : Nat} {us : Vs} {H : Hp} (hi : i < 4) (hm : m < 2) (hl : us.length = 10) (h1 : us[1]? = some (some (.int (i : Int)))) (h3 : us[3]? = some (some (.lst ((waysL i m).map wayD)))) : grWay us H = some (.lst ((waysL i (m + 1)).map wayD), H) := by
  obtain ⟨w1, w2⟩ := ways_ok i hi m (by omega)
  obtain ⟨w3, _⟩ := ways_ok i hi (m + 1) (by omega)
  have e : (waysL i (m + 1)).map wayD = (waysL i m).flatMap fun p => ((List.range (i + 1 - p.2)).map fun a => wayD (p.1 ++ [p.2], p.2 + a)) := by
    show ((waysL i m).flatMap _).map wayD = _
    rw [List.map_flatMap]
    congr 1
    funext p
    rw [List.map_map]; rfl
  rw [e]
  refine comp2_mapA (f := wayD) (xIt_of h3) (by rw [← e]; simp; omega) fun p hp => ?_
  obtain ⟨q1, q2, q3⟩ := w2 p hp
  have k1 := mk_get (vis := [1]) (i := 6) (x := some (wayD p)) rfl (by decide) h1
  have k6 := mk_self (vis := [1]) (us := us) (i := 6) (x := some (wayD p)) (by omega)
  have hl2 : ((mask [1] 0 us).set 6 (some (wayD p))).length = 10 := by rw [List.length_set, mask_len, hl]
  generalize (mask [1] 0 us).set 6 (some (wayD p)) = ws at *
  have i1 : fItem (wayD p) (.int (-1)) H = some (.int (p.2 : Int)) := by
    unfold wayD natL
    rw [List.map_append]
    exact fItem_lastL (by simp; omega)
  have a1 : fAdd (.int (i : Int)) (.int 1) H = some (.int ((i + 1 : Nat) : Int)) := add_nat i 1 H
  have r1 := range2_of p.2 (i + 1) (by omega) (by omega)
  refine gens1A (f := fun a => .int ((p.2 + a : Nat) : Int)) (g := fun a => wayD (p.1 ++ [p.2], p.2 + a)) ?_ fun a ha => ?_
  · simp only [xRange2, xOp2, var_of k6, var_of k1, xLit, Option.bind_some, Option.map_some, i1, a1, r1]
  · have k8 : ((ws.set 8 none).set 8 (some (.int ((p.2 + a : Nat) : Int))))[8]? = some (some (.int ((p.2 + a : Nat) : Int))) := List.getElem?_set_self (by simp; omega)
    have k6' : ((ws.set 8 none).set 8 (some (.int ((p.2 + a : Nat) : Int))))[6]? = some (some (wayD p)) := by rw [List.set_set, List.getElem?_set_ne (by decide)]; exact k6
    have ok1 : ∀ a : D, okLen [a] = true := fun _ => by simp [okLen]
    have f1 : fAdd (wayD p) (.lst [.int ((p.2 + a : Nat) : Int)]) H = some (wayD (p.1 ++ [p.2], p.2 + a)) := by
      unfold wayD natL
      rw [fAdd_its its_lst its_lst (by simp; omega)]
      simp
    simp only [xOp2, xLst, xAll, var_of k6', var_of k8, Option.bind_some, Option.map_some, ok1, if_true, f1]
noncomputable abbrev grSum : XE := (xCall gSum [(xComp [0, 6, 7] 4 (xRange1 (xOp2 fAdd (xVar 2) (xLit (.int 1)))) none [⟨9, (xRange2 (xOp2 fItem (xVar 6) (xVar 4)) (xOp2 fAdd (xOp2 fItem (xVar 7) (xVar 4)) (xLit (.int 1)))), none⟩] (xOp2 fItem (xOp2 fItem (xVar 0) (xVar 9)) (xVar 4)))])
theorem natL_at {l : List Nat} {m : Nat} {H : Hp} (h : m < l.length) (hl : l.length < 1000) : fItem (.lst (natL l)) (.int (m : Int)) H = some (.int (l.getD m 0 : Nat)) := by
  refine fItem_lst ?_ (by omega)
  unfold natL
  rw [List.getElem?_map, List.getD_eq_getElem?_getD, List.getElem?_eq_getElem h]; rfl
theorem sum_step {c : Nat → Nat → Nat} {i j : Nat} {p : List Nat × Nat} {us : Vs} {H : Hp} (hi : i < 4) (hj : j < 3) (hp1 : p.1.length = j) (hp2 : p.2 ≤ i) (hp3 : ∀ x ∈ p.1, x ≤ i) (hl : us.length = 10) (h0 : us[0]? = some (some (cD c))) (h2 : us[2]? = some (some (.int (j : Int)))) (h6 : us[6]? = some (some (wayD p))) (h7 : us[7]? = some (some (.lst (natL (endsL i p))))) :
    grSum us H = some (.int ((sumsW c i j p).sum : Nat), H) := by
  have hle : ∀ x ∈ p.1 ++ [p.2], x ≤ i := by
    intro x hx
    rcases List.mem_append.mp hx with h | h
    · exact hp3 x h
    · rw [List.mem_singleton.mp h]; exact hp2
  have hlen : (p.1 ++ [p.2]).length = j + 1 := by simp [hp1]
  have hle2 : ∀ x ∈ endsL i p, x ≤ i := by
    intro x hx
    unfold endsL at hx
    rcases List.mem_append.mp hx with h | h
    · exact hle x (List.mem_of_mem_drop h)
    · rw [List.mem_singleton.mp h]; exact Nat.le_refl _
  have hlen2 : (endsL i p).length = j + 1 := by unfold endsL; rw [List.length_append, List.length_drop, hlen]; simp
  have gle : ∀ (l : List Nat) (m : Nat), (∀ x ∈ l, x ≤ i) → l.getD m 0 ≤ i := by
    intro l m h
    rw [List.getD_eq_getElem?_getD]
    cases q : l[m]? with
    | none => simp
    | some x => exact h x (List.mem_of_getElem? q)
  have a1 : fAdd (.int (j : Int)) (.int 1) H = some (.int ((j + 1 : Nat) : Int)) := add_nat j 1 H
  have hit : xRange1 (xOp2 fAdd (xVar 2) (xLit (.int 1))) us H = some ((List.range (j + 1)).map fun (i : Nat) => D.int (i : Int), H) := xRange1_some (b := ((j + 1 : Nat) : Int)) (by simp only [xOp2, var_of h2, xLit, Option.bind_some, Option.map_some, a1]) (range_of (j + 1) (by omega))
  have hbound : ((List.range (j + 1)).flatMap fun m => (List.range ((endsL i p).getD m 0 + 1 - (p.1 ++ [p.2]).getD m 0)).map fun a => D.int (c ((p.1 ++ [p.2]).getD m 0 + a) m : Nat)).length ≤ 1000000 := by
    have key : ∀ n, ((List.range n).flatMap fun m => (List.range ((endsL i p).getD m 0 + 1 - (p.1 ++ [p.2]).getD m 0)).map fun a => D.int (c ((p.1 ++ [p.2]).getD m 0 + a) m : Nat)).length ≤ n * 5 := by
      intro n
      induction n with
      | zero => simp
      | succ n ih =>
        rw [List.range_succ, List.flatMap_append, List.length_append]
        have := gle (endsL i p) n hle2
        simp only [List.flatMap_cons, List.flatMap_nil, List.append_nil, List.length_map, List.length_range]
        omega
    have := key (j + 1)
    omega
  have e := comp2_mapA (vis := [0, 6, 7]) (i := 4) (k := 9) (f := fun (i : Nat) => D.int (i : Int)) (p := (xOp2 fItem (xOp2 fItem (xVar 0) (xVar 9)) (xVar 4))) (it2 := (xRange2 (xOp2 fItem (xVar 6) (xVar 4)) (xOp2 fAdd (xOp2 fItem (xVar 7) (xVar 4)) (xLit (.int 1))))) hit hbound fun m hm => by
    have hm := List.mem_range.mp hm
    have k0 := mk_get (vis := [0, 6, 7]) (i := 4) (x := some (.int (m : Int))) rfl (by decide) h0
    have k6 := mk_get (vis := [0, 6, 7]) (i := 4) (x := some (.int (m : Int))) rfl (by decide) h6
    have k7 := mk_get (vis := [0, 6, 7]) (i := 4) (x := some (.int (m : Int))) rfl (by decide) h7
    have k4 := mk_self (vis := [0, 6, 7]) (us := us) (i := 4) (x := some (.int (m : Int))) (by omega)
    have hl2 : ((mask [0, 6, 7] 0 us).set 4 (some (.int (m : Int)))).length = 10 := by rw [List.length_set, mask_len, hl]
    generalize (mask [0, 6, 7] 0 us).set 4 (some (.int (m : Int))) = ws at *
    have i1 : fItem (wayD p) (.int (m : Int)) H = some (.int ((p.1 ++ [p.2]).getD m 0 : Nat)) := natL_at (by omega) (by omega)
    have i2 : fItem (.lst (natL (endsL i p))) (.int (m : Int)) H = some (.int ((endsL i p).getD m 0 : Nat)) := natL_at (by omega) (by omega)
    have g1 := gle _ m hle
    have g2 := gle _ m hle2
    generalize (p.1 ++ [p.2]).getD m 0 = a at *
    generalize (endsL i p).getD m 0 = b at *
    have a2 : fAdd (.int (b : Int)) (.int 1) H = some (.int ((b + 1 : Nat) : Int)) := add_nat b 1 H
    have r1 := range2_of a (b + 1) (by omega) (by omega)
    refine gens1A (f := fun t => .int ((a + t : Nat) : Int)) (g := fun t => .int (c (a + t) m : Nat)) ?_ fun t ht => ?_
    · simp only [xRange2, xOp2, var_of k6, var_of k7, var_of k4, xLit, Option.bind_some, Option.map_some, i1, i2, a2, r1]
    · have ht := List.mem_range.mp ht
      have k9 : ((ws.set 9 none).set 9 (some (.int ((a + t : Nat) : Int))))[9]? = some (some (.int ((a + t : Nat) : Int))) := List.getElem?_set_self (by simp; omega)
      have k0' : ((ws.set 9 none).set 9 (some (.int ((a + t : Nat) : Int))))[0]? = some (some (cD c)) := by rw [List.set_set, List.getElem?_set_ne (by decide)]; exact k0
      have k4' : ((ws.set 9 none).set 9 (some (.int ((a + t : Nat) : Int))))[4]? = some (some (.int (m : Int))) := by rw [List.set_set, List.getElem?_set_ne (by decide)]; exact k4
      have j1 : fItem (cD c) (.int ((a + t : Nat) : Int)) H = some (.lst ((List.range 3).map fun m => .int (c (a + t) m : Nat))) := idx (f := fun k => .lst ((List.range 3).map fun m => .int (c k m : Nat))) (by omega) (by omega)
      have j2 : fItem (.lst ((List.range 3).map fun m => .int (c (a + t) m : Nat))) (.int (m : Int)) H = some (.int (c (a + t) m : Nat)) := idx (f := fun m => .int (c (a + t) m : Nat)) (by omega) (by omega)
      simp only [xOp2, var_of k0', var_of k9, var_of k4', Option.bind_some, Option.map_some, j1, j2]
  have es : ((List.range (j + 1)).flatMap fun m => (List.range ((endsL i p).getD m 0 + 1 - (p.1 ++ [p.2]).getD m 0)).map fun a => D.int (c ((p.1 ++ [p.2]).getD m 0 + a) m : Nat)) = (sumsW c i j p).map fun (n : Nat) => .int (n : Int) := by
    unfold sumsW
    rw [List.map_flatMap]
    congr 1
    funext m
    rw [List.map_map]; rfl
  rw [es] at e
  have g1 := sum_nats (sumsW c i j p) H
  unfold grSum
  simp only [xCall, xAll, e, Option.bind_some, Option.map_some, g1]
theorem greatest_eq : b_law_greatest = (xSeq (xAssign 3 (xLst [(xLst [(xLit (.int 0))])])) (xSeq (xFor 4 (xRange1 (xVar 2)) (xSeq (xAssign 3 grWay) xSkip) xSkip) (xSeq (xAssign 5 (xNew [])) (xSeq (xFor 6 (xIt (xVar 3)) (xSeq (xAssign 7 (xOp2 fAdd (xSlice (xVar 6) (some (xLit (.int 1))) none none) (xLst [(xVar 1)]))) (xSeq (xDo (xMeth isOwnL gAppend (xVar 5) [grSum])) xSkip)) xSkip) (xSeq (xRet (xCall gMax [(xVar 5)])) xSkip))))) := rfl
theorem greatest_eval {c : Nat → Nat → Nat} {i j M : Nat} (hi : i < 4) (hj : j < 3) (h1 : ∃ p ∈ waysL i j, (sumsW c i j p).sum = M) (h2 : ∀ p ∈ waysL i j, (sumsW c i j p).sum ≤ M) (H : Hp) : ∃ J, G_law_greatest [cD c, .int (i : Int), .int (j : Int)] H = some (.int (M : Int), H ++ J) := by
  have okA : ∀ a : D, okLen [a] = true := fun _ => by simp [okLen]
  have okN : okLen [] = true := rfl
  obtain ⟨w1, w2⟩ := ways_ok i hi j hj
  have s1 : xAssign 3 (xLst [(xLst [(xLit (.int 0))])]) [some (cD c), some (.int (i : Int)), some (.int (j : Int)), none, none, none, none, none, none, none] H = some (.next, [some (cD c), some (.int (i : Int)), some (.int (j : Int)), some (.lst ((waysL i 0).map wayD)), none, none, none, none, none, none], H) := rfl
  have r1 : xRange1 (xVar 2) [some (cD c), some (.int (i : Int)), some (.int (j : Int)), some (.lst ((waysL i 0).map wayD)), none, none, none, none, none, none] H = some ((List.range j).map fun (i : Nat) => D.int (i : Int), H) := xRange1_some (b := (j : Int)) rfl (range_of j (by omega))
  obtain ⟨vs2, H2, e2, a4, rfl, hH2⟩ := xLoop_inv (i := 4) (body := (xSeq (xAssign 3 grWay) xSkip)) (fun m vs H' => ∃ a4, vs = [some (cD c), some (.int (i : Int)), some (.int (j : Int)), some (.lst ((waysL i m).map wayD)), a4, none, none, none, none, none] ∧ H' = H) ((List.range j).map fun (i : Nat) => D.int (i : Int)) 0 [some (cD c), some (.int (i : Int)), some (.int (j : Int)), some (.lst ((waysL i 0).map wayD)), none, none, none, none, none, none] H ⟨_, rfl, rfl⟩ (by
    rintro m d vs H1 hd ⟨a4, rfl, rfl⟩
    obtain ⟨hm, rfl⟩ := range_some hd
    rw [Nat.zero_add]
    have e := way_step (i := i) (m := m) (us := [some (cD c), some (.int (i : Int)), some (.int (j : Int)), some (.lst ((waysL i m).map wayD)), some (.int (m : Int)), none, none, none, none, none]) (H := H1) hi (by omega) rfl rfl rfl
    refine ⟨_, H1, ?_, some (.int (m : Int)), rfl, rfl⟩
    rw [xSeq_skip]
    exact assign_of e)
  rw [List.length_map, List.length_range, Nat.zero_add, hH2] at e2
  have s2 : (xFor 4 (xRange1 (xVar 2)) (xSeq (xAssign 3 grWay) xSkip) xSkip) [some (cD c), some (.int (i : Int)), some (.int (j : Int)), some (.lst ((waysL i 0).map wayD)), none, none, none, none, none, none] H = some (.next, [some (cD c), some (.int (i : Int)), some (.int (j : Int)), some (.lst ((waysL i j).map wayD)), a4, none, none, none, none, none], H) := by
    unfold xFor
    rw [r1, Option.bind_some]; exact e2
  have s3 : xAssign 5 (xNew []) [some (cD c), some (.int (i : Int)), some (.int (j : Int)), some (.lst ((waysL i j).map wayD)), a4, none, none, none, none, none] H = some (.next, [some (cD c), some (.int (i : Int)), some (.int (j : Int)), some (.lst ((waysL i j).map wayD)), a4, some (.own H.length), none, none, none, none], H ++ [.list []]) := rfl
  obtain ⟨vs4, H4, e4, a6, a7, rfl, rfl⟩ := xLoop_inv (i := 6) (body := (xSeq (xAssign 7 (xOp2 fAdd (xSlice (xVar 6) (some (xLit (.int 1))) none none) (xLst [(xVar 1)]))) (xSeq (xDo (xMeth isOwnL gAppend (xVar 5) [grSum])) xSkip))) (fun m vs H' => ∃ a6 a7, vs = [some (cD c), some (.int (i : Int)), some (.int (j : Int)), some (.lst ((waysL i j).map wayD)), a4, some (.own H.length), a6, a7, none, none] ∧ H' = H ++ [.list (((waysL i j).take m).map fun p => .int ((sumsW c i j p).sum : Nat))]) ((waysL i j).map wayD) 0 [some (cD c), some (.int (i : Int)), some (.int (j : Int)), some (.lst ((waysL i j).map wayD)), a4, some (.own H.length), none, none, none, none] (H ++ [.list []]) ⟨_, _, rfl, rfl⟩ (by
    rintro m d vs H1 hd ⟨a6, a7, rfl, rfl⟩
    rw [Nat.zero_add]
    rw [List.getElem?_map] at hd
    obtain ⟨p, hp, rfl⟩ := Option.map_eq_some_iff.mp hd
    have hmem := List.mem_of_getElem? hp
    obtain ⟨q1, q2, q3⟩ := w2 p hmem
    have sl : ∀ H, fSlice (wayD p) (some 1) none none H = some (.lst (natL ((p.1 ++ [p.2]).drop 1))) := fun H => by
      unfold wayD
      rw [fSlice_its its_lst (by simp [natL]; omega) (by simp)]
      have := pick_from (natL (p.1 ++ [p.2])) 1
      rw [show ((1 : Nat) : Int) = 1 from rfl] at this
      rw [this]; unfold natL; rw [List.map_drop]
    have ad : ∀ H, fAdd (.lst (natL ((p.1 ++ [p.2]).drop 1))) (.lst [.int (i : Int)]) H = some (.lst (natL (endsL i p))) := fun H => by
      rw [fAdd_its its_lst its_lst (by simp [natL]; omega)]
      unfold natL endsL; rw [List.map_append]; rfl
    have t1 : xAssign 7 (xOp2 fAdd (xSlice (xVar 6) (some (xLit (.int 1))) none none) (xLst [(xVar 1)])) [some (cD c), some (.int (i : Int)), some (.int (j : Int)), some (.lst ((waysL i j).map wayD)), a4, some (.own H.length), some (wayD p), a7, none, none] (H ++ [.list (((waysL i j).take m).map fun p => .int ((sumsW c i j p).sum : Nat))]) = some (.next, [some (cD c), some (.int (i : Int)), some (.int (j : Int)), some (.lst ((waysL i j).map wayD)), a4, some (.own H.length), some (wayD p), some (.lst (natL (endsL i p))), none, none], (H ++ [.list (((waysL i j).take m).map fun p => .int ((sumsW c i j p).sum : Nat))])) := by
      simp only [xSeq, xBr, xTest, xOp2, xVar, xLit, xDo, xMeth, xCall, xAll, xSkip, xBrk, xCont, xRet, xAssign, xAug, xIf, xTT, xFF, xTru, tBool, xAndV, xOrV, xLst, xTup, Option.bind_some, Option.map_some, List.getElem?_cons_zero, List.getElem?_cons_succ, List.set_cons_zero, List.set_cons_succ, List.set_nil, List.getElem?_nil, if_true, reduceIte, Bool.false_eq_true, if_false, List.set_set, xSlice, xPart, sl, okA, ad]
    have es := sum_step (c := c) (us := [some (cD c), some (.int (i : Int)), some (.int (j : Int)), some (.lst ((waysL i j).map wayD)), a4, some (.own H.length), some (wayD p), some (.lst (natL (endsL i p))), none, none]) (H := H ++ [.list (((waysL i j).take m).map fun p => .int ((sumsW c i j p).sum : Nat))]) hi hj q1 q2 q3 rfl rfl rfl rfl rfl
    have o1 := isOwnL_own (H := H ++ [.list (((waysL i j).take m).map fun p => .int ((sumsW c i j p).sum : Nat))]) get_new
    have ap := append_own (H := H ++ [.list (((waysL i j).take m).map fun p => .int ((sumsW c i j p).sum : Nat))]) (d := .int ((sumsW c i j p).sum : Nat)) get_new (by simp; omega)
    rw [set_new] at ap
    refine ⟨_, H ++ [.list ((((waysL i j).take m).map fun p => .int ((sumsW c i j p).sum : Nat)) ++ [.int ((sumsW c i j p).sum : Nat)])], ?_, some (wayD p), some (.lst (natL (endsL i p))), rfl, ?_⟩
    · show (xSeq _ _) [some (cD c), some (.int (i : Int)), some (.int (j : Int)), some (.lst ((waysL i j).map wayD)), a4, some (.own H.length), some (wayD p), a7, none, none] _ = _
      rw [step_next t1, xSeq_skip]
      generalize grSum = G at es
      simp only [xSeq, xBr, xTest, xOp2, xVar, xLit, xDo, xMeth, xCall, xAll, xSkip, xBrk, xCont, xRet, xAssign, xAug, xIf, xTT, xFF, xTru, tBool, xAndV, xOrV, xLst, xTup, Option.bind_some, Option.map_some, List.getElem?_cons_zero, List.getElem?_cons_succ, List.set_cons_zero, List.set_cons_succ, List.set_nil, List.getElem?_nil, if_true, reduceIte, Bool.false_eq_true, if_false, List.set_set, o1, es, ap]
    · have : (waysL i j).take (m + 1) = (waysL i j).take m ++ [p] := by
        rw [List.take_add_one, hp]; rfl
      rw [this, List.map_append]; rfl)
  rw [List.length_map, Nat.zero_add, List.take_length] at e4
  have s4 : (xFor 6 (xIt (xVar 3)) (xSeq (xAssign 7 (xOp2 fAdd (xSlice (xVar 6) (some (xLit (.int 1))) none none) (xLst [(xVar 1)]))) (xSeq (xDo (xMeth isOwnL gAppend (xVar 5) [grSum])) xSkip)) xSkip) [some (cD c), some (.int (i : Int)), some (.int (j : Int)), some (.lst ((waysL i j).map wayD)), a4, some (.own H.length), none, none, none, none] (H ++ [.list []]) = some (.next, [some (cD c), some (.int (i : Int)), some (.int (j : Int)), some (.lst ((waysL i j).map wayD)), a4, some (.own H.length), a6, a7, none, none], H ++ [.list ((waysL i j).map fun p => .int ((sumsW c i j p).sum : Nat))]) := by
    unfold xFor
    rw [xIt_of rfl, Option.bind_some]; exact e4
  have hm : maxOf ((waysL i j).map fun p => ((sumsW c i j p).sum : Int)) = some (M : Int) := by
    obtain ⟨p0, hp0, e0⟩ := h1
    cases q : maxOf ((waysL i j).map fun p => ((sumsW c i j p).sum : Int)) with
    | none =>
      cases hw : waysL i j with
      | nil => rw [hw] at hp0; cases hp0
      | cons a l => rw [hw] at q; cases q
    | some m =>
      rw [maxOf_unique q (M := (M : Int)) (List.mem_map.mpr ⟨p0, hp0, by rw [e0]⟩) fun a ha => by
        obtain ⟨p, hp, rfl⟩ := List.mem_map.mp ha
        have := h2 p hp
        omega]
  have g1 : gMax [.own H.length] (H ++ [.list ((waysL i j).map fun p => .int ((sumsW c i j p).sum : Nat))]) = some (.int (M : Int), H ++ [.list ((waysL i j).map fun p => .int ((sumsW c i j p).sum : Nat))]) := by
    show ((itsOf (.own H.length) _).bind fun xs => (xs.mapM asInt).bind fun ns => (maxOf ns).map fun m => (D.int m, _)) = _
    rw [its_own' get_new, Option.bind_some]
    have : ((waysL i j).map fun p => D.int ((sumsW c i j p).sum : Nat)) = ((waysL i j).map fun p => ((sumsW c i j p).sum : Int)).map D.int := by rw [List.map_map]; rfl
    rw [this, asInt_map, Option.bind_some, hm]; rfl
  refine ⟨[.list ((waysL i j).map fun p => .int ((sumsW c i j p).sum : Nat))], ?_⟩
  unfold G_law_greatest xFun
  rw [greatest_eq]
  show (if [cD c, D.int (i : Int), D.int (j : Int)].length = 3 then ((xSeq _ _) [some (cD c), some (.int (i : Int)), some (.int (j : Int)), none, none, none, none, none, none, none] H).bind _ else none) = _
  rw [if_pos (show [cD c, D.int (i : Int), D.int (j : Int)].length = 3 from rfl), step_next s1, step_next s2, step_next s3, step_next s4, xSeq_skip]
  simp only [xSeq, xBr, xTest, xOp2, xVar, xLit, xDo, xMeth, xCall, xAll, xSkip, xBrk, xCont, xRet, xAssign, xAug, xIf, xTT, xFF, xTru, tBool, xAndV, xOrV, xLst, xTup, Option.bind_some, Option.map_some, List.getElem?_cons_zero, List.getElem?_cons_succ, List.set_cons_zero, List.set_cons_succ, List.set_nil, List.getElem?_nil, if_true, reduceIte, Bool.false_eq_true, if_false, List.set_set, g1]
end Mine
open PySem PySem.W PyProof.Rows
set_option maxRecDepth 100000
namespace Mine
/-! the greatest sum over all ways, and when a file leaves a desk -/
noncomputable def grt (c : Nat → Nat → Nat) : Nat → Nat → Nat
  | 0, 0 => c 0 0
  | i + 1, 0 => grt c i 0 + c (i + 1) 0
  | 0, j + 1 => grt c 0 j + c 0 (j + 1)
  | i + 1, j + 1 => max (grt c i (j + 1)) (grt c (i + 1) j) + c (i + 1) (j + 1)
termination_by i j => i + j
section
variable {c : Nat → Nat → Nat}
noncomputable def col (c : Nat → Nat → Nat) (m x i : Nat) : Nat := ((List.range (i + 1 - x)).map fun a => c (x + a) m).sum
theorem col_succ {m x i : Nat} (h : x ≤ i + 1) : col c m x (i + 1) = col c m x i + c (i + 1) m := by
  unfold col
  rw [show i + 1 + 1 - x = (i + 1 - x) + 1 by omega, List.range_succ, List.map_append, List.sum_append, List.map_singleton, List.sum_singleton, show x + (i + 1 - x) = i + 1 by omega]
theorem col_self {m x : Nat} : col c m x x = c x m := by
  unfold col
  rw [show x + 1 - x = 1 by omega]
  simp [List.range_succ]
theorem ways_mem {i j : Nat} {q : List Nat} {x : Nat} : (q, x) ∈ waysL i (j + 1) ↔ ∃ q2 y, q = q2 ++ [y] ∧ (q2, y) ∈ waysL i j ∧ y ≤ x ∧ x ≤ i := by
  show (q, x) ∈ (waysL i j).flatMap _ ↔ _
  rw [List.mem_flatMap]
  constructor
  · rintro ⟨⟨q2, y⟩, hp, hm⟩
    obtain ⟨a, ha, e⟩ := List.mem_map.mp hm
    have ha := List.mem_range.mp ha
    cases e
    exact ⟨q2, y, rfl, hp, by simp, by simp at ha ⊢; omega⟩
  · rintro ⟨q2, y, rfl, hp, h1, h2⟩
    refine ⟨(q2, y), hp, List.mem_map.mpr ⟨x - y, List.mem_range.mpr (by simp; omega), ?_⟩⟩
    simp; omega
theorem ways_len {i : Nat} : ∀ {j : Nat} {q : List Nat} {x : Nat}, (q, x) ∈ waysL i j → q.length = j
  | 0, q, x, h => by
    cases List.mem_singleton.mp (show (q, x) ∈ [([], 0)] from h); rfl
  | j + 1, q, x, h => by
    obtain ⟨q2, y, rfl, hp, _⟩ := ways_mem.mp h
    rw [List.length_append, ways_len hp]; rfl
theorem ways_up {i x : Nat} (hx : x ≤ i) : ∀ {j : Nat} {q : List Nat} {y : Nat}, (q, y) ∈ waysL x j ↔ (q, y) ∈ waysL i j ∧ y ≤ x
  | 0, q, y => by
    show (q, y) ∈ [([], 0)] ↔ (q, y) ∈ [([], 0)] ∧ y ≤ x
    constructor
    · intro h
      refine ⟨h, ?_⟩
      cases List.mem_singleton.mp h
      exact Nat.zero_le _
    · exact fun h => h.1
  | j + 1, q, y => by
    rw [ways_mem, ways_mem]
    constructor
    · rintro ⟨q2, y2, rfl, h1, h2, h3⟩
      exact ⟨⟨q2, y2, rfl, ((ways_up hx).mp h1).1, h2, by omega⟩, h3⟩
    · rintro ⟨⟨q2, y2, rfl, h1, h2, h3⟩, h4⟩
      exact ⟨q2, y2, rfl, (ways_up hx).mpr ⟨h1, by omega⟩, h2, h4⟩
theorem sum_split {i j : Nat} {q : List Nat} {x y : Nat} (hq : q.length = j) : (sumsW c i (j + 1) (q ++ [y], x)).sum = (sumsW c x j (q, y)).sum + col c (j + 1) x i := by
  have e1 : endsL i (q ++ [y], x) = endsL x (q, y) ++ [i] := by
    unfold endsL
    rw [List.drop_append_of_le_length (by simp)]
  have l1 : (endsL x (q, y)).length = j + 1 := by unfold endsL; simp [hq]
  have l2 : (q ++ [y]).length = j + 1 := by simp [hq]
  have g : ∀ (l : List Nat) (z m : Nat), m < l.length → (l ++ [z]).getD m 0 = l.getD m 0 := fun l z m h => by
    rw [List.getD_eq_getElem?_getD, List.getD_eq_getElem?_getD, List.getElem?_append_left h]
  have g2 : ∀ (l : List Nat) (z m : Nat), m = l.length → (l ++ [z]).getD m 0 = z := fun l z m h => by
    rw [List.getD_eq_getElem?_getD, h]; simp
  unfold sumsW
  rw [show j + 1 + 1 = (j + 1) + 1 from rfl, List.range_succ (n := j + 1), List.flatMap_append, List.sum_append]
  congr 1
  · congr 1
    rw [List.flatMap_def, List.flatMap_def]
    congr 1
    refine List.map_congr_left fun m hm => ?_
    have hm := List.mem_range.mp hm
    rw [e1]
    show List.map (fun a => c ((q ++ [y] ++ [x]).getD m 0 + a) m) (List.range ((endsL x (q, y) ++ [i]).getD m 0 + 1 - (q ++ [y] ++ [x]).getD m 0)) = _
    rw [g (q ++ [y]) x m (by omega), g (endsL x (q, y)) i m (by omega)]
  · rw [List.flatMap_cons, List.flatMap_nil, List.append_nil, e1]
    show (List.map (fun a => c ((q ++ [y] ++ [x]).getD (j + 1) 0 + a) (j + 1)) (List.range ((endsL x (q, y) ++ [i]).getD (j + 1) 0 + 1 - (q ++ [y] ++ [x]).getD (j + 1) 0))).sum = _
    rw [g2 (q ++ [y]) x (j + 1) l2.symm, g2 (endsL x (q, y)) i (j + 1) l1.symm]
    rfl
theorem sum_zero {i : Nat} : (sumsW c i 0 ([], 0)).sum = col c 0 0 i := by
  unfold sumsW col endsL
  simp [List.range_succ]
noncomputable def IsG (c : Nat → Nat → Nat) (i j M : Nat) : Prop := (∃ p ∈ waysL i j, (sumsW c i j p).sum = M) ∧ ∀ p ∈ waysL i j, (sumsW c i j p).sum ≤ M
theorem sum_down {i j : Nat} {q : List Nat} {x : Nat} (h : (q, x) ∈ waysL i (j + 1)) : (sumsW c (i + 1) (j + 1) (q, x)).sum = (sumsW c i (j + 1) (q, x)).sum + c (i + 1) (j + 1) := by
  obtain ⟨q2, y, rfl, h1, h2, h3⟩ := ways_mem.mp h
  rw [sum_split (ways_len h1), sum_split (ways_len h1), col_succ (by omega)]; omega
theorem col_grt : ∀ i, col c 0 0 i = grt c i 0
  | 0 => by rw [col_self, grt]
  | i + 1 => by rw [col_succ (by omega), col_grt i, grt]
theorem isG : ∀ (j i : Nat), IsG c i j (grt c i j)
  | 0, i => by
    refine ⟨⟨([], 0), .head _, by rw [sum_zero, col_grt]⟩, fun p hp => ?_⟩
    cases List.mem_singleton.mp (show p ∈ [([], 0)] from hp)
    rw [sum_zero, col_grt]; exact Nat.le_refl _
  | j + 1, 0 => by
    obtain ⟨⟨⟨q, y⟩, h1, h2⟩, h3⟩ := isG j 0
    rw [grt]
    constructor
    · have hy : y ≤ 0 := ((ways_up (Nat.le_refl 0)).mp h1).2
      exact ⟨(q ++ [y], 0), ways_mem.mpr ⟨q, y, rfl, h1, hy, Nat.le_refl _⟩, by rw [sum_split (ways_len h1), col_self, h2]⟩
    · rintro ⟨q', x⟩ hp
      obtain ⟨q2, y2, rfl, k1, k2, k3⟩ := ways_mem.mp hp
      have : x = 0 := by omega
      subst this
      rw [sum_split (ways_len k1), col_self]
      have := h3 _ k1
      omega
  | j + 1, i + 1 => by
    obtain ⟨⟨⟨q, y⟩, h1, h2⟩, h3⟩ := isG (j + 1) i
    obtain ⟨⟨⟨r, z⟩, g1, g2⟩, g3⟩ := isG j (i + 1)
    rw [grt]
    constructor
    · rcases Nat.le_total (grt c i (j + 1)) (grt c (i + 1) j) with h | h
      · rw [Nat.max_eq_right h]
        have hz : z ≤ i + 1 := ((ways_up (Nat.le_refl _)).mp g1).2
        exact ⟨(r ++ [z], i + 1), ways_mem.mpr ⟨r, z, rfl, g1, hz, Nat.le_refl _⟩, by rw [sum_split (ways_len g1), col_self, g2]⟩
      · rw [Nat.max_eq_left h]
        exact ⟨(q, y), ((ways_up (by omega)).mp h1).1, by rw [sum_down h1, h2]⟩
    · rintro ⟨q', x⟩ hp
      rcases Nat.lt_or_ge x (i + 1) with h | h
      · have hp' : (q', x) ∈ waysL i (j + 1) := (ways_up (i := i + 1) (by omega)).mpr ⟨hp, by omega⟩
        rw [sum_down hp']
        have := h3 _ hp'
        omega
      · obtain ⟨q2, y2, rfl, k1, k2, k3⟩ := ways_mem.mp hp
        have : x = i + 1 := by omega
        subst this
        rw [sum_split (ways_len k1), col_self]
        have := g3 _ k1
        omega
termination_by j i => i + j
/-- when a file leaves a desk -/
noncomputable def dep (c : Nat → Nat → Nat) (i j : Nat) : Nat := i + j + 1 + grt c i j
/-- when it comes to the desk -/
noncomputable def arr (c : Nat → Nat → Nat) : Nat → Nat → Nat
  | 0, 0 => 0
  | i + 1, 0 => dep c i 0
  | 0, j + 1 => dep c 0 j
  | i + 1, j + 1 => max (dep c i (j + 1)) (dep c (i + 1) j)
theorem dep_arr (i j : Nat) : dep c i j = arr c i j + 1 + c i j := by
  unfold dep
  match i, j with
  | 0, 0 => rw [grt, arr] <;> omega
  | i + 1, 0 => rw [grt, arr, dep]; try omega
  | 0, j + 1 => rw [grt, arr, dep]; try omega
  | i + 1, j + 1 =>
    rw [grt, arr, dep, dep, show i + (j + 1) + 1 = i + 1 + j + 1 from congrArg (· + 1) (Nat.add_right_comm i j 1), Nat.add_max_add_left]
    generalize max (grt c i (j + 1)) (grt c (i + 1) j) = m
    omega
theorem arr_left (i j : Nat) : dep c i j ≤ arr c i (j + 1) := by
  cases i with
  | zero => rw [arr]; exact Nat.le_refl _
  | succ i => rw [arr]; omega
theorem arr_up (i j : Nat) : dep c i j ≤ arr c (i + 1) j := by
  cases j with
  | zero => rw [arr]; exact Nat.le_refl _
  | succ i => rw [arr]; omega
theorem greatest_at {i j : Nat} (hi : i < 4) (hj : j < 3) (H : Hp) : ∃ J, G_law_greatest [cD c, .int (i : Int), .int (j : Int)] H = some (.int (grt c i j : Nat), H ++ J) :=
  greatest_eval hi hj (isG j i).1 (isG j i).2 H
end
end Mine
open PySem PySem.W PyProof.Rows
set_option maxRecDepth 100000
namespace Mine
/-! law 01: rows and desks -/
noncomputable def rsigns : List Nat := [114, 119, 120, 115, 116]
theorem rsign_iff (c : Nat) : c ∈ rsigns ↔ [c] ∈ rights := by simp [rsigns, rights]
noncomputable def hasR (j : Nat) (w : List Nat) : Bool := ((w.drop (3 * j + 3)).take 3).any fun c => decide (c ∈ rsigns)
theorem hasR_nil (j : Nat) : hasR j [] = false := by unfold hasR; simp
noncomputable def figB (b j : Nat) : Nat := b / 8 ^ (2 - j) % 8
theorem fig8 : ∀ r < 8, (r ≠ 0 ↔ (r / 4 % 2 = 1 ∨ r / 2 % 2 = 1) ∨ r % 2 = 1) := by decide
theorem fig_core (b m : Nat) : b / m % 8 ≠ 0 ↔ (b / (m * 4) % 2 = 1 ∨ b / (m * 2) % 2 = 1) ∨ b / m % 2 = 1 := by
  rw [← Nat.div_div_eq_div_mul, ← Nat.div_div_eq_div_mul]
  have f := fig8 (b / m % 8) (Nat.mod_lt _ (by decide))
  have e1 : b / m % 8 / 4 = b / m / 4 % 2 := Nat.mod_mul_right_div_self (b / m) 4 2
  have e2 : b / m % 8 / 2 = b / m / 2 % 4 := Nat.mod_mul_right_div_self (b / m) 2 4
  have e3 : b / m % 8 % 2 = b / m % 2 := Nat.mod_mod_of_dvd _ ⟨4, rfl⟩
  have e4 : b / m / 2 % 4 % 2 = b / m / 2 % 2 := Nat.mod_mod_of_dvd _ ⟨2, rfl⟩
  rw [e1, e2, e3, e4, Nat.mod_mod] at f
  exact f
theorem fig_bits (b j : Nat) (hj : j < 3) : figB b j ≠ 0 ↔ (b / 2 ^ (8 - 3 * j) % 2 = 1 ∨ b / 2 ^ (8 - (3 * j + 1)) % 2 = 1) ∨ b / 2 ^ (8 - (3 * j + 2)) % 2 = 1 := by
  rcases or3 hj with rfl | rfl | rfl
  · exact fig_core b 64
  · exact fig_core b 8
  · exact fig_core b 1
theorem hasR_word {nm : List Nat} {h b j : Nat} (hn : nm.length = 2) (hj : j < 3) : hasR j (nm ++ rowB h b) = decide (figB b j ≠ 0) := by
  have e : ((nm ++ rowB h b).drop (3 * j + 3)).take 3 = [(rowB h b).getD (3 * j + 1) 0, (rowB h b).getD (3 * j + 1 + 1) 0, (rowB h b).getD (3 * j + 2 + 1) 0] := by
    rw [List.drop_append, List.drop_of_length_le (by omega), List.nil_append, hn]
    rcases (by omega : j = 0 ∨ j = 1 ∨ j = 2) with rfl | rfl | rfl <;> rfl
  unfold hasR
  rw [e]
  have r1 := rowB_right h b (3 * j) (by omega)
  have r2 := rowB_right h b (3 * j + 1) (by omega)
  have r3 := rowB_right h b (3 * j + 2) (by omega)
  have f := fig_bits b j hj
  rw [← rsign_iff] at r1 r2 r3
  rw [Bool.eq_iff_iff]
  simp only [List.any_cons, List.any_nil, Bool.or_false, Bool.or_eq_true, decide_eq_true_eq, r1, r2, r3]
  rw [f, or_assoc]
/-! the rights of a class -/
noncomputable def lowF (f : Nat) : Nat := if f % 2 = 1 then 1 else if f / 2 % 2 = 1 then 2 else 4
noncomputable def cntF (f : Nat) : Nat := [0, 1, 1, 2, 1, 2, 2, 3].getD f 0
noncomputable def cntB (b j : Nat) : Nat := cntF (figB b j)
theorem low_le : ∀ f < 8, f ≠ 0 → lowF f ≤ f ∧ cntF (f - lowF f) + 1 = cntF f := by decide
theorem cnt_zero : ∀ f < 8, (cntF f = 0 ↔ f = 0) := by decide
theorem fig_lt (b j : Nat) : figB b j < 8 := Nat.mod_lt _ (by omega)
theorem p8 (j : Nat) (hj : j < 3) : 0 < 8 ^ (2 - j) ∧ 8 ^ (2 - j) ≤ 64 ∧ 8 ^ (3 - j) = 8 * 8 ^ (2 - j) := by
  rcases (by omega : j = 0 ∨ j = 1 ∨ j = 2) with rfl | rfl | rfl <;> decide
theorem fig_of {b j : Nat} (hj : j < 3) (hb : b < 8 ^ (3 - j)) : figB b j = b / 8 ^ (2 - j) := by
  obtain ⟨h1, h2, h3⟩ := p8 j hj
  unfold figB
  refine Nat.mod_eq_of_lt ?_
  rw [h3] at hb
  exact Nat.div_lt_of_lt_mul (by rw [Nat.mul_comm]; exact hb)
noncomputable def lessB (b j : Nat) : Nat := b - lowF (figB b j) * 8 ^ (2 - j)
theorem less_ok {b j : Nat} (hj : j < 3) (hb : b < 8 ^ (3 - j)) (hf : figB b j ≠ 0) : lowF (figB b j) * 8 ^ (2 - j) ≤ b ∧ lessB b j < 8 ^ (3 - j) ∧ lessB b j % 8 ^ (2 - j) = b % 8 ^ (2 - j) ∧ cntB (lessB b j) j + 1 = cntB b j := by
  obtain ⟨h1, h2, h3⟩ := p8 j hj
  obtain ⟨l1, l2⟩ := low_le _ (fig_lt b j) hf
  have e := fig_of hj hb
  have hlt : lessB b j < 8 ^ (3 - j) := Nat.lt_of_le_of_lt (Nat.sub_le _ _) hb
  have e2 := fig_of hj hlt
  have hle : lowF (figB b j) * 8 ^ (2 - j) ≤ b := Nat.le_trans (Nat.mul_le_mul_right _ l1) (by rw [e]; exact Nat.div_mul_le_self _ _)
  have e3 : figB (lessB b j) j = figB b j - lowF (figB b j) := by
    rw [e2]
    unfold lessB
    rw [Nat.mul_comm, Nat.sub_mul_div, ← e]
  refine ⟨hle, hlt, ?_, ?_⟩
  · unfold lessB
    rw [Nat.mul_comm]
    exact Nat.sub_mul_mod (by rw [Nat.mul_comm]; exact hle)
  · unfold cntB
    rw [e3]; exact l2
theorem cnt_none {b j : Nat} (hj : j < 3) (hb : b < 8 ^ (3 - j)) (h : cntB b j = 0) : figB b j = 0 ∧ b % 8 ^ (2 - j) = b := by
  have h1 := (cnt_zero _ (fig_lt b j)).mp h
  refine ⟨h1, Nat.mod_eq_of_lt ?_⟩
  rw [fig_of hj hb] at h1
  rcases Nat.div_eq_zero_iff.mp h1 with q | q
  · have := (p8 j hj).1; omega
  · exact q
/-! words that look alike -/
theorem bc_inj {c b b' : Nat} (hc : c ≠ 45) (hb : b < 2) (hb' : b' < 2) (h : bc c b = bc c b') : b = b' := by
  unfold bc at h
  rcases (by omega : b = 0 ∨ b = 1) with rfl | rfl <;> rcases (by omega : b' = 0 ∨ b' = 1) with rfl | rfl <;> simp at h ⊢
  · exact hc h.symm
  · exact hc h
theorem xc_inj2 {b b' a a' : Nat} {x c s : Nat} (h1 : [x, c, s, 45].Nodup) (hb : b < 2) (hb' : b' < 2) (ha : a < 2) (ha' : a' < 2) (h : xc x c s b a = xc x c s b' a') : b = b' ∧ a = a' := by
  unfold xc at h
  simp at h1
  rcases (by omega : b = 0 ∨ b = 1) with rfl | rfl <;> rcases (by omega : b' = 0 ∨ b' = 1) with rfl | rfl <;> rcases (by omega : a = 0 ∨ a = 1) with rfl | rfl <;> rcases (by omega : a' = 0 ∨ a' = 1) with rfl | rfl <;> simp at h ⊢ <;> omega
theorem bit_up {b b' m : Nat} (h : b / (m * 2) = b' / (m * 2)) (k : b / m % 2 = b' / m % 2) : b / m = b' / m := by
  rw [← Nat.div_div_eq_div_mul, ← Nat.div_div_eq_div_mul] at h
  omega
theorem rowB_inj {h h' b b' : Nat} (hb : b < 512) (hb' : b' < 512) (e : rowB h b = rowB h' b') : b = b' ∧ ∀ t, rowB h t = rowB h' t := by
  unfold rowB at e ⊢
  simp only [List.cons.injEq, and_true] at e
  obtain ⟨e0, e1, e2, e3, e4, e5, e6, e7, e8, e9⟩ := e
  have m : ∀ n, n % 2 < 2 := fun n => Nat.mod_lt _ (by omega)
  have k1 := bc_inj (by decide) (m _) (m _) e1
  have k2 := bc_inj (by decide) (m _) (m _) e2
  obtain ⟨k3, j3⟩ := xc_inj2 (by decide) (m _) (m _) (m _) (m _) e3
  have k4 := bc_inj (by decide) (m _) (m _) e4
  have k5 := bc_inj (by decide) (m _) (m _) e5
  obtain ⟨k6, j6⟩ := xc_inj2 (by decide) (m _) (m _) (m _) (m _) e6
  have k7 := bc_inj (by decide) (m _) (m _) e7
  have k8 := bc_inj (by decide) (m _) (m _) e8
  obtain ⟨k9, j9⟩ := xc_inj2 (by decide) (m _) (m _) (m _) (m _) e9
  refine ⟨?_, fun t => ?_⟩
  · have t9 : b / (256 * 2) = b' / (256 * 2) := (Nat.div_eq_of_lt hb).trans (Nat.div_eq_of_lt hb').symm
    have t1 := bit_up (m := 1) (bit_up (m := 2) (bit_up (m := 4) (bit_up (m := 8) (bit_up (m := 16) (bit_up (m := 32) (bit_up (m := 64) (bit_up (m := 128) (bit_up (m := 256) t9 k1) k2) k3) k4) k5) k6) k7) k8) k9
    simpa using t1
  · rw [e0, j3, j6, j9]
/-! the desks' objects -/
noncomputable def up {α : Type} (f : Nat → α) (j : Nat) (v : α) : Nat → α := fun k => if k = j then v else f k
theorem up_same {α : Type} {f : Nat → α} {j : Nat} {v : α} : up f j v j = v := if_pos rfl
theorem up_ne {α : Type} {f : Nat → α} {j k : Nat} {v : α} (h : k ≠ j) : up f j v k = f k := if_neg h
structure Ad where
  x : Nat → Ix
  id : Nat → Nat
structure Apart (a : Ad) : Prop where
  xx : ∀ i < 3, ∀ j < 3, i ≠ j → ∀ k ∈ (a.x i).all, k ∉ (a.x j).all
  kx : ∀ j < 3, ∀ p < 6, a.id p ∉ (a.x j).all
  kk : ∀ p < 6, ∀ q < 6, p ≠ q → a.id p ≠ a.id q
structure DI (C : Addr) (H : Hp) (a : Ad) (s : Nat → LS) (o : Nat → CO) : Prop where
  lex : ∀ j < 3, LexAt C H (a.x j) (s j)
  ob : ∀ p < 6, H[a.id p]? = some (o p)
section
variable {C : Addr} {H H' : Hp} {a : Ad} {s : Nat → LS} {o : Nat → CO}
theorem DI.app (i : DI C H a s o) (J : Hp) : DI C (H ++ J) a s o :=
  ⟨fun j hj => (i.lex j hj).app J, fun p hp => (Fr.app [] H J).get (i.ob p hp) (by simp)⟩
theorem DI.set (i : DI C H a s o) (ap : Apart a) {p : Nat} (hp : p < 6) (v : CO) : DI C (H.set (a.id p) v) a s (up o p v) := by
  have fr := Fr.set H (a.id p) v
  refine ⟨fun j hj => (i.lex j hj).frame fr fun k hk hm => ?_, fun q hq => ?_⟩
  · rw [List.mem_singleton.mp hm] at hk
    exact ap.kx j hj p hp hk
  · by_cases h : q = p
    · subst h
      rw [up_same]; exact set_get (i.ob _ hq)
    · rw [up_ne h]
      exact fr.get (i.ob q hq) (by simpa using ap.kk q hq p hp h)
theorem DI.lexer (i : DI C H a s o) (ap : Apart a) {j : Nat} (hj : j < 3) {s' : LS} {L : List Nat} (l : LexAt C H' (a.x j) s') (fr : Fr L H H') (hL : ∀ k ∈ L, k ∈ (a.x j).all) : DI C H' a (up s j s') o := by
  refine ⟨fun k hk => ?_, fun p hp => fr.get (i.ob p hp) fun hm => ap.kx j hj p hp (hL _ hm)⟩
  by_cases h : k = j
  · subst h
    rw [up_same]; exact l
  · rw [up_ne h]
    exact (i.lex k hk).frame fr fun q hq hm => ap.xx k hk j hj h q hq (hL q hm)
end
noncomputable def LS.tok (s : LS) : List Nat := match s.push with
  | w :: _ => w
  | [] => (lexTok s.ws s.text).1
noncomputable def LS.nxt (s : LS) : LS := match s.push with
  | _ :: r => { s with push := r }
  | [] => { s with text := (lexTok s.ws s.text).2 }
theorem LexAt.get {C : Addr} {H : Hp} {x : Ix} {s : LS} (l : LexAt C H x s) (hp : s.push.length < 1000) : ∃ H', G_get_token C [.own x.k] H = some (dS s.tok, H') ∧ LexAt C H' x s.nxt ∧ ∃ L, Fr L H H' ∧ ∀ k ∈ L, k ∈ x.all := by
  unfold LS.tok LS.nxt
  cases q : s.push with
  | nil =>
    obtain ⟨H', e, l', fr⟩ := l.token q
    exact ⟨H', e, by rw [q] at l'; exact l', _, fr, by simp [Ix.all]⟩
  | cons w r =>
    obtain ⟨H', e, l', fr⟩ := l.pop q (by rw [q] at hp; simp at hp; omega)
    exact ⟨H', e, l', _, fr, by simp [Ix.all]⟩
end Mine
open PySem PySem.W PyProof.Rows
set_option maxRecDepth 100000
namespace Mine
/-! _law_desks: the statements of a turn -/
noncomputable abbrev gtM (C : Addr) : D → List D → Hp → Option (D × Hp) := fun o ds H => (G_get_token C) (o :: ds) H
noncomputable abbrev ptM (C : Addr) : D → List D → Hp → Option (D × Hp) := fun o ds H => (G_push_token C) (o :: ds) H
noncomputable abbrev dkSeal : XE := (xSeal (xTup [(xVar 7), (xVar 8)]))
noncomputable abbrev dk1 : XS := xAssign 11 (xOp2 fItem (xVar 6) (xVar 10))
noncomputable abbrev dk2 : XS := xBr (xIf (xTest fNe (xVar 11) (xLit (.str ""))) (xTest fNotIn (xVar 11) (xVar 3)) xFF) (xSeq (xRet dkSeal) xSkip) xSkip
noncomputable abbrev dkC : XE := (xComp [] 15 (xIt (xSlice (xVar 11) (some (xOp2 fAdd (xOp2 (fInt iMul) (xLit (.int 3)) (xVar 10)) (xLit (.int 3)))) (some (xOp2 fAdd (xOp2 (fInt iMul) (xLit (.int 3)) (xVar 10)) (xLit (.int 6)))) none)) (some (xTest fIn (xVar 15) (xLit (.str "rwxst")))) [] (xVar 15))
noncomputable abbrev dkT : XB := xTest fNe dkC (xLst [])
noncomputable abbrev dkA : XS := (xSeq (xAssign 12 (xOp2 (fInt iMod) (xOp2 (fInt iDiv) (xOp2 fItem (xVar 3) (xVar 11)) (xOp2 (fInt iPow) (xLit (.int 8)) (xOp2 (fInt iSub) (xLit (.int 2)) (xVar 10)))) (xLit (.int 8)))) (xSeq (xAssign 13 (xIf (xTest (fInt iEq) (xOp2 (fInt iMod) (xVar 12) (xLit (.int 2))) (xLit (.int 1))) (xLit (.int 1)) (xIf (xTest (fInt iEq) (xOp2 (fInt iMod) (xOp2 (fInt iDiv) (xVar 12) (xLit (.int 2))) (xLit (.int 2))) (xLit (.int 1))) (xLit (.int 2)) (xLit (.int 4))))) (xSeq (xAssign 14 (xOp2 (fInt iSub) (xOp2 fItem (xVar 3) (xVar 11)) (xOp2 (fInt iMul) (xVar 13) (xOp2 (fInt iPow) (xLit (.int 8)) (xOp2 (fInt iSub) (xLit (.int 2)) (xVar 10)))))) (xSeq (xSetI (xVar 6) (xVar 10) (xOp2 fAdd (xSlice (xVar 11) none (some (xLit (.int 2))) none) (xCall G_filemode [(xVar 14)]))) (xSeq (xSetI (xVar 3) (xOp2 fItem (xVar 6) (xVar 10)) (xVar 14)) xSkip)))))
noncomputable abbrev dkB1 : XS := xBr (xTest fNe (xVar 11) (xLit (.str ""))) (xSeq (xDo (xMeth isOwnL gAppend (xOp2 fItem (xVar 7) (xVar 10)) [(xTup [(xVar 9), (xVar 11)])])) xSkip) xSkip
noncomputable abbrev dkB2 (C : Addr) : XS := xBr (xIf (xTest fNe (xVar 11) (xLit (.str ""))) (xTest (fInt iLt) (xVar 10) (xLit (.int 2))) xFF) (xSeq (xDo (xMeth (isInst C lexNs) (ptM C) (xOp2 fItem (xVar 5) (xOp2 fAdd (xVar 10) (xLit (.int 1)))) [(xVar 11)])) xSkip) xSkip
noncomputable abbrev dkB3 (C : Addr) : XS := xSetI (xVar 6) (xVar 10) (xMeth (isInst C lexNs) (gtM C) (xOp2 fItem (xVar 5) (xVar 10)) [])
noncomputable abbrev dk3 (C : Addr) : XS := xBr dkT dkA (xSeq dkB1 (xSeq (dkB2 C) (xSeq (dkB3 C) xSkip)))
noncomputable abbrev dk4 (C : Addr) : XS := xBr (xTest (fInt iEq) (xVar 10) (xLit (.int 0))) (xSeq (xDo (xMeth (isInst C lexNs) (ptM C) (xVar 0) [(xMeth (isInst C lexNs) (gtM C) (xVar 0) [])])) xSkip) xSkip
noncomputable abbrev dkBody (C : Addr) : XS := xSeq dk1 (xSeq dk2 (xSeq (dk3 C) (xSeq (dk4 C) xSkip)))
noncomputable abbrev dkMark (C : Addr) : XS := xDo (xMeth isOwnL gAppend (xVar 8) [(xTup [(xCall gLen [(xAttr C lexNs "instream" (xAttr C lexNs "instream" (xVar 0)))]), (xAttr C lexNs "lineno" (xVar 0)), (xCall gList [(xAttr C lexNs "pushback" (xVar 0))])])])
noncomputable abbrev dkEnd : XS := xBr (xTest (fInt iEq) (xCall gLen [(xOp2 fItem (xVar 7) (xLit (.int 2)))]) (xLit (.int 4))) (xSeq (xRet dkSeal) xSkip) xSkip
noncomputable abbrev dkTick (C : Addr) : XS := xSeq (xFor 10 (xRange1 (xLit (.int 3))) (dkBody C) xSkip) (xSeq (dkMark C) (xSeq dkEnd xSkip))
noncomputable abbrev dkLines (C : Addr) : XE := (xLst [(xVar 0), (xCall (gNew C lexNs (G_init C)) [(xCall (G_law_tape C) [(xLit (.str ""))])]), (xCall (gNew C lexNs (G_init C)) [(xCall (G_law_tape C) [(xLit (.str ""))])])])
theorem desks_eq (C : Addr) : b_law_desks C = (xSeq (xAssign 3 xDict) (xSeq (xFor 4 (xRange1 (xLit (.int 4))) (xSeq (xSetI (xVar 3) (xOp2 fItem (xVar 1) (xVar 4)) (xOp2 fItem (xVar 2) (xVar 4))) xSkip) xSkip) (xSeq (xAssign 5 (dkLines C)) (xSeq (xAssign 6 (xNew [(xLit (.str "")), (xLit (.str "")), (xLit (.str ""))])) (xSeq (xAssign 7 (xLst [(xNew []), (xNew []), (xNew [])])) (xSeq (xAssign 8 (xNew [])) (xSeq (xFor 9 (xRange1 (xLit (.int 26))) (dkTick C) xSkip) (xSeq (xRet dkSeal) xSkip)))))))) := rfl
section
variable {α : Type} {f : α → D} {i : Nat} {p : XE} {H : Hp}
theorem items_filterA {g : α → D} {c : XB} {b : α → Bool} : ∀ (ds : List α) (us : Vs), (∀ d ∈ ds, c (us.set i (some (f d))) H = some (b d, H) ∧ (b d = true → p (us.set i (some (f d))) H = some (g d, H))) → xItems i (some c) (xGens p []) (ds.map f) us H = some ((ds.filter b).map g, H)
  | [], us, _ => rfl
  | d :: ds, us, h => by
    obtain ⟨e1, e3⟩ := h d (.head _)
    have e2 := items_filterA ds us fun e he => h e (.tail _ he)
    rw [List.map_cons]
    unfold xItems
    rw [runT, e1, Option.bind_some]
    cases q : b d with
    | true =>
      rw [List.filter_cons_of_pos q]
      have eg : xGens p [] (us.set i (some (f d))) H = some ([g d], H) := by show (p (us.set i (some (f d))) H).map _ = _; rw [e3 q]; rfl
      simp only [eg, Option.map_some, Option.bind_some, e2]
      rfl
    | false =>
      rw [List.filter_cons_of_neg (by simp [q])]
      exact e2
theorem comp_filterA {vis : List Nat} {it : XI} {vs : Vs} {g : α → D} {c : XB} {b : α → Bool} {ds : List α} (hit : it vs H = some (ds.map f, H)) (hl : ds.length ≤ 1000000) (hp : ∀ d ∈ ds, c ((mask vis 0 vs).set i (some (f d))) H = some (b d, H) ∧ (b d = true → p ((mask vis 0 vs).set i (some (f d))) H = some (g d, H))) : xComp vis i it (some c) [] p vs H = some (.lst ((ds.filter b).map g), H) := by
  have e := items_filterA ds (mask vis 0 vs) hp
  unfold xComp
  rw [hit, Option.bind_some, e, Option.bind_some, if_pos (okLen_of (by rw [List.length_map]; have := List.length_filter_le b ds; omega))]
end
noncomputable def heldL (w : Nat → List Nat) : List D := [dS (w 0), dS (w 1), dS (w 2)]
theorem heldL_get {w : Nat → List Nat} {j : Nat} (hj : j < 3) : (heldL w)[j]? = some (dS (w j)) := by
  rcases (by omega : j = 0 ∨ j = 1 ∨ j = 2) with rfl | rfl | rfl <;> rfl
theorem heldL_set {w : Nat → List Nat} {j : Nat} {v : List Nat} (hj : j < 3) : (heldL w).set j (dS v) = heldL (up w j v) := by
  rcases (by omega : j = 0 ∨ j = 1 ∨ j = 2) with rfl | rfl | rfl <;> rfl
noncomputable def goneD (p : Nat × List Nat) : D := .tup [.int (p.1 : Int), dS p.2]
section
variable {C : Addr} {H : Hp} {a : Ad} {s : Nat → LS} {o : Nat → CO} {W M : D} {j : Nat} {w : List Nat} {a4 a9 a11 a12 a13 a14 : Option D}
noncomputable abbrev dv (a : Ad) (W M : D) (a4 a9 a10 a11 a12 a13 a14 : Option D) : Vs := [some (.own (a.x 0).k), some W, some M, some (.own (a.id 0)), a4, some (.lst [.own (a.x 0).k, .own (a.x 1).k, .own (a.x 2).k]), some (.own (a.id 1)), some (.lst [.own (a.id 3), .own (a.id 4), .own (a.id 5)]), some (.own (a.id 2)), a9, a10, a11, a12, a13, a14, none]
theorem lines_get (hj : j < 3) (H : Hp) : fItem (.lst [.own (a.x 0).k, .own (a.x 1).k, .own (a.x 2).k]) (.int (j : Int)) H = some (.own (a.x j).k) := by
  refine fItem_lst ?_ (by omega)
  rcases (by omega : j = 0 ∨ j = 1 ∨ j = 2) with rfl | rfl | rfl <;> rfl
theorem gone_get (hj : j < 3) (H : Hp) : fItem (.lst [.own (a.id 3), .own (a.id 4), .own (a.id 5)]) (.int (j : Int)) H = some (.own (a.id (3 + j))) := by
  refine fItem_lst ?_ (by omega)
  rcases (by omega : j = 0 ∨ j = 1 ∨ j = 2) with rfl | rfl | rfl <;> rfl
theorem dk1_ok {ws : Nat → List Nat} (i : DI C H a s o) (ho : o 1 = .list (heldL ws)) (hj : j < 3) : dk1 (dv a W M a4 a9 (some (.int (j : Int))) a11 a12 a13 a14) H = some (.next, dv a W M a4 a9 (some (.int (j : Int))) (some (dS (ws j))) a12 a13 a14, H) := by
  have h := i.ob 1 (by omega)
  rw [ho] at h
  have e := fItem_own h (heldL_get hj) (by omega)
  simp only [xSeq, xBr, xTest, xOp2, xVar, xLit, xDo, xMeth, xCall, xAll, xSkip, xBrk, xCont, xRet, xAssign, xAug, xIf, xTT, xFF, xTru, tBool, xAndV, xOrV, xLst, xTup, Option.bind_some, Option.map_some, List.getElem?_cons_zero, List.getElem?_cons_succ, List.set_cons_zero, List.set_cons_succ, List.set_nil, List.getElem?_nil, if_true, reduceIte, Bool.false_eq_true, if_false, List.set_set, e]
theorem ne_word (hw : OkS w) (H : Hp) : fNe (dS w) (dS []) H = some (.bool (!(w == []))) := fNe_str hw okS_nil
theorem dk2_ok {m : Nat} {f : Str → Option D} (i : DI C H a s o) (ho : o 0 = .dict m f) (hw : OkS w) (hk : w = [] ∨ (f (S w)).isSome = true) {a10 : Option D} : dk2 (dv a W M a4 a9 a10 (some (dS w)) a12 a13 a14) H = some (.next, dv a W M a4 a9 a10 (some (dS w)) a12 a13 a14, H) := by
  have l0 : ("" : Str) = S [] := rfl
  have h := i.ob 0 (by omega)
  rw [ho] at h
  have n0 := ne_word hw H
  by_cases hn : w = []
  · subst hn
    simp only [List.beq_nil_eq, List.isEmpty_nil, Bool.not_true] at n0
    have n0 : fNe (dS []) (dS []) H = some (.bool false) := n0
    simp only [xSeq, xBr, xTest, xOp2, xVar, xLit, xDo, xMeth, xCall, xAll, xSkip, xBrk, xCont, xRet, xAssign, xAug, xIf, xTT, xFF, xTru, tBool, xAndV, xOrV, xLst, xTup, Option.bind_some, Option.map_some, List.getElem?_cons_zero, List.getElem?_cons_succ, List.set_cons_zero, List.set_cons_succ, List.set_nil, List.getElem?_nil, if_true, reduceIte, Bool.false_eq_true, if_false, List.set_set, l0, n0]
  · have q : (w == []) = false := by simpa using hn
    rw [q] at n0
    have hs : (f (S w)).isSome = true := hk.resolve_left hn
    have n1 : fNotIn (dS w) (.own (a.id 0)) H = some (.bool false) := by
      unfold fNotIn
      rw [bIn_dict h, hs]; rfl
    simp only [xSeq, xBr, xTest, xOp2, xVar, xLit, xDo, xMeth, xCall, xAll, xSkip, xBrk, xCont, xRet, xAssign, xAug, xIf, xTT, xFF, xTru, tBool, xAndV, xOrV, xLst, xTup, Option.bind_some, Option.map_some, List.getElem?_cons_zero, List.getElem?_cons_succ, List.set_cons_zero, List.set_cons_succ, List.set_nil, List.getElem?_nil, if_true, reduceIte, Bool.false_eq_true, if_false, List.set_set, l0, n0, Bool.not_false, n1]
theorem dkT_ok (hw : OkS w) (hl : w.length < 1000) (hj : j < 3) : dkT (dv a W M a4 a9 (some (.int (j : Int))) (some (dS w)) a12 a13 a14) H = some (hasR j w, H) := by
  have m1 : fInt iMul (.int 3) (.int (j : Int)) H = some (.int ((3 * j : Nat) : Int)) := mul_nat 3 j H (by omega) (by omega)
  have a1 : fAdd (.int ((3 * j : Nat) : Int)) (.int 3) H = some (.int ((3 * j + 3 : Nat) : Int)) := add_nat _ 3 H
  have a2 : fAdd (.int ((3 * j : Nat) : Int)) (.int 6) H = some (.int ((3 * j + 6 : Nat) : Int)) := add_nat _ 6 H
  have s1 : fSlice (dS w) (some ((3 * j + 3 : Nat) : Int)) (some ((3 * j + 6 : Nat) : Int)) none H = some (dS ((w.drop (3 * j + 3)).take 3)) := by
    rw [mid_sl _ _ (by omega), show 3 * j + 6 - (3 * j + 3) = 3 by omega]
  have hx : OkS ((w.drop (3 * j + 3)).take 3) := hw.sub fun c hc => List.mem_of_mem_drop (List.mem_of_mem_take hc)
  have hlx : ((w.drop (3 * j + 3)).take 3).length ≤ 3 := List.length_take_le _ _
  unfold hasR
  generalize (w.drop (3 * j + 3)).take 3 = x at *
  generalize 3 * j + 3 = u at *
  generalize 3 * j + 6 = v at *
  generalize 3 * j = t at *
  have hit : xIt (xSlice (xVar 11) (some (xOp2 fAdd (xOp2 (fInt iMul) (xLit (.int 3)) (xVar 10)) (xLit (.int 3)))) (some (xOp2 fAdd (xOp2 (fInt iMul) (xLit (.int 3)) (xVar 10)) (xLit (.int 6)))) none) (dv a W M a4 a9 (some (.int (j : Int))) (some (dS w)) a12 a13 a14) H = some (x.map (fun c => dS [c]), H) := by
    simp only [xIt, xSlice, xPart, xSeq, xBr, xTest, xOp2, xVar, xLit, xDo, xMeth, xCall, xAll, xSkip, xBrk, xCont, xRet, xAssign, xAug, xIf, xTT, xFF, xTru, tBool, xAndV, xOrV, xLst, xTup, Option.bind_some, Option.map_some, List.getElem?_cons_zero, List.getElem?_cons_succ, List.set_cons_zero, List.set_cons_succ, List.set_nil, List.getElem?_nil, if_true, reduceIte, Bool.false_eq_true, if_false, List.set_set, m1, a1, a2, s1]
    rfl
  have ec : dkC (dv a W M a4 a9 (some (.int (j : Int))) (some (dS w)) a12 a13 a14) H = some (.lst ((x.filter fun c => decide (c ∈ rsigns)).map fun c => dS [c]), H) := by
    refine comp_filterA (f := fun c => dS [c]) hit (by omega) fun c hc => ?_
    have k : ((mask [] 0 (dv a W M a4 a9 (some (.int (j : Int))) (some (dS w)) a12 a13 a14)).set 15 (some (dS [c])))[15]? = some (some (dS [c])) := mk_self (by show 15 < 16; omega)
    have f1 : fIn (dS [c]) (.str "rwxst") H = some (.bool (decide (c ∈ rsigns))) := by
      have := fIn_sign (c := c) (l := [114, 119, 120, 115, 116]) (H := H)
      exact this
    refine ⟨?_, fun _ => var_of k⟩
    simp only [xTest, xOp2, var_of k, xLit, Option.bind_some, Option.map_some, f1]
  have okN : okLen [] = true := rfl
  have n1 : fNe (.lst ((x.filter fun c => decide (c ∈ rsigns)).map fun c => dS [c])) (.lst []) H = some (.bool (x.any fun c => decide (c ∈ rsigns))) := by
    have hm : ((x.filter fun c => decide (c ∈ rsigns)).map fun c => dS [c]).mapM (toPy 7 H) = some ((x.filter fun c => decide (c ∈ rsigns)).map fun c => PyData.str (S [c])) := mapM_map (f := toPy 7 H) (g := fun c => dS [c]) (h := fun c => PyData.str (S [c])) (fun _ => rfl) _
    rw [ne_nilL hm (canLayAll_map _ fun c hc => okS_str (l := [c]) (OkS.one (hx c ((List.mem_filter.mp hc).1)))) (Nat.le_trans (depthAll_map (k := 0) _ fun c _ => by simp [PyData.depth]) (by omega))]
    congr 2
    rw [Bool.eq_iff_iff]
    simp
  unfold dkT
  generalize dkC = CC at *
  simp only [xSeq, xBr, xTest, xOp2, xVar, xLit, xDo, xMeth, xCall, xAll, xSkip, xBrk, xCont, xRet, xAssign, xAug, xIf, xTT, xFF, xTru, tBool, xAndV, xOrV, xLst, xTup, Option.bind_some, Option.map_some, List.getElem?_cons_zero, List.getElem?_cons_succ, List.set_cons_zero, List.set_cons_succ, List.set_nil, List.getElem?_nil, if_true, reduceIte, Bool.false_eq_true, if_false, List.set_set, ec, okN, n1]
theorem dkB1_skip {a10 : Option D} : dkB1 (dv a W M a4 a9 a10 (some (dS [])) a12 a13 a14) H = some (.next, dv a W M a4 a9 a10 (some (dS [])) a12 a13 a14, H) := by
  have l0 : ("" : Str) = S [] := rfl
  have n0 : fNe (dS []) (dS []) H = some (.bool false) := ne_word okS_nil H
  simp only [xSeq, xBr, xTest, xOp2, xVar, xLit, xDo, xMeth, xCall, xAll, xSkip, xBrk, xCont, xRet, xAssign, xAug, xIf, xTT, xFF, xTru, tBool, xAndV, xOrV, xLst, xTup, Option.bind_some, Option.map_some, List.getElem?_cons_zero, List.getElem?_cons_succ, List.set_cons_zero, List.set_cons_succ, List.set_nil, List.getElem?_nil, if_true, reduceIte, Bool.false_eq_true, if_false, List.set_set, l0, n0]
theorem dkB2_skip {a10 : Option D} : dkB2 C (dv a W M a4 a9 a10 (some (dS [])) a12 a13 a14) H = some (.next, dv a W M a4 a9 a10 (some (dS [])) a12 a13 a14, H) := by
  have l0 : ("" : Str) = S [] := rfl
  have n0 : fNe (dS []) (dS []) H = some (.bool false) := ne_word okS_nil H
  simp only [xSeq, xBr, xTest, xOp2, xVar, xLit, xDo, xMeth, xCall, xAll, xSkip, xBrk, xCont, xRet, xAssign, xAug, xIf, xTT, xFF, xTru, tBool, xAndV, xOrV, xLst, xTup, Option.bind_some, Option.map_some, List.getElem?_cons_zero, List.getElem?_cons_succ, List.set_cons_zero, List.set_cons_succ, List.set_nil, List.getElem?_nil, if_true, reduceIte, Bool.false_eq_true, if_false, List.set_set, l0, n0]
theorem dkB1_ok {t : Nat} {l : List (Nat × List Nat)} (i : DI C H a s o) (ho : o (3 + j) = .list (l.map goneD)) (hj : j < 3) (hw : OkS w) (hn : w ≠ []) (hl : l.length < 1000) : dkB1 (dv a W M a4 (some (.int (t : Int))) (some (.int (j : Int))) (some (dS w)) a12 a13 a14) H = some (.next, dv a W M a4 (some (.int (t : Int))) (some (.int (j : Int))) (some (dS w)) a12 a13 a14, H.set (a.id (3 + j)) (.list ((l ++ [(t, w)]).map goneD))) := by
  have l0 : ("" : Str) = S [] := rfl
  have n0 := ne_word hw H
  have q : (w == []) = false := by simpa using hn
  rw [q] at n0
  have h := i.ob (3 + j) (by omega)
  rw [ho] at h
  have g1 := gone_get (a := a) hj H
  have o1 := isOwnL_own h
  have ok2 : ∀ a b : D, okLen [a, b] = true := fun _ _ => by simp [okLen]
  have a1 := append_own (d := goneD (t, w)) h (by simp; omega)
  have e : (l ++ [(t, w)]).map goneD = l.map goneD ++ [goneD (t, w)] := by simp
  rw [e]
  unfold goneD at a1 ⊢
  simp only [xSeq, xBr, xTest, xOp2, xVar, xLit, xDo, xMeth, xCall, xAll, xSkip, xBrk, xCont, xRet, xAssign, xAug, xIf, xTT, xFF, xTru, tBool, xAndV, xOrV, xLst, xTup, Option.bind_some, Option.map_some, List.getElem?_cons_zero, List.getElem?_cons_succ, List.set_cons_zero, List.set_cons_succ, List.set_nil, List.getElem?_nil, if_true, reduceIte, Bool.false_eq_true, if_false, List.set_set, l0, n0, Bool.not_false, g1, o1, ok2, a1]
theorem dkB2_last {t : Option D} (hw : OkS w) : dkB2 C (dv a W M a4 t (some (.int 2)) (some (dS w)) a12 a13 a14) H = some (.next, dv a W M a4 t (some (.int 2)) (some (dS w)) a12 a13 a14, H) := by
  have l0 : ("" : Str) = S [] := rfl
  have n0 := ne_word hw H
  have z : fInt iLt (.int 2) (.int 2) H = some (.bool false) := rfl
  cases hb : (w == []) <;> rw [hb] at n0
  · simp only [xSeq, xBr, xTest, xOp2, xVar, xLit, xDo, xMeth, xCall, xAll, xSkip, xBrk, xCont, xRet, xAssign, xAug, xIf, xTT, xFF, xTru, tBool, xAndV, xOrV, xLst, xTup, Option.bind_some, Option.map_some, List.getElem?_cons_zero, List.getElem?_cons_succ, List.set_cons_zero, List.set_cons_succ, List.set_nil, List.getElem?_nil, if_true, reduceIte, Bool.false_eq_true, if_false, List.set_set, l0, n0, Bool.not_false, z]
  · simp only [xSeq, xBr, xTest, xOp2, xVar, xLit, xDo, xMeth, xCall, xAll, xSkip, xBrk, xCont, xRet, xAssign, xAug, xIf, xTT, xFF, xTru, tBool, xAndV, xOrV, xLst, xTup, Option.bind_some, Option.map_some, List.getElem?_cons_zero, List.getElem?_cons_succ, List.set_cons_zero, List.set_cons_succ, List.set_nil, List.getElem?_nil, if_true, reduceIte, Bool.false_eq_true, if_false, List.set_set, l0, n0, Bool.not_true]
theorem dkB2_ok {t : Option D} (i : DI C H a s o) (ap : Apart a) (hj : j < 2) (hw : OkS w) (hn : w ≠ []) (hl : (s (j + 1)).push.length < 1000) : ∃ H', dkB2 C (dv a W M a4 t (some (.int (j : Int))) (some (dS w)) a12 a13 a14) H = some (.next, dv a W M a4 t (some (.int (j : Int))) (some (dS w)) a12 a13 a14, H') ∧ DI C H' a (up s (j + 1) { s (j + 1) with push := (s (j + 1)).push ++ [w] }) o := by
  have l0 : ("" : Str) = S [] := rfl
  have n0 := ne_word hw H
  have q : (w == []) = false := by simpa using hn
  rw [q] at n0
  have z : fInt iLt (.int (j : Int)) (.int 2) H = some (.bool true) := by
    have := lt_nat j 2 H
    rw [decide_eq_true (by omega)] at this; exact this
  have p1 : fAdd (.int (j : Int)) (.int 1) H = some (.int ((j + 1 : Nat) : Int)) := add_nat j 1 H
  have g1 := lines_get (a := a) (j := j + 1) (by omega) H
  have l := i.lex (j + 1) (by omega)
  obtain ⟨H', e, l', fr⟩ := l.pushed w hl
  have eI := l.isI
  refine ⟨H', ?_, i.lexer ap (j := j + 1) (by omega) l' fr (by simp [Ix.all])⟩
  generalize j + 1 = j' at *
  simp only [xSeq, xBr, xTest, xOp2, xVar, xLit, xDo, xMeth, xCall, xAll, xSkip, xBrk, xCont, xRet, xAssign, xAug, xIf, xTT, xFF, xTru, tBool, xAndV, xOrV, xLst, xTup, Option.bind_some, Option.map_some, List.getElem?_cons_zero, List.getElem?_cons_succ, List.set_cons_zero, List.set_cons_succ, List.set_nil, List.getElem?_nil, if_true, reduceIte, Bool.false_eq_true, if_false, List.set_set, l0, n0, Bool.not_false, z, p1, g1, eI, e]
theorem dkB3_ok {t a11 : Option D} {ws : Nat → List Nat} (i : DI C H a s o) (ap : Apart a) (ho : o 1 = .list (heldL ws)) (hj : j < 3) (hl : (s j).push.length < 1000) : ∃ H', dkB3 C (dv a W M a4 t (some (.int (j : Int))) a11 a12 a13 a14) H = some (.next, dv a W M a4 t (some (.int (j : Int))) a11 a12 a13 a14, H') ∧ DI C H' a (up s j (s j).nxt) (up o 1 (.list (heldL (up ws j (s j).tok)))) := by
  have g1 := lines_get (a := a) hj H
  have l := i.lex j hj
  obtain ⟨H1, e, l', L, fr, hL⟩ := l.get hl
  have eI := l.isI
  have i1 := i.lexer ap hj l' fr hL
  have h := i1.ob 1 (by omega)
  rw [ho] at h
  have st := set_list (d := dS (s j).tok) h (i := j) (by simp [heldL]; omega) (by simp [heldL])
  rw [heldL_set hj] at st
  refine ⟨_, ?_, i1.set ap (p := 1) (by omega) (.list (heldL (up ws j (s j).tok)))⟩
  simp only [xSeq, xBr, xTest, xOp2, xVar, xLit, xDo, xMeth, xCall, xAll, xSkip, xBrk, xCont, xRet, xAssign, xAug, xIf, xTT, xFF, xTru, tBool, xAndV, xOrV, xLst, xTup, Option.bind_some, Option.map_some, List.getElem?_cons_zero, List.getElem?_cons_succ, List.set_cons_zero, List.set_cons_succ, List.set_nil, List.getElem?_nil, if_true, reduceIte, Bool.false_eq_true, if_false, List.set_set, xSetI, g1, eI, e, st]
theorem dk4_skip {a10 a11 t : Option D} (hj : j ≠ 0) : dk4 C (dv a W M a4 t (some (.int (j : Int))) a11 a12 a13 a14) H = some (.next, dv a W M a4 t (some (.int (j : Int))) a11 a12 a13 a14, H) := by
  have z : fInt iEq (.int (j : Int)) (.int 0) H = some (.bool false) := eqI_f (j := 0) hj
  simp only [xSeq, xBr, xTest, xOp2, xVar, xLit, xDo, xMeth, xCall, xAll, xSkip, xBrk, xCont, xRet, xAssign, xAug, xIf, xTT, xFF, xTru, tBool, xAndV, xOrV, xLst, xTup, Option.bind_some, Option.map_some, List.getElem?_cons_zero, List.getElem?_cons_succ, List.set_cons_zero, List.set_cons_succ, List.set_nil, List.getElem?_nil, if_true, reduceIte, Bool.false_eq_true, if_false, List.set_set, z]
theorem dk4_ok {a11 t : Option D} (i : DI C H a s o) (ap : Apart a) (hl : (s 0).push.length < 1000) (hl2 : (s 0).nxt.push.length < 1000) : ∃ H', dk4 C (dv a W M a4 t (some (.int 0)) a11 a12 a13 a14) H = some (.next, dv a W M a4 t (some (.int 0)) a11 a12 a13 a14, H') ∧ DI C H' a (up s 0 { (s 0).nxt with push := (s 0).nxt.push ++ [(s 0).tok] }) o := by
  have z : fInt iEq (.int 0) (.int 0) H = some (.bool true) := rfl
  have l := i.lex 0 (by omega)
  obtain ⟨H1, e, l1, L, fr, hL⟩ := l.get hl
  have eI := l.isI
  have i1 := i.lexer ap (by omega) l1 fr hL
  obtain ⟨H2, e2, l2, fr2⟩ := l1.pushed (s 0).tok hl2
  refine ⟨H2, ?_, ?_⟩
  · simp only [xSeq, xBr, xTest, xOp2, xVar, xLit, xDo, xMeth, xCall, xAll, xSkip, xBrk, xCont, xRet, xAssign, xAug, xIf, xTT, xFF, xTru, tBool, xAndV, xOrV, xLst, xTup, Option.bind_some, Option.map_some, List.getElem?_cons_zero, List.getElem?_cons_succ, List.set_cons_zero, List.set_cons_succ, List.set_nil, List.getElem?_nil, if_true, reduceIte, Bool.false_eq_true, if_false, List.set_set, z, eI, e, e2]
  · have := i1.lexer ap (j := 0) (by omega) l2 fr2 (by simp [Ix.all])
    have hh : up (up s 0 (s 0).nxt) 0 { (s 0).nxt with push := (s 0).nxt.push ++ [(s 0).tok] } = up s 0 { (s 0).nxt with push := (s 0).nxt.push ++ [(s 0).tok] } := by
      funext k
      unfold up
      split <;> rfl
    rw [hh] at this
    exact this
end
end Mine
open PySem PySem.W PyProof.Rows
set_option maxRecDepth 100000
namespace Mine
/-! _law_desks: a right taken off, the marks, the end -/
theorem low_eval {us : Vs} {g : Nat} {H : Hp} (h : us[12]? = some (some (.int (g : Int)))) : (xIf (xTest (fInt iEq) (xOp2 (fInt iMod) (xVar 12) (xLit (.int 2))) (xLit (.int 1))) (xLit (.int 1)) (xIf (xTest (fInt iEq) (xOp2 (fInt iMod) (xOp2 (fInt iDiv) (xVar 12) (xLit (.int 2))) (xLit (.int 2))) (xLit (.int 1))) (xLit (.int 2)) (xLit (.int 4)))) us H = some (.int (lowF g : Nat), H) := by
  unfold lowF
  have m1 := mod_nat g 2 H (by omega)
  have d1 := div_nat g 2 H (by omega) (by omega)
  have m2 := mod_nat (g / 2) 2 H (by omega)
  by_cases h1 : g % 2 = 1
  · rw [if_pos h1]
    exact e_ift (e_test (e_op (e_var h) e_lit m1) e_lit (eqI_t (j := 1) h1)) e_lit
  · rw [if_neg h1]
    refine e_iff (e_test (e_op (e_var h) e_lit m1) e_lit (eqI_f (j := 1) h1)) ?_
    by_cases h2 : g / 2 % 2 = 1
    · rw [if_pos h2]
      exact e_ift (e_test (e_op (e_op (e_var h) e_lit d1) e_lit m2) e_lit (eqI_t (j := 1) h2)) e_lit
    · rw [if_neg h2]
      exact e_iff (e_test (e_op (e_op (e_var h) e_lit d1) e_lit m2) e_lit (eqI_f (j := 1) h2)) e_lit
theorem fig_val {h b j : Nat} (hj : j < 3) : (h * 512 + b) / 8 ^ (2 - j) % 8 = figB b j := by
  unfold figB
  rcases or3 hj with rfl | rfl | rfl
  · show (h * 512 + b) / 64 % 8 = b / 64 % 8
    rw [show h * 512 + b = b + 64 * (8 * h) by omega, Nat.add_mul_div_left _ _ (by omega), Nat.add_mul_mod_self_left]
  · show (h * 512 + b) / 8 % 8 = b / 8 % 8
    rw [show h * 512 + b = b + 8 * (8 * (8 * h)) by omega, Nat.add_mul_div_left _ _ (by omega), Nat.add_mul_mod_self_left]
  · show (h * 512 + b) / 1 % 8 = b / 1 % 8
    rw [Nat.div_one, Nat.div_one, show h * 512 + b = b + 8 * (8 * (8 * h)) by omega, Nat.add_mul_mod_self_left]
noncomputable def keep1 (f : Str → Option D) (w : List Nat) (v : Nat) : Str → Option D := fun y => if y = S w then some (.int (v : Nat)) else f y
section
variable {C : Addr} {H : Hp} {a : Ad} {s : Nat → LS} {o : Nat → CO} {W M : D} {j : Nat} {w : List Nat} {a4 a9 a11 a12 a13 a14 : Option D}
theorem dkA_ok {m h' b : Nat} {nm : List Nat} {f : Str → Option D} {ws : Nat → List Nat} (i : DI C H a s o) (ap : Apart a) (h1 : o 1 = .list (heldL ws)) (h0 : o 0 = .dict m f) (hm : m ≤ 1000) (hj : j < 3) (hb : b < 8 ^ (3 - j)) (hn : nm.length = 2) (hwl : w = nm ++ rowB h' b) (hf : f (S w) = some (.int ((h' * 512 + b : Nat) : Int))) (hg : figB b j ≠ 0) :
    ∃ H' b12 b13 b14, dkA (dv a W M a4 a9 (some (.int (j : Int))) (some (dS w)) a12 a13 a14) H = some (.next, dv a W M a4 a9 (some (.int (j : Int))) (some (dS w)) b12 b13 b14, H') ∧
      DI C H' a s (up (up o 1 (.list (heldL (up ws j (nm ++ rowB h' (lessB b j)))))) 0 (.dict (m + 1) (keep1 f (nm ++ rowB h' (lessB b j)) (h' * 512 + lessB b j)))) := by
  obtain ⟨l1, l2, l3, l4⟩ := less_ok hj hb hg
  have p := p8 j hj
  have hb5 : b < 512 := by
    rcases or3 hj with rfl | rfl | rfl <;> simp at hb <;> omega
  have hd := i.ob 0 (by omega)
  rw [h0] at hd
  have e1 : fItem (.own (a.id 0)) (dS w) H = some (.int ((h' * 512 + b : Nat) : Int)) := (fItem_dict hd).trans hf
  have e2 : fInt iSub (.int 2) (.int (j : Int)) H = some (.int ((2 - j : Nat) : Int)) := sub_nat 2 j H (by omega)
  have e3 : fInt iPow (.int 8) (.int ((2 - j : Nat) : Int)) H = some (.int ((8 ^ (2 - j) : Nat) : Int)) := pow_nat 8 (2 - j) H (by omega) (by omega)
  have e4 := div_nat (h' * 512 + b) (8 ^ (2 - j)) H p.1 (by omega)
  have e5 : fInt iMod (.int (((h' * 512 + b) / 8 ^ (2 - j) : Nat) : Int)) (.int 8) H = some (.int (figB b j : Nat)) := by
    rw [← fig_val (h := h') hj]; exact mod_nat _ 8 H (by omega)
  have e6 := mul_nat (lowF (figB b j)) (8 ^ (2 - j)) H (by have := (low_le _ (fig_lt b j) hg).1; have := fig_lt b j; omega) (by omega)
  have e7 : fInt iSub (.int ((h' * 512 + b : Nat) : Int)) (.int ((lowF (figB b j) * 8 ^ (2 - j) : Nat) : Int)) H = some (.int ((h' * 512 + lessB b j : Nat) : Int)) := by
    rw [sub_nat _ _ H (by omega)]
    unfold lessB
    rw [Nat.add_sub_assoc l1]
  have hlow : lessB b j < 512 := Nat.lt_of_le_of_lt (Nat.sub_le _ _) hb5
  obtain ⟨J, e8⟩ := filemode_row (h' * 512 + lessB b j) H
  rw [row_B _ _ hlow] at e8
  have e9 : fSlice (dS w) none (some 2) none H = some (dS nm) := by
    have := take_sl (l := w) 2 (H := H) (by rw [hwl, List.length_append, hn, rowB_len]; omega)
    rw [hwl, List.take_left' hn] at this
    rw [hwl]; exact this
  have e10 : fAdd (dS nm) (dS (rowB h' (lessB b j))) (H ++ J) = some (dS (nm ++ rowB h' (lessB b j))) := fAdd_str (by rw [hn, rowB_len]; omega)
  have i1 := i.app J
  have hl := i1.ob 1 (by omega)
  rw [h1] at hl
  have st1 := set_list (d := dS (nm ++ rowB h' (lessB b j))) hl (i := j) (by simp [heldL]; omega) (by simp [heldL])
  rw [heldL_set hj] at st1
  have i2 := i1.set ap (p := 1) (by omega) (.list (heldL (up ws j (nm ++ rowB h' (lessB b j)))))
  have hd2 := i2.ob 0 (by omega)
  rw [up_ne (by omega), h0] at hd2
  have hl2 := i2.ob 1 (by omega)
  rw [up_same] at hl2
  have e11 : fItem (.own (a.id 1)) (.int (j : Int)) ((H ++ J).set (a.id 1) (.list (heldL (up ws j (nm ++ rowB h' (lessB b j)))))) = some (dS (nm ++ rowB h' (lessB b j))) := by
    have := fItem_own hl2 (heldL_get hj) (by omega)
    rw [up_same] at this
    exact this
  have st2 := set_dict (w := nm ++ rowB h' (lessB b j)) (d := .int ((h' * 512 + lessB b j : Nat) : Int)) hd2 (by omega)
  refine ⟨_, _, _, _, e_seq (e_asg (e_op (e_op (e_op (e_var rfl) (e_var rfl) e1) (e_op e_lit (e_op e_lit (e_var rfl) e2) e3) e4) e_lit e5)) (e_seq (e_asg (low_eval rfl))
    (e_seq (e_asg (e_op (e_op (e_var rfl) (e_var rfl) e1) (e_op (e_var rfl) (e_op e_lit (e_op e_lit (e_var rfl) e2) e3) e6) e7))
    (e_seq (e_seti (e_op (e_slice (e_var rfl) e_pn (e_ps e_lit) e_pn e9) (e_call (e_cons (e_var rfl) e_nil) e8) e10) (e_var rfl) (e_var rfl) st1)
    (e_fin (e_seti (e_var rfl) (e_var rfl) (e_op (e_var rfl) (e_var rfl) e11) st2))))), i2.set ap (p := 0) (by omega) _⟩
/-- the marks -/
noncomputable def markD (m : Nat × Int × List (List Nat)) : D := .tup [.int (m.1 : Int), .int m.2.1, .lst (m.2.2.map dS)]
theorem dkMark_ok {a10 : Option D} {l : List (Nat × Int × List (List Nat))} (i : DI C H a s o) (ap : Apart a) (ho : o 2 = .list (l.map markD)) (hl : l.length < 1000) (hp : (s 0).push.length < 1000) :
    ∃ H', dkMark C (dv a W M a4 a9 a10 a11 a12 a13 a14) H = some (.next, dv a W M a4 a9 a10 a11 a12 a13 a14, H') ∧ DI C H' a s (up o 2 (.list ((l ++ [((s 0).text.length, (s 0).line, (s 0).push)]).map markD))) := by
  have x := i.lex 0 (by omega)
  have h := i.ob 2 (by omega)
  rw [ho] at h
  have g1 := x.gInstream
  have g2 := x.gLeft
  have g3 := x.gLine
  have g4 := x.gPb
  have n1 : gLen [.own (a.x 0).lf] H = some (.int ((s 0).text.length : Nat), H) := by
    show ((itsOf (.own (a.x 0).lf) H).bind fun xs => if xs.length ≤ 1000000 then some (D.int xs.length, H) else none) = _
    rw [show itsOf (.own (a.x 0).lf) H = some ((s 0).text.map fun c => dS [c]) by show (match H[(a.x 0).lf]? with | some (.list xs) => some xs | _ => none) = _; rw [x.left], Option.bind_some, if_pos (by rw [List.length_map]; have := x.len; omega), List.length_map]
  have n2 : gList [.own (a.x 0).pb] H = some (.lst ((s 0).push.map dS), H) := by
    show ((itsOf (.own (a.x 0).pb) H).bind fun xs => if xs.length ≤ 1000000 then some (D.lst xs, H) else none) = _
    rw [show itsOf (.own (a.x 0).pb) H = some ((s 0).push.map dS) by show (match H[(a.x 0).pb]? with | some (.list xs) => some xs | _ => none) = _; rw [x.pb], Option.bind_some, if_pos (by rw [List.length_map]; omega)]
  have a1 := append_own (d := markD ((s 0).text.length, (s 0).line, (s 0).push)) h (by rw [List.length_map]; omega)
  have e : (l ++ [((s 0).text.length, (s 0).line, (s 0).push)]).map markD = l.map markD ++ [markD ((s 0).text.length, (s 0).line, (s 0).push)] := by simp
  rw [e]
  exact ⟨_, e_do (e_meth (e_var rfl) (isOwnL_own h) (e_cons (e_tup (e_cons (e_call (e_cons (e_attr (e_attr (e_var rfl) g1) g2) e_nil) n1) (e_cons (e_attr (e_var rfl) g3) (e_cons (e_call (e_cons (e_attr (e_var rfl) g4) e_nil) n2) e_nil))) rfl) e_nil) a1), i.set ap (p := 2) (by omega) _⟩
end
end Mine
open PySem PySem.W PyProof.Rows
set_option maxRecDepth 100000
namespace Mine
/-! law 01: what the first lexer reads -/
theorem escL_fst (M : Nat) (w : List Nat) (h : w.length = 12) : (escL M w).map (·.2) = w := by
  unfold escL
  rw [List.map_map]
  refine List.ext_getElem? fun k => ?_
  by_cases hk : k < 12
  · rw [List.getElem?_map, List.getElem?_range hk, Option.map_some]
    simp only [Function.comp]
    rw [List.getD_eq_getElem?_getD, List.getElem?_eq_getElem (by omega)]; rfl
  · rw [List.getElem?_eq_none (by simp; omega), List.getElem?_eq_none (by omega)]
theorem lead1_ws (M : Nat) : ∀ c ∈ lead1 M, c ∈ ws1 := by
  have key : ∀ k < 4, ∀ c ∈ (([[], [32], [10], [13, 9]] : List (List Nat)).getD k []), c ∈ ws1 := by decide
  exact key _ (Nat.mod_lt _ (by omega))
theorem bl1_ws {c : Nat} : c ∈ ws1 ↔ c ∈ bl1 := ⟨(by decide : ∀ c ∈ ws1, c ∈ bl1) c, (by decide : ∀ c ∈ bl1, c ∈ ws1) c⟩
theorem piece_ok {M : Nat} {w : List Nat} : PieceOk ws1 (lead1 M) (qOf M) (escL M w) := by
  have key : ∀ p ∈ escL M w, ∃ k < 12, p = (escq (qOf M) bl1 k (w.getD k 0) M, w.getD k 0) := by
    intro p hp
    obtain ⟨k, hk, rfl⟩ := List.mem_map.mp hp
    exact ⟨k, List.mem_range.mp hk, rfl⟩
  refine ⟨lead1_ws M, by decide, by decide, fun hq p hp h0 => ?_, fun hq p hp h0 => ?_, fun hq => ?_⟩
  · obtain ⟨k, hk, rfl⟩ := key p hp
    unfold escq at h0
    simp only [hq, if_true, Bool.or_eq_false_iff, decide_eq_false_iff_not, List.mem_cons, List.not_mem_nil, or_false, not_or] at h0
    exact ⟨h0.1.1.1, h0.1.1.2⟩
  · obtain ⟨k, hk, rfl⟩ := key p hp
    unfold escq at h0
    simp only [hq, Bool.false_eq_true, if_false, Bool.or_eq_false_iff, decide_eq_false_iff_not, List.mem_cons, not_or] at h0
    exact ⟨fun h => h0.1.1.2 (bl1_ws.mp h), h0.1.1.1⟩
  · refine ⟨(escq (qOf M) bl1 0 (w.getD 0 0) M, w.getD 0 0), (((List.range 12).drop 1).map fun k => (escq (qOf M) bl1 k (w.getD k 0) M, w.getD k 0)), rfl, fun h0 => ?_⟩
    unfold escq at h0
    simp only [Bool.or_eq_false_iff, Bool.and_eq_false_iff] at h0
    rcases h0.1.2 with h | h
    · simpa using h
    · simp at h
section
variable {ms : List Nat} {ws : List (List Nat)}
noncomputable def parts1 (ms : List Nat) (ws : List (List Nat)) : List (List Nat) := piecesT ms ws 4 ++ lastT (ms.getD 3 0)
theorem lastT_two (M : Nat) : ∃ u v, lastT M = [u, v] ∧ lexTok ws1 (u ++ v) = ([], v) ∧ lexTok ws1 v = ([], []) ∧ (M / 4 % 4 < 2 → u = [] ∧ v = []) := by
  unfold lastT
  by_cases h : M / 4 % 4 < 2
  · rw [if_pos h]; exact ⟨[], [], rfl, rfl, rfl, fun _ => ⟨rfl, rfl⟩⟩
  · rw [if_neg h]
    have key : ∀ k < 4, ∃ u v, (([[[], []], [[32, 13, 10], []], [[34, 34], []], [[9, 34, 34], [10, 32]]] : List (List (List Nat))).getD k []) = [u, v] ∧ lexTok ws1 (u ++ v) = ([], v) ∧ lexTok ws1 v = ([], []) := by
      intro k hk
      rcases or4 hk with rfl | rfl | rfl | rfl
      · exact ⟨[], [], rfl, rfl, rfl⟩
      · exact ⟨[32, 13, 10], [], rfl, by decide, rfl⟩
      · exact ⟨[34, 34], [], rfl, by decide, rfl⟩
      · exact ⟨[9, 34, 34], [10, 32], rfl, by decide, by decide⟩
    obtain ⟨u, v, a, b, c⟩ := key _ (Nat.mod_lt (M / 32) (by omega : 0 < 4))
    exact ⟨u, v, a, b, c, fun q => absurd q h⟩
theorem parts1_len (ms : List Nat) (ws : List (List Nat)) : (parts1 ms ws).length = 6 := by
  obtain ⟨u, v, e, _⟩ := lastT_two (ms.getD 3 0)
  unfold parts1
  rw [e]
  rfl
/-- the text from the n-th part on -/
noncomputable def tx1 (ms : List Nat) (ws : List (List Nat)) (n : Nat) : List Nat := ((parts1 ms ws).drop n).flatten
noncomputable def tk1 (ws : List (List Nat)) (n : Nat) : List Nat := if n < 4 then ws.getD n [] else []
theorem tx1_step (n : Nat) (hn : n < 4) : tx1 ms ws n = pieceT (ms.getD n 0) (ws.getD n []) n ++ tx1 ms ws (n + 1) := by
  rcases or4 hn with rfl | rfl | rfl | rfl <;> rfl
theorem lex_word1 (hw : ∀ n < 4, (ws.getD n []).length = 12) (n : Nat) : lexTok ws1 (tx1 ms ws n) = (tk1 ws n, tx1 ms ws (n + 1)) := by
  obtain ⟨u, v, e, h1, h2, h3⟩ := lastT_two (ms.getD 3 0)
  have p4 : tx1 ms ws 4 = u ++ v := by
    unfold tx1 parts1
    rw [e]
    show [u, v].flatten = _
    simp
  have p5 : tx1 ms ws 5 = v := by
    unfold tx1 parts1
    rw [e]
    show [v].flatten = _
    simp
  by_cases hn : n < 4
  · unfold tk1
    rw [if_pos hn, tx1_step n hn]
    unfold pieceT
    rw [List.append_assoc]
    have ok := piece_ok (M := ms.getD n 0) (w := ws.getD n [])
    have ef := escL_fst (ms.getD n 0) (ws.getD n []) (hw n hn)
    by_cases h : n = 3 ∧ ms.getD n 0 / 4 % 4 < 2
    · have h4 : tx1 ms ws (n + 1) = [] := by
        have hh := h.2
        rw [h.1] at hh
        rw [h.1, p4, (h3 hh).1, (h3 hh).2]; rfl
      rw [h4, List.append_nil]
      have ht : tailOf (ms.getD n 0) n = [] ∨ tailOf (ms.getD n 0) n = [92] := by
        unfold tailOf
        rw [if_pos h]
        split
        · exact .inl rfl
        · exact .inr rfl
      rw [lex_open ok _ ht, ef]
    · have ht : tailOf (ms.getD n 0) n = [if qOf (ms.getD n 0) then 34 else bl1.getD (ms.getD n 0 / 4 % 4) 0] := by
        unfold tailOf
        rw [if_neg h]
        cases qOf (ms.getD n 0) <;> rfl
      rw [ht]
      have := lex_closed ok (if qOf (ms.getD n 0) then 34 else bl1.getD (ms.getD n 0 / 4 % 4) 0) (by
        cases qOf (ms.getD n 0) with
        | true => rfl
        | false =>
          have key : ∀ k < 4, bl1.getD k 0 ∈ ws1 := by decide
          exact key _ (Nat.mod_lt _ (by omega))) (tx1 ms ws (n + 1))
      rw [ef] at this
      exact this
  · unfold tk1
    rw [if_neg hn]
    by_cases h4 : n = 4
    · rw [h4, p4, p5]; exact h1
    · by_cases h5 : n = 5
      · rw [h5, p5, h2]
        have : tx1 ms ws 6 = [] := by
          unfold tx1
          rw [List.drop_of_length_le (by rw [parts1_len]; exact Nat.le_refl _)]; rfl
        rw [this]
      · have z : ∀ k, 6 ≤ k → tx1 ms ws k = [] := fun k hk => by
          unfold tx1
          rw [List.drop_of_length_le (by rw [parts1_len]; exact hk)]; rfl
        rw [z n (by omega), z (n + 1) (by omega)]; rfl
end
end Mine
open PySem PySem.W PyProof.Rows
set_option maxRecDepth 100000
namespace Mine
/-! the files and the desks -/
structure Fs where
  nm : Nat → List Nat
  h : Nat → Nat
  b : Nat → Nat
structure Fs.Ok (g : Fs) : Prop where
  len : ∀ n, (g.nm n).length = 2
  okS : ∀ n, OkS (g.nm n)
  lt : ∀ n, g.b n < 512
noncomputable def Fs.W (g : Fs) (n b : Nat) : List Nat := g.nm n ++ rowB (g.h n) b
noncomputable def Fs.c (g : Fs) (n k : Nat) : Nat := cntB (g.b n) k
/-- its rights where it comes to the desk -/
noncomputable def Fs.at (g : Fs) (n k : Nat) : Nat := g.b n % 8 ^ (3 - k)
theorem cnt_at (g : Fs) (n k : Nat) (hk : k < 3) : cntB (g.at n k) k = g.c n k := by
  have p := p8 k hk
  unfold Fs.c cntB figB Fs.at
  rw [p.2.2, Nat.mul_comm 8, Nat.mod_mul_right_div_self, Nat.mod_mod]
theorem at_lt (g : Fs) (n k : Nat) : g.at n k < 8 ^ (3 - k) := Nat.mod_lt _ (Nat.pow_pos (by omega))
theorem at_mod (g : Fs) (n k : Nat) (hk : k < 3) : g.at n k % 8 ^ (2 - k) = g.at n (k + 1) := by
  have p := p8 k hk
  unfold Fs.at
  rw [show 3 - (k + 1) = 2 - k by omega, p.2.2, Nat.mul_comm 8]
  exact Nat.mod_mul_right_mod _ _ _
inductive Held (g : Fs) (k T M : Nat) (w : List Nat) : Prop
  | busy (b : Nat) : M < 4 → w = g.W M b → b < 8 ^ (3 - k) → b % 8 ^ (2 - k) = g.at M (k + 1) → cntB b k + T = dep g.c M k → Held g k T M w
  | idle : w = [] → (M < 4 → T ≤ arr g.c M k) → Held g k T M w
structure GoneAt (g : Fs) (k T M : Nat) : Prop where
  le : M ≤ 4
  old : ∀ n < M, dep g.c n k < T
  new : M < 4 → T ≤ dep g.c M k
noncomputable def goneL (g : Fs) (k M : Nat) : List (Nat × List Nat) := (List.range M).map fun n => (dep g.c n k, g.W n (g.at n (k + 1)))
theorem goneL_succ (g : Fs) (k M : Nat) : goneL g k (M + 1) = goneL g k M ++ [(dep g.c M k, g.W M (g.at M (k + 1)))] := by
  unfold goneL
  rw [List.range_succ, List.map_append]; rfl
theorem arr_le {c : Nat → Nat → Nat} {M k T : Nat} (h1 : ∀ m, M = m + 1 → dep c m k ≤ T) (h2 : ∀ j, k = j + 1 → dep c M j ≤ T) : arr c M k ≤ T := by
  cases M with
  | zero => cases k with
    | zero => rw [arr]; exact Nat.zero_le _
    | succ k => rw [arr]; exact h2 k rfl
  | succ M => cases k with
    | zero => rw [arr]; exact h1 M rfl
    | succ k => rw [arr]; exact Nat.max_le.mpr ⟨h1 M rfl, h2 k rfl⟩
section
variable {g : Fs} {k T M : Nat} {w : List Nat}
/-- a right is taken off -/
theorem turn_stay {b : Nat} (hk : k < 3) (hM : M < 4) (hb : b < 8 ^ (3 - k)) (hm : b % 8 ^ (2 - k) = g.at M (k + 1)) (hc : cntB b k + T = dep g.c M k) (hf : figB b k ≠ 0) (G : GoneAt g k T M) :
    Held g k (T + 1) M (g.W M (lessB b k)) ∧ GoneAt g k (T + 1) M := by
  obtain ⟨l1, l2, l3, l4⟩ := less_ok hk hb hf
  exact ⟨.busy _ hM rfl l2 (l3.trans hm) (by omega), ⟨G.le, fun n hn => Nat.lt_succ_of_lt (G.old n hn), fun _ => by omega⟩⟩
/-- the file leaves -/
theorem turn_leave {b : Nat} (hk : k < 3) (hM : M < 4) (hb : b < 8 ^ (3 - k)) (hm : b % 8 ^ (2 - k) = g.at M (k + 1)) (hc : cntB b k + T = dep g.c M k) (hf : figB b k = 0) (G : GoneAt g k T M) :
    b = g.at M (k + 1) ∧ dep g.c M k = T ∧ GoneAt g k (T + 1) (M + 1) := by
  have hz : cntB b k = 0 := by unfold cntB; rw [hf]; rfl
  obtain ⟨_, e⟩ := cnt_none hk hb hz
  have hd : dep g.c M k = T := by omega
  refine ⟨e.symm.trans hm, hd, ⟨hM, fun n hn => ?_, fun h => ?_⟩⟩
  · rcases Nat.lt_succ_iff_lt_or_eq.mp hn with q | q
    · exact Nat.lt_succ_of_lt (G.old n q)
    · rw [q, hd]; exact Nat.lt_succ_self _
  · have h1 := arr_up (c := g.c) M k
    have h2 := dep_arr (c := g.c) (M + 1) k
    omega
/-- the next one is taken, or none -/
theorem fetch (hk : k < 3) (hold : ∀ m, M = m + 1 → dep g.c m k ≤ T) (harr : M < 4 → T ≤ arr g.c M k) (line : List (List Nat)) (avail : Prop) (ha : M < 4 → avail → ∀ j, k = j + 1 → dep g.c M j ≤ T) (hn : M < 4 → ¬ avail → ∃ j, k = j + 1 ∧ T + 1 ≤ dep g.c M j) {tok : List Nat}
    (ht : (M < 4 → avail → tok = g.W M (g.at M k)) ∧ (M < 4 → ¬ avail → tok = []) ∧ (¬ M < 4 → tok = [])) : Held g k (T + 1) M tok := by
  by_cases hM : M < 4
  · by_cases h : avail
    · refine .busy (g.at M k) hM (ht.1 hM h) (at_lt g M k) (at_mod g M k hk) ?_
      have h1 := arr_le hold (ha hM h)
      have h2 := harr hM
      rw [cnt_at g M k hk, dep_arr]
      omega
    · refine .idle (ht.2.1 hM h) fun _ => ?_
      obtain ⟨j, e, h1⟩ := hn hM h
      rw [e]
      exact Nat.le_trans h1 (arr_left M j)
  · exact .idle (ht.2.2 hM) fun h => absurd h hM
theorem gone_idle (G : GoneAt g k T M) (h : M < 4 → T ≤ arr g.c M k) : GoneAt g k (T + 1) M :=
  ⟨G.le, fun n hn => Nat.lt_succ_of_lt (G.old n hn), fun hM => by have := h hM; have := dep_arr (c := g.c) M k; omega⟩
end
end Mine
open PySem PySem.W PyProof.Rows
set_option maxRecDepth 100000
namespace Mine
/-! the dict of the words that were seen -/
noncomputable def KHas (f : Str → Option D) (w : List Nat) : Prop := (f (S w)).isSome = true
noncomputable def KInv (f : Str → Option D) : Prop := ∀ w v, f (S w) = some v → ∃ nm h b, nm.length = 2 ∧ b < 512 ∧ w = nm ++ rowB h b ∧ v = .int ((h * 512 + b : Nat) : Int)
structure KI (g : Fs) (f : Str → Option D) (M : Nat → Nat) (w : Nat → List Nat) : Prop where
  inv : KInv f
  tok : ∀ n < 4, KHas f (g.W n (g.at n 0))
  gone : ∀ k < 3, ∀ n < M k, KHas f (g.W n (g.at n (k + 1)))
  held : ∀ k < 3, w k ≠ [] → KHas f (w k)
section
variable {g : Fs} {f : Str → Option D} {M : Nat → Nat} {w : Nat → List Nat}
theorem keep1_has {u : List Nat} {v : Nat} {x : List Nat} (h : KHas f x) : KHas (keep1 f u v) x := by
  unfold KHas keep1
  split
  · rfl
  · exact h
theorem keep1_self {u : List Nat} {v : Nat} : KHas (keep1 f u v) u := by
  unfold KHas keep1
  rw [if_pos rfl]; rfl
theorem keep1_inv {nm : List Nat} {h b : Nat} (hn : nm.length = 2) (hb : b < 512) (i : KInv f) : KInv (keep1 f (nm ++ rowB h b) (h * 512 + b)) := by
  intro x v e
  unfold keep1 at e
  split at e
  · rename_i q
    exact ⟨nm, h, b, hn, hb, S_inj.mp q, (Option.some.inj e).symm⟩
  · exact i x v e
/-- the value of a word that is known -/
theorem KI.val (i : KI g f M w) (ok : g.Ok) {n b : Nat} (hb : b < 512) (h : KHas f (g.W n b)) : ∃ h', f (S (g.W n b)) = some (.int ((h' * 512 + b : Nat) : Int)) ∧ ∀ t, rowB h' t = rowB (g.h n) t := by
  obtain ⟨v, e⟩ := Option.isSome_iff_exists.mp h
  obtain ⟨nm, h', b', h1, h2, h3, h4⟩ := i.inv _ _ e
  unfold Fs.W at h3
  obtain ⟨e1, e2⟩ := List.append_inj h3 ((ok.len n).trans h1.symm)
  obtain ⟨e3, e4⟩ := rowB_inj hb h2 e2
  exact ⟨h', by rw [e, h4, e3], fun t => (e4 t).symm⟩
theorem W_len (ok : g.Ok) (n b : Nat) : (g.W n b).length = 12 := by unfold Fs.W; rw [List.length_append, ok.len, rowB_len]
theorem W_ne (ok : g.Ok) (n b : Nat) : g.W n b ≠ [] := fun e => by have := W_len ok n b; rw [e] at this; cases this
theorem W_okS (ok : g.Ok) (n b : Nat) : OkS (g.W n b) := fun c hc => by
  rcases List.mem_append.mp hc with h | h
  · exact ok.okS n c h
  · exact Nat.lt_trans (rowB_small _ _ c h) (by decide)
theorem W_hasR (ok : g.Ok) {n b j : Nat} (hj : j < 3) : hasR j (g.W n b) = decide (figB b j ≠ 0) := hasR_word (ok.len n) hj
theorem b_lt {b j : Nat} (hj : j < 3) (hb : b < 8 ^ (3 - j)) : b < 512 := by
  rcases or3 hj with rfl | rfl | rfl
  · exact hb
  · exact Nat.lt_trans hb (by decide)
  · exact Nat.lt_trans hb (by decide)
end
/-! the lines -/
noncomputable def lineL (g : Fs) (k N A : Nat) : List (List Nat) := (List.range' N (A - N)).map fun n => g.W n (g.at n k)
theorem lineL_cons {g : Fs} {k N A : Nat} (h : N < A) : lineL g k N A = g.W N (g.at N k) :: lineL g k (N + 1) A := by
  unfold lineL
  rw [show A - N = (A - (N + 1)) + 1 by omega, List.range'_succ]; rfl
theorem lineL_nil {g : Fs} {k N A : Nat} (h : A ≤ N) : lineL g k N A = [] := by
  unfold lineL
  rw [Nat.sub_eq_zero_of_le h]; rfl
theorem lineL_snoc {g : Fs} {k N A : Nat} (h : N ≤ A) : lineL g k N (A + 1) = lineL g k N A ++ [g.W A (g.at A k)] := by
  unfold lineL
  rw [show A + 1 - N = (A - N) + 1 by omega, List.range'_concat, List.map_append, Nat.one_mul, show N + (A - N) = A by omega]; rfl
theorem lineL_len {g : Fs} {k N A : Nat} : (lineL g k N A).length = A - N := by unfold lineL; rw [List.length_map, List.length_range']
noncomputable def nx (M : Nat) (w : List Nat) : Nat := if w = [] then M else M + 1
structure LineK (g : Fs) (k N A : Nat) (s : LS) : Prop where
  ws : s.ws = ws1
  text : s.text = []
  le : N ≤ A
  push : s.push = lineL g k N A
structure Rd (g : Fs) (tk : Nat → List Nat) (tx : Nat → List Nat) : Prop where
  lex : ∀ n, lexTok ws1 (tx n) = (tk n, tx (n + 1))
  file : ∀ n < 4, tk n = g.W n (g.at n 0)
  none : ∀ n, 4 ≤ n → tk n = []
  fin : ∀ n, 6 ≤ n → tx n = []
structure Line0 (tk : Nat → List Nat) (tx : Nat → List Nat) (tot : Int) (T M : Nat) (w : List Nat) (s : LS) : Prop where
  ws : s.ws = ws1
  tot : s.tot = tot
  pos : (T = 0 ∧ M = 0 ∧ w = [] ∧ s.push = [] ∧ s.text = tx 0) ∨ (0 < T ∧ (M < 4 → w ≠ []) ∧ s.push = [tk (M + 1)] ∧ s.text = tx (M + 2))
/-- a line of words only: the next word -/
theorem LineK.take {g : Fs} {k N A : Nat} {s : LS} (l : LineK g k N A s) : (N < A → s.tok = g.W N (g.at N k) ∧ LineK g k (N + 1) A s.nxt) ∧ (¬ N < A → s.tok = [] ∧ LineK g k N A s.nxt) := by
  constructor
  · intro h
    have hp := l.push
    rw [lineL_cons h] at hp
    unfold LS.tok LS.nxt
    rw [hp]
    exact ⟨rfl, ⟨l.ws, l.text, h, rfl⟩⟩
  · intro h
    have hp := l.push
    rw [lineL_nil (Nat.not_lt.mp h)] at hp
    unfold LS.tok LS.nxt
    rw [hp]
    dsimp only
    rw [l.ws, l.text]
    exact ⟨rfl, ⟨rfl, rfl, l.le, (lineL_nil (Nat.not_lt.mp h)).symm⟩⟩
theorem LineK.more {g : Fs} {k N A : Nat} {s : LS} (l : LineK g k N A s) : LineK g k N (A + 1) { s with push := s.push ++ [g.W A (g.at A k)] } :=
  ⟨l.ws, l.text, Nat.le_succ_of_le l.le, by show s.push ++ _ = _; rw [l.push, lineL_snoc l.le]⟩
end Mine
open PySem PySem.W PyProof.Rows
set_option maxRecDepth 100000
namespace Mine
section
variable {g : Fs} {tk tx : Nat → List Nat} {tot : Int} {t : Nat}
theorem takeK {j N A : Nat} {s : LS} (ok : g.Ok) (hk : j + 1 < 3) (l : LineK g (j + 1) N A s) (G : GoneAt g j (t + 1) A) (hold : ∀ m, N = m + 1 → dep g.c m (j + 1) ≤ t) (harr : N < 4 → t ≤ arr g.c N (j + 1)) :
    Held g (j + 1) (t + 1) N s.tok ∧ LineK g (j + 1) (nx N s.tok) A s.nxt ∧ (s.tok ≠ [] → N < A ∧ s.tok = g.W N (g.at N (j + 1))) := by
  have tk := l.take
  by_cases h : N < A
  · obtain ⟨e1, l1⟩ := tk.1 h
    have hN : N < 4 := Nat.lt_of_lt_of_le h G.le
    refine ⟨fetch hk hold harr [] (N < A) (fun _ h q e => ?_) (fun _ q => absurd h q) ⟨fun _ _ => e1, fun _ q => absurd h q, fun q => absurd hN q⟩, ?_, fun _ => ⟨h, e1⟩⟩
    · cases e
      exact Nat.le_of_lt_succ (G.old N h)
    · unfold nx
      rw [e1, if_neg (W_ne ok _ _)]; exact l1
  · obtain ⟨e1, l1⟩ := tk.2 h
    have eA : N = A := Nat.le_antisymm l.le (Nat.not_lt.mp h)
    refine ⟨fetch hk hold harr [] (N < A) (fun _ q => absurd q h) (fun hN _ => ⟨j, rfl, ?_⟩) ⟨fun _ q => absurd q h, fun _ _ => e1, fun _ => e1⟩, ?_, fun q => absurd e1 q⟩
    · rw [eA] at hN ⊢
      exact G.new hN
    · unfold nx
      rw [e1, if_pos rfl]; exact l1
/-- what desk 0 does at the end of its turn -/
noncomputable def look (s : LS) : LS := { s.nxt with push := s.nxt.push ++ [s.tok] }
theorem take0 {T M N : Nat} {w : List Nat} {s : LS} (ok : g.Ok) (r : Rd g tk tx) (l : Line0 tk tx tot T M w s) (hN : (w = [] → N = M ∧ (0 < T → M = 4)) ∧ (w ≠ [] → N = M + 1 ∧ M < 4)) (hold : ∀ m, N = m + 1 → dep g.c m 0 ≤ T) (harr : N < 4 → T ≤ arr g.c N 0) :
    Held g 0 (T + 1) N s.tok ∧ Line0 tk tx tot (T + 1) N s.tok (look s.nxt) ∧ (s.tok ≠ [] → N < 4 ∧ s.tok = g.W N (g.at N 0)) := by
  have hh : ∀ tok : List Nat, tok = tk N → Held g 0 (T + 1) N tok := fun tok e =>
    fetch (by omega) hold harr [] True (fun _ _ j q => absurd q (Nat.succ_ne_zero j).symm) (fun _ q => absurd trivial q) ⟨fun h _ => e.trans (r.file N h), fun _ q => absurd trivial q, fun h => e.trans (r.none N (Nat.not_lt.mp h))⟩
  have hkn : ∀ tok : List Nat, tok = tk N → tok ≠ [] → N < 4 ∧ tok = g.W N (g.at N 0) := fun tok e q =>
    if h : N < 4 then ⟨h, e.trans (r.file N h)⟩ else absurd (e.trans (r.none N (Nat.not_lt.mp h))) q
  have hne : ∀ tok : List Nat, tok = tk N → N < 4 → tok ≠ [] := fun tok e h q => W_ne ok N (g.at N 0) ((r.file N h).symm.trans (e.symm.trans q))
  rcases l.pos with ⟨h1, h2, h3, h4, h5⟩ | ⟨h1, h2, h3, h4⟩
  · have eN : N = 0 := (hN.1 h3).1.trans h2
    have e1 : s.tok = tk N := by
      unfold LS.tok
      rw [h4, l.ws, h5, r.lex, eN]
    have e2 : s.nxt = { s with text := tx 1 } := by
      unfold LS.nxt
      rw [h4]
      dsimp only
      rw [l.ws, h5, r.lex]
    have e3 : look s.nxt = { s with text := tx 2, push := [tk 1] } := by
      rw [e2]
      unfold look LS.tok LS.nxt
      dsimp only
      rw [h4]
      dsimp only
      rw [l.ws, r.lex]; rfl
    refine ⟨hh _ e1, ?_, hkn _ e1⟩
    rw [e3]
    exact ⟨l.ws, l.tot, .inr ⟨Nat.succ_pos _, fun h => hne _ e1 h, by rw [eN], by rw [eN]⟩⟩
  · have e1 : s.tok = tk (M + 1) := by
      unfold LS.tok
      rw [h3]
    have e2 : s.nxt = { s with push := [] } := by
      unfold LS.nxt
      rw [h3]
    have e3 : look s.nxt = { s with text := tx (M + 3), push := [tk (M + 2)] } := by
      rw [e2]
      unfold look LS.tok LS.nxt
      dsimp only
      rw [l.ws, h4, r.lex]; rfl
    by_cases hw : w = []
    · obtain ⟨q1, q2⟩ := hN.1 hw
      have q2 := q2 h1
      have e4 : tk (M + 1) = tk N := by rw [q1, r.none _ (by omega), r.none _ (by omega)]
      refine ⟨hh _ (e1.trans e4), ?_, hkn _ (e1.trans e4)⟩
      rw [e3, q1]
      exact ⟨l.ws, l.tot, .inr ⟨Nat.succ_pos _, fun h => absurd h (by omega), by show [tk (M + 2)] = [tk (M + 1)]; rw [r.none _ (by omega), r.none _ (by omega)], by show tx (M + 3) = tx (M + 2); rw [r.fin _ (by omega), r.fin _ (by omega)]⟩⟩
    · obtain ⟨q1, q2⟩ := hN.2 hw
      rw [← q1] at e1
      refine ⟨hh _ e1, ?_, hkn _ e1⟩
      rw [e3, q1]
      rw [q1] at e1 hne
      exact ⟨l.ws, l.tot, .inr ⟨Nat.succ_pos _, fun h => hne _ e1 h, rfl, rfl⟩⟩
theorem stay0 {T M : Nat} {w w' : List Nat} {s : LS} (l : Line0 tk tx tot T M w s) (hw : w ≠ []) (hw' : w' ≠ []) : Line0 tk tx tot (T + 1) M w' (look s) := by
  rcases l.pos with ⟨h1, h2, h3, h4, h5⟩ | ⟨h1, h2, h3, h4⟩
  · exact absurd h3 hw
  · have e : look s = s := by
      obtain ⟨tx0, to, ws, pu⟩ := s
      unfold look LS.tok LS.nxt
      dsimp only at h3
      rw [h3]; rfl
    rw [e]
    exact ⟨l.ws, l.tot, .inr ⟨Nat.succ_pos _, fun _ => hw', h3, h4⟩⟩
end
end Mine
open PySem PySem.W PyProof.Rows
set_option maxRecDepth 100000
namespace Mine
section
variable {C : Addr} {H : Hp} {a : Ad} {s : Nat → LS} {o : Nat → CO} {W M : D} {j : Nat} {w : List Nat} {a4 a11 a12 a13 a14 : Option D} {t : Nat}
theorem tail_ok {a9 : Option D} (i : DI C H a s o) (ap : Apart a) (hj : j < 3) (hl : j = 0 → (s 0).push.length < 1000 ∧ (s 0).nxt.push.length < 1000) : ∃ H', xSeq (dk4 C) xSkip (dv a W M a4 a9 (some (.int (j : Int))) a11 a12 a13 a14) H = some (.next, dv a W M a4 a9 (some (.int (j : Int))) a11 a12 a13 a14, H') ∧ DI C H' a (if j = 0 then up s 0 (look (s 0)) else s) o := by
  by_cases h : j = 0
  · subst h
    obtain ⟨H', e, i'⟩ := dk4_ok (W := W) (M := M) (a4 := a4) (t := a9) (a11 := a11) (a12 := a12) (a13 := a13) (a14 := a14) i ap (hl rfl).1 (hl rfl).2
    rw [if_pos rfl]
    exact ⟨H', e_fin e, i'⟩
  · rw [if_neg h]
    exact ⟨H, e_fin (dk4_skip (a10 := none) h), i⟩
theorem else_leave {l : List (Nat × List Nat)} {ws : Nat → List Nat} (i : DI C H a s o) (ap : Apart a) (hj : j < 3) (ho : o (3 + j) = .list (l.map goneD)) (h1 : o 1 = .list (heldL ws)) (hw : OkS w) (hn : w ≠ []) (hl : l.length < 1000) (hp : ∀ k < 3, (s k).push.length < 1000) :
    ∃ H', xSeq dkB1 (xSeq (dkB2 C) (xSeq (dkB3 C) xSkip)) (dv a W M a4 (some (.int (t : Int))) (some (.int (j : Int))) (some (dS w)) a12 a13 a14) H = some (.next, dv a W M a4 (some (.int (t : Int))) (some (.int (j : Int))) (some (dS w)) a12 a13 a14, H') ∧
      DI C H' a (up (if j < 2 then up s (j + 1) { s (j + 1) with push := (s (j + 1)).push ++ [w] } else s) j (s j).nxt) (up (up o (3 + j) (.list ((l ++ [(t, w)]).map goneD))) 1 (.list (heldL (up ws j (s j).tok)))) := by
  have e1 := dkB1_ok (W := W) (M := M) (a4 := a4) (t := t) (a12 := a12) (a13 := a13) (a14 := a14) i ho hj hw hn hl
  have i1 := i.set ap (p := 3 + j) (by omega) (.list ((l ++ [(t, w)]).map goneD))
  have h1' : up o (3 + j) (.list ((l ++ [(t, w)]).map goneD)) 1 = .list (heldL ws) := (up_ne (by omega)).trans h1
  by_cases h2 : j < 2
  · rw [if_pos h2]
    obtain ⟨H2, e2, i2⟩ := dkB2_ok (W := W) (M := M) (a4 := a4) (t := some (.int (t : Int))) (a12 := a12) (a13 := a13) (a14 := a14) i1 ap h2 hw hn (hp (j + 1) (by omega))
    have q : up s (j + 1) { s (j + 1) with push := (s (j + 1)).push ++ [w] } j = s j := up_ne (by omega)
    obtain ⟨H3, e3, i3⟩ := dkB3_ok (W := W) (M := M) (a4 := a4) (t := some (.int (t : Int))) (a11 := some (dS w)) (a12 := a12) (a13 := a13) (a14 := a14) i2 ap h1' hj (by rw [q]; exact hp j hj)
    rw [q] at i3
    exact ⟨H3, e_seq e1 (e_seq e2 (e_fin e3)), i3⟩
  · rw [if_neg h2]
    obtain rfl : j = 2 := by omega
    have e2 := dkB2_last (C := C) (a := a) (W := W) (M := M) (a4 := a4) (t := some (.int (t : Int))) (a12 := a12) (a13 := a13) (a14 := a14) (H := H.set (a.id (3 + 2)) (.list ((l ++ [(t, w)]).map goneD))) hw
    obtain ⟨H3, e3, i3⟩ := dkB3_ok (W := W) (M := M) (a4 := a4) (t := some (.int (t : Int))) (a11 := some (dS w)) (a12 := a12) (a13 := a13) (a14 := a14) i1 ap h1' hj (hp 2 hj)
    exact ⟨H3, e_seq e1 (e_seq e2 (e_fin e3)), i3⟩
theorem else_idle {ws : Nat → List Nat} (i : DI C H a s o) (ap : Apart a) (hj : j < 3) (h1 : o 1 = .list (heldL ws)) (hp : ∀ k < 3, (s k).push.length < 1000) :
    ∃ H', xSeq dkB1 (xSeq (dkB2 C) (xSeq (dkB3 C) xSkip)) (dv a W M a4 (some (.int (t : Int))) (some (.int (j : Int))) (some (dS [])) a12 a13 a14) H = some (.next, dv a W M a4 (some (.int (t : Int))) (some (.int (j : Int))) (some (dS [])) a12 a13 a14, H') ∧
      DI C H' a (up s j (s j).nxt) (up o 1 (.list (heldL (up ws j (s j).tok)))) := by
  obtain ⟨H3, e3, i3⟩ := dkB3_ok (W := W) (M := M) (a4 := a4) (t := some (.int (t : Int))) (a11 := some (dS [])) (a12 := a12) (a13 := a13) (a14 := a14) i ap h1 hj (hp j hj)
  exact ⟨H3, e_seq dkB1_skip (e_seq dkB2_skip (e_fin e3)), i3⟩
end
/-- what holds between the turns -/
inductive DS (g : Fs) (C : Addr) (a : Ad) (tk tx : Nat → List Nat) (tot : Int) (mk : List (Nat × Int × List (List Nat))) (T M : Nat → Nat) (H : Hp) : Prop
  | mk (w : Nat → List Nat) (s : Nat → LS) (o : Nat → CO) (m : Nat) (f : Str → Option D) : DI C H a s o → o 0 = .dict m f → o 1 = .list (heldL w) → o 2 = .list (mk.map markD) → (∀ k < 3, o (3 + k) = .list ((goneL g k (M k)).map goneD)) →
      (∀ k < 3, Held g k (T k) (M k) (w k)) → (∀ k < 3, GoneAt g k (T k) (M k)) → KI g f M w → m ≤ 4 + T 0 + T 1 + T 2 → Line0 tk tx tot (T 0) (M 0) (w 0) (s 0) → (∀ k < 2, LineK g (k + 1) (nx (M (k + 1)) (w (k + 1))) (M k) (s (k + 1))) →
      DS g C a tk tx tot mk T M H
section
variable {g : Fs} {C : Addr} {a : Ad} {tk tx : Nat → List Nat} {tot : Int} {mk : List (Nat × Int × List (List Nat))} {T M : Nat → Nat} {H : Hp} {Wd Md : D} {a4 a11 a12 a13 a14 : Option D} {t j : Nat}
theorem up_sum {T : Nat → Nat} {j t : Nat} (hj : j < 3) (h : T j = t) : up T j (t + 1) 0 + up T j (t + 1) 1 + up T j (t + 1) 2 = T 0 + T 1 + T 2 + 1 := by
  rcases or3 hj with rfl | rfl | rfl <;> simp [up] <;> omega
theorem held_ok (ok : g.Ok) {k T M : Nat} {w : List Nat} (h : Held g k T M w) : OkS w := by
  cases h with
  | busy b hM hw _ _ _ => rw [hw]; exact W_okS ok _ _
  | idle hw _ => rw [hw]; exact okS_nil
theorem line0_push {T M : Nat} {w : List Nat} {s : LS} (l : Line0 tk tx tot T M w s) : s.push.length ≤ 1 ∧ s.nxt.push.length ≤ 1 := by
  rcases l.pos with ⟨_, _, _, h, _⟩ | ⟨_, _, h, _⟩
  · unfold LS.nxt; rw [h]; simp [h]
  · unfold LS.nxt; rw [h]; simp
end
end Mine
open PySem PySem.W PyProof.Rows
set_option maxRecDepth 100000
namespace Mine
theorem fin_ne {j k : Nat} {s : Nat → LS} (h : ¬ (j = 0 ∧ k = 0)) : (if j = 0 then up s 0 (look (s 0)) else s) k = s k := by
  by_cases hj : j = 0
  · rw [if_pos hj, up_ne fun q => h ⟨hj, q⟩]
  · rw [if_neg hj]
theorem fin_zero {s : Nat → LS} : (if 0 = 0 then up s 0 (look (s 0)) else s) 0 = look (s 0) := by rw [if_pos rfl, up_same]
section
variable {g : Fs} {C : Addr} {a : Ad} {tk tx : Nat → List Nat} {tot : Int} {mk : List (Nat × Int × List (List Nat))} {T M : Nat → Nat} {H : Hp} {t j : Nat} {w : Nat → List Nat} {s : Nat → LS} {o : Nat → CO} {m : Nat} {f : Str → Option D}
/-- the desk keeps its file -/
theorem ds_stay {b : Nat} {f' : Str → Option D} {s' : Nat → LS} {o' : Nat → CO} (ok : g.Ok) (hj : j < 3) (hT : T j = t) (h3 : ∀ k < 3, o (3 + k) = .list ((goneL g k (M k)).map goneD)) (hh : ∀ k < 3, Held g k (T k) (M k) (w k)) (hg : ∀ k < 3, GoneAt g k (T k) (M k)) (ki : KI g f M w) (hm : m ≤ 4 + T 0 + T 1 + T 2)
    (l0 : Line0 tk tx tot (T 0) (M 0) (w 0) (s 0)) (lk : ∀ k < 2, LineK g (k + 1) (nx (M (k + 1)) (w (k + 1))) (M k) (s (k + 1))) (hM : M j < 4) (hw : w j = g.W (M j) b) (hb : b < 8 ^ (3 - j)) (hmod : b % 8 ^ (2 - j) = g.at (M j) (j + 1)) (hc : cntB b j + T j = dep g.c (M j) j) (hf : figB b j ≠ 0)
    (i : DI C H a s' o') (hs : s' = if j = 0 then up s 0 (look (s 0)) else s) (o0 : o' 0 = .dict (m + 1) f') (o1 : o' 1 = .list (heldL (up w j (g.W (M j) (lessB b j))))) (o2 : o' 2 = .list (mk.map markD)) (o3 : ∀ k < 3, o' (3 + k) = o (3 + k)) (kn : KInv f') (kh : ∀ x, KHas f x → KHas f' x) (ks : KHas f' (g.W (M j) (lessB b j))) :
    DS g C a tk tx tot mk (up T j (t + 1)) M H := by
  obtain ⟨q1, q2⟩ := turn_stay (T := T j) hj hM hb hmod hc hf (hg j hj)
  rw [hT] at q1 q2
  refine ⟨up w j (g.W (M j) (lessB b j)), s', o', m + 1, f', i, o0, o1, o2, fun k hk => (o3 k hk).trans (h3 k hk), fun k hk => ?_, fun k hk => ?_, ⟨kn, fun n hn => kh _ (ki.tok n hn), fun k hk n hn => kh _ (ki.gone k hk n hn), fun k hk hne => ?_⟩, ?_, ?_, fun k hk => ?_⟩
  · by_cases q : k = j
    · subst q; rw [up_same, up_same]; exact q1
    · rw [up_ne q, up_ne q]; exact hh k hk
  · by_cases q : k = j
    · subst q; rw [up_same]; exact q2
    · rw [up_ne q]; exact hg k hk
  · by_cases q : k = j
    · subst q; rw [up_same]; exact ks
    · rw [up_ne q] at hne ⊢; exact kh _ (ki.held k hk hne)
  · have := up_sum hj hT
    omega
  · by_cases q : j = 0
    · subst q
      rw [up_same, up_same, hs, fin_zero, ← hT]
      exact stay0 l0 (by rw [hw]; exact W_ne ok _ _) (W_ne ok _ _)
    · rw [up_ne (Ne.symm q), up_ne (Ne.symm q), hs, fin_ne fun h => q h.1]
      exact l0
  · rw [hs, fin_ne fun h => Nat.succ_ne_zero k h.2]
    by_cases q : k + 1 = j
    · subst q
      rw [up_same]
      have := lk k hk
      unfold nx at this ⊢
      rw [hw, if_neg (W_ne ok _ _)] at this
      rw [if_neg (W_ne ok _ _)]
      exact this
    · rw [up_ne q]; exact lk k hk
/-- the next word is taken; N is the file that comes next, M' what has left -/
theorem ds_take {M' : Nat → Nat} {o' : Nat → CO} {s1 : Nat → LS} (ok : g.Ok) (r : Rd g tk tx) (hj : j < 3) (hT : T j = t) (hprev : ∀ k, j = k + 1 → T k = t + 1) (hh : ∀ k < 3, Held g k (T k) (M k) (w k)) (hg : ∀ k < 3, GoneAt g k (T k) (M k)) (ki : KI g f M w) (hm : m ≤ 4 + T 0 + T 1 + T 2)
    (l0 : Line0 tk tx tot (T 0) (M 0) (w 0) (s 0)) (lk : ∀ k < 2, LineK g (k + 1) (nx (M (k + 1)) (w (k + 1))) (M k) (s (k + 1))) (hM' : ∀ k, k ≠ j → M' k = M k) (hN : nx (M j) (w j) = M' j) (h0 : (w j = [] → M' j = M j ∧ (j = 0 → 0 < t → M j = 4)) ∧ (w j ≠ [] → M' j = M j + 1 ∧ M j < 4)) (hG : GoneAt g j (t + 1) (M' j)) (hold : ∀ n, M' j = n + 1 → dep g.c n j ≤ t) (harr : M' j < 4 → t ≤ arr g.c (M' j) j)
    (hs1 : ∀ k, k ≠ j + 1 → s1 k = s k) (hs2 : ∀ k, k = j → k < 2 → LineK g (k + 1) (nx (M (k + 1)) (w (k + 1))) (M' k) (s1 (k + 1))) (kg : ∀ n < M' j, KHas f (g.W n (g.at n (j + 1))))
    (i : DI C H a (if j = 0 then up (up s1 j (s j).nxt) 0 (look ((up s1 j (s j).nxt) 0)) else (up s1 j (s j).nxt)) o') (o0 : o' 0 = .dict m f) (o1 : o' 1 = .list (heldL (up w j (s j).tok))) (o2 : o' 2 = .list (mk.map markD)) (o3 : ∀ k < 3, o' (3 + k) = .list ((goneL g k (M' k)).map goneD)) :
    DS g C a tk tx tot mk (up T j (t + 1)) M' H := by
  have key : Held g j (t + 1) (M' j) (s j).tok ∧ (∀ k, j = k + 1 → LineK g j (nx (M' j) (s j).tok) (M k) (s j).nxt) ∧ (j = 0 → Line0 tk tx tot (t + 1) (M' 0) (s 0).tok (look (s 0).nxt)) ∧ ((s j).tok ≠ [] → KHas f (s j).tok) := by
    cases j with
    | zero =>
      have := take0 (T := T 0) (N := M' 0) ok r l0 ⟨fun e => ⟨(h0.1 e).1, fun h => (h0.1 e).2 rfl (hT ▸ h)⟩, h0.2⟩ (by rw [hT]; exact hold) (by rw [hT]; exact harr)
      rw [hT] at this
      exact ⟨this.1, fun k h => absurd h.symm (Nat.succ_ne_zero k), fun _ => this.2.1, fun q => (this.2.2 q).2.symm ▸ ki.tok _ (this.2.2 q).1⟩
    | succ k =>
      have l := lk k (by omega)
      rw [hN] at l
      have G := hg k (by omega)
      rw [hprev k rfl] at G
      obtain ⟨a1, a2, a3⟩ := takeK ok hj l G hold harr
      exact ⟨a1, fun k' h => by cases h; exact a2, fun h => absurd h (Nat.succ_ne_zero k), fun q => (a3 q).2.symm ▸ ki.gone k (by omega) _ (a3 q).1⟩
  obtain ⟨k1, k2, k3, k4⟩ := key
  have sj : ∀ k, k ≠ j → (if j = 0 then up (up s1 j (s j).nxt) 0 (look ((up s1 j (s j).nxt) 0)) else (up s1 j (s j).nxt)) k = s1 k := fun k hk => by
    rw [fin_ne fun h => hk (h.2.trans h.1.symm), up_ne hk]
  refine ⟨up w j (s j).tok, _, o', m, f, i, o0, o1, o2, o3, fun k hk => ?_, fun k hk => ?_, ⟨ki.inv, ki.tok, fun k hk n hn => ?_, fun k hk hne => ?_⟩, ?_, ?_, fun k hk => ?_⟩
  · by_cases q : k = j
    · subst q; rw [up_same, up_same]; exact k1
    · rw [up_ne q, up_ne q, hM' k q]; exact hh k hk
  · by_cases q : k = j
    · subst q; rw [up_same]; exact hG
    · rw [up_ne q, hM' k q]; exact hg k hk
  · by_cases q : k = j
    · subst q; exact kg n hn
    · rw [hM' k q] at hn; exact ki.gone k hk n hn
  · by_cases q : k = j
    · subst q
      rw [up_same] at hne ⊢
      exact k4 hne
    · rw [up_ne q] at hne ⊢; exact ki.held k hk hne
  · have := up_sum hj hT
    omega
  · by_cases q : j = 0
    · subst q
      rw [up_same, up_same, fin_zero, up_same]
      exact k3 rfl
    · rw [up_ne (Ne.symm q), up_ne (Ne.symm q), hM' 0 (Ne.symm q), sj 0 (Ne.symm q), hs1 0 (by omega)]
      exact l0
  · by_cases q : k + 1 = j
    · have e := k2 k q.symm
      subst q
      rw [up_same, fin_ne fun h => Nat.succ_ne_zero k h.2, up_same, hM' k (by omega)]
      exact e
    · rw [up_ne q, sj _ q, hM' (k + 1) q]
      by_cases q2 : k = j
      · exact hs2 k q2 hk
      · rw [hM' k q2, hs1 (k + 1) (by omega)]
        exact lk k hk
end
end Mine
open PySem PySem.W PyProof.Rows
set_option maxRecDepth 100000
namespace Mine
theorem nxt_push (s : LS) : s.nxt.push.length ≤ s.push.length := by
  unfold LS.nxt
  cases q : s.push with
  | nil => exact Nat.le_refl _
  | cons _ _ => exact Nat.le_succ _
section
variable {g : Fs} {C : Addr} {a : Ad} {tk tx : Nat → List Nat} {tot : Int} {mk : List (Nat × Int × List (List Nat))} {T M : Nat → Nat} {H : Hp} {Wd Md : D} {a4 a11 a12 a13 a14 : Option D} {t j : Nat}
theorem desk_turn (ok : g.Ok) (r : Rd g tk tx) (ap : Apart a) (hj : j < 3) (D : DS g C a tk tx tot mk T M H) (hT : T j = t) (hprev : ∀ k, j = k + 1 → T k = t + 1) (hsum : T 0 + T 1 + T 2 ≤ 300) :
    ∃ b11 b12 b13 b14 M' H', dkBody C (dv a Wd Md a4 (some (.int (t : Int))) (some (.int (j : Int))) a11 a12 a13 a14) H = some (.next, dv a Wd Md a4 (some (.int (t : Int))) (some (.int (j : Int))) b11 b12 b13 b14, H') ∧ DS g C a tk tx tot mk (up T j (t + 1)) M' H' := by
  obtain ⟨w, s, o, m, f, i, h0, h1, h2, h3, hh, hg, ki, hm, l0, lk⟩ := D
  have okw := held_ok ok (hh j hj)
  have e1 := dk1_ok (W := Wd) (M := Md) (a4 := a4) (a9 := some (.int (t : Int))) (a11 := a11) (a12 := a12) (a13 := a13) (a14 := a14) i h1 hj
  have e2 := dk2_ok (W := Wd) (M := Md) (a4 := a4) (a9 := some (.int (t : Int))) (a10 := some (.int (j : Int))) (a12 := a12) (a13 := a13) (a14 := a14) i h0 okw (if q : w j = [] then .inl q else .inr (ki.held j hj q))
  have p0 := (line0_push l0).1
  have hp : ∀ k < 3, (s k).push.length < 1000 := fun k hk => by
    cases k with
    | zero => omega
    | succ k =>
      have l := lk k (by omega)
      have := (hg k (by omega)).le
      rw [l.push, lineL_len]
      omega
  have hp0 : (s 0).push.length < 1000 := hp 0 (by omega)
  rcases hh j hj with ⟨b, hM, hw, hb, hmod, hc⟩ | ⟨hw, ha⟩
  · have hne : w j ≠ [] := by rw [hw]; exact W_ne ok _ _
    have hwl : (w j).length < 1000 := by rw [hw, W_len ok]; decide
    have eh : hasR j (w j) = decide (figB b j ≠ 0) := by rw [hw]; exact W_hasR ok hj
    have eT := dkT_ok (a := a) (W := Wd) (M := Md) (a4 := a4) (a9 := some (.int (t : Int))) (a12 := a12) (a13 := a13) (a14 := a14) (H := H) okw hwl hj
    by_cases hf : figB b j = 0
    · rw [eh, decide_eq_false (fun q => q hf)] at eT
      obtain ⟨q1, q2, q3⟩ := turn_leave hj hM hb hmod hc hf (hg j hj)
      rw [hT] at q2 q3
      obtain ⟨H1, e3, i1⟩ := else_leave (W := Wd) (M := Md) (a4 := a4) (t := t) (a12 := a12) (a13 := a13) (a14 := a14) i ap hj (h3 j hj) h1 okw hne (by unfold goneL; rw [List.length_map, List.length_range]; omega) hp
      obtain ⟨H2, e4, i2⟩ := tail_ok (W := Wd) (M := Md) (a4 := a4) (a9 := some (.int (t : Int))) (a11 := some (dS (w j))) (a12 := a12) (a13 := a13) (a14 := a14) i1 ap hj (fun q => by
        subst q
        rw [up_same]
        exact ⟨Nat.lt_of_le_of_lt (nxt_push _) hp0, Nat.lt_of_le_of_lt (nxt_push _) (Nat.lt_of_le_of_lt (nxt_push _) hp0)⟩)
      refine ⟨_, _, _, _, up M j (M j + 1), H2, e_seq e1 (e_seq e2 (e_seq (e_brf eT e3) e4)), ?_⟩
      refine ds_take (M' := up M j (M j + 1)) ok r hj hT hprev hh hg ki hm l0 lk (fun k hk => up_ne hk) (by unfold nx; rw [if_neg hne, up_same]) ⟨fun q => absurd q hne, fun _ => ⟨up_same, hM⟩⟩ (by rw [up_same]; exact q3) (fun n hn => ?_) (fun _ => ?_) (fun k hk => ?_) (fun k hk hk2 => ?_) (fun n hn => ?_) i2 ?_ ?_ ?_ (fun k hk => ?_)
      · rw [up_same] at hn
        rw [← Nat.succ.inj hn, q2]; exact Nat.le_refl _
      · rw [up_same]
        exact q2 ▸ arr_up (M j) j
      · by_cases h2j : j < 2
        · rw [if_pos h2j, up_ne hk]
        · rw [if_neg h2j]
      · subst hk
        rw [if_pos hk2, up_same, up_same, hw, q1]
        exact (lk k hk2).more
      · rw [up_same] at hn
        rcases Nat.lt_succ_iff_lt_or_eq.mp hn with q | q
        · exact ki.gone j hj n q
        · have := ki.held j hj hne
          rw [hw, q1] at this
          rw [q]; exact this
      · rw [up_ne (by omega), up_ne (by omega)]; exact h0
      · rw [up_same]
      · rw [up_ne (by omega), up_ne (by omega)]; exact h2
      · by_cases q : k = j
        · subst q
          rw [up_ne (by omega), up_same, up_same, goneL_succ, q2, ← q1, ← hw]
        · rw [up_ne (by omega), up_ne (by omega), up_ne q]; exact h3 k hk
    · rw [eh, decide_eq_true hf] at eT
      have hb5 := b_lt hj hb
      have hk := ki.held j hj hne
      rw [hw] at hk
      obtain ⟨h', e5, e6⟩ := ki.val ok hb5 hk
      have hw' : w j = g.nm (M j) ++ rowB h' b := by rw [hw, e6]; rfl
      have e7 : g.nm (M j) ++ rowB h' (lessB b j) = g.W (M j) (lessB b j) := by rw [e6]; rfl
      obtain ⟨H1, b12, b13, b14, e3, i1⟩ := dkA_ok (W := Wd) (M := Md) (a4 := a4) (a9 := some (.int (t : Int))) (a12 := a12) (a13 := a13) (a14 := a14) (w := w j) i ap h1 h0 (by omega) hj hb (ok.len (M j)) hw' (by rw [hw]; exact e5) hf
      obtain ⟨H2, e4, i2⟩ := tail_ok (W := Wd) (M := Md) (a4 := a4) (a9 := some (.int (t : Int))) (a11 := some (dS (w j))) (a12 := b12) (a13 := b13) (a14 := b14) i1 ap hj (fun _ => ⟨hp0, Nat.lt_of_le_of_lt (nxt_push _) hp0⟩)
      refine ⟨_, _, _, _, M, H2, e_seq e1 (e_seq e2 (e_seq (e_brt eT e3) e4)), ?_⟩
      refine ds_stay ok hj hT h3 hh hg ki hm l0 lk hM hw hb hmod hc hf i2 rfl up_same ?_ ?_ (fun k hk => ?_) (keep1_inv (ok.len _) (Nat.lt_of_le_of_lt (Nat.sub_le _ _) hb5) ki.inv) (fun x hx => keep1_has hx) ?_
      · rw [up_ne (by omega), up_same, e7]
      · rw [up_ne (by omega), up_ne (by omega)]; exact h2
      · rw [up_ne (by omega), up_ne (by omega)]
      · rw [← e7]; exact keep1_self
  · have eT := dkT_ok (a := a) (W := Wd) (M := Md) (a4 := a4) (a9 := some (.int (t : Int))) (a12 := a12) (a13 := a13) (a14 := a14) (H := H) okw (by rw [hw]; decide) hj
    rw [hw] at e1 e2 eT
    rw [hasR_nil] at eT
    obtain ⟨H1, e3, i1⟩ := else_idle (W := Wd) (M := Md) (a4 := a4) (t := t) (a12 := a12) (a13 := a13) (a14 := a14) i ap hj h1 hp
    obtain ⟨H2, e4, i2⟩ := tail_ok (W := Wd) (M := Md) (a4 := a4) (a9 := some (.int (t : Int))) (a11 := some (dS [])) (a12 := a12) (a13 := a13) (a14 := a14) i1 ap hj (fun q => by
      subst q
      rw [up_same]
      exact ⟨Nat.lt_of_le_of_lt (nxt_push _) hp0, Nat.lt_of_le_of_lt (nxt_push _) (Nat.lt_of_le_of_lt (nxt_push _) hp0)⟩)
    refine ⟨_, _, _, _, M, H2, e_seq e1 (e_seq e2 (e_seq (e_brf eT e3) e4)), ?_⟩
    have ha' : M j < 4 → t ≤ arr g.c (M j) j := hT ▸ ha
    refine ds_take (M' := M) (s1 := s) ok r hj hT hprev hh hg ki hm l0 lk (fun k hk => rfl) (by unfold nx; rw [if_pos hw]) ⟨fun _ => ⟨rfl, fun q ht => ?_⟩, fun q => absurd hw q⟩ ?_ (fun n hn => ?_) ha' (fun k hk => rfl) (fun k hk hk2 => lk k hk2) (ki.gone j hj) i2 ?_ ?_ ?_ (fun k hk => ?_)
    · subst q
      rcases l0.pos with ⟨q1, _⟩ | ⟨_, q2, _⟩
      · omega
      · have := (hg 0 hj).le
        rcases Nat.lt_or_ge (M 0) 4 with q | q
        · exact absurd hw (q2 q)
        · omega
    · have := gone_idle (hg j hj) ha
      rw [hT] at this; exact this
    · have := (hg j hj).old n (by omega)
      omega
    · rw [up_ne (by omega)]; exact h0
    · rw [up_same]
    · rw [up_ne (by omega)]; exact h2
    · rw [up_ne (by omega)]; exact h3 k hk
end
end Mine
open PySem PySem.W PyProof.Rows
set_option maxRecDepth 100000
namespace Mine
theorem loop_next {i : Nat} {body : XS} {d : D} {ds : List D} {vs vs1 : Vs} {H H1 : Hp} {x : Option (Fl × Vs × Hp)} (h : body (vs.set i (some d)) H = some (.next, vs1, H1)) (k : xLoop i body xSkip ds vs1 H1 = x) : xLoop i body xSkip (d :: ds) vs H = x := by
  show (body (vs.set i (some d)) H).bind _ = _
  rw [h]; exact k
theorem loop_ret {i : Nat} {body : XS} {d e : D} {ds : List D} {vs vs1 : Vs} {H H1 : Hp} (h : body (vs.set i (some d)) H = some (.ret e, vs1, H1)) : xLoop i body xSkip (d :: ds) vs H = some (.ret e, vs1, H1) := by
  show (body (vs.set i (some d)) H).bind _ = _
  rw [h]; rfl
theorem dep_lt (c : Nat → Nat → Nat) (n k : Nat) : dep c n k < dep c (n + 1) k := by
  have h1 := arr_up (c := c) n k
  have h2 := dep_arr (c := c) (n + 1) k
  omega
theorem dep_le (c : Nat → Nat → Nat) (k n : Nat) : ∀ d, dep c n k ≤ dep c (n + d) k
  | 0 => Nat.le_refl _
  | d + 1 => Nat.le_trans (dep_le c k n d) (Nat.le_of_lt (dep_lt c (n + d) k))
noncomputable def over (c : Nat → Nat → Nat) (t : Nat) : Nat := ((List.range 4).filter fun n => decide (dep c n 0 ≤ t)).length
theorem over_eq {g : Fs} {t M : Nat} (G : GoneAt g 0 (t + 1) M) : over g.c t = M := by
  unfold over
  have e : (List.range 4).filter (fun n => decide (dep g.c n 0 ≤ t)) = (List.range 4).filter fun n => decide (n < M) := by
    refine List.filter_congr fun n hn => ?_
    have hn := List.mem_range.mp hn
    by_cases h : n < M
    · rw [decide_eq_true h, decide_eq_true (Nat.le_of_lt_succ (G.old n h))]
    · rw [decide_eq_false h, decide_eq_false]
      have h1 := G.new (by omega)
      have h2 := dep_le g.c 0 M (n - M)
      rw [show M + (n - M) = n by omega] at h2
      omega
  rw [e]
  have key : ∀ m ≤ 4, ((List.range 4).filter fun n => decide (n < m)).length = m := by decide
  exact key M G.le
noncomputable def mkAt (c : Nat → Nat → Nat) (tk tx : Nat → List Nat) (tot : Int) (t : Nat) : Nat × Int × List (List Nat) := ((tx (over c t + 2)).length, tot - ((tx (over c t + 2)).count 10 : Nat), [tk (over c t + 1)])
noncomputable def toldD (g : Fs) (mk : List (Nat × Int × List (List Nat))) : D := .tup [.lst [.lst ((goneL g 0 4).map goneD), .lst ((goneL g 1 4).map goneD), .lst ((goneL g 2 4).map goneD)], .lst (mk.map markD)]
section
variable {g : Fs} {C : Addr} {a : Ad} {tk tx : Nat → List Nat} {tot : Int} {mk : List (Nat × Int × List (List Nat))} {T M : Nat → Nat} {H : Hp} {Wd Md : D} {a4 a9 a10 a11 a12 a13 a14 : Option D} {t j : Nat} {s : Nat → LS} {o : Nat → CO}
theorem DS.times {T' : Nat → Nat} (D : DS g C a tk tx tot mk T M H) (h : ∀ k < 3, T k = T' k) : DS g C a tk tx tot mk T' M H := by
  obtain ⟨w, s, o, m, f, i, h0, h1, h2, h3, hh, hg, ki, hm, l0, lk⟩ := D
  have e0 := h 0 (by omega)
  have e1 := h 1 (by omega)
  have e2 := h 2 (by omega)
  exact ⟨w, s, o, m, f, i, h0, h1, h2, h3, fun k hk => h k hk ▸ hh k hk, fun k hk => h k hk ▸ hg k hk, ki, by omega, e0 ▸ l0, lk⟩
theorem seal_ok {x2 x3 x4 x5 : List D} (i : DI C H a s o) (ap : Apart a) (h2 : o 2 = .list x2) (h3 : o 3 = .list x3) (h4 : o 4 = .list x4) (h5 : o 5 = .list x5) : ∃ H', dkSeal (dv a Wd Md a4 a9 a10 a11 a12 a13 a14) H = some (.tup [.lst [.lst x3, .lst x4, .lst x5], .lst x2], H') := by
  have k3 := i.ob 3 (by omega)
  rw [h3] at k3
  have i3 := i.set ap (p := 3) (by omega) .junk
  have k4 := i3.ob 4 (by omega)
  rw [up_ne (by omega), h4] at k4
  have i4 := i3.set ap (p := 4) (by omega) .junk
  have k5 := i4.ob 5 (by omega)
  rw [up_ne (by omega), up_ne (by omega), h5] at k5
  have i5 := i4.set ap (p := 5) (by omega) .junk
  have k2 := i5.ob 2 (by omega)
  rw [up_ne (by omega), up_ne (by omega), up_ne (by omega), h2] at k2
  refine ⟨(((H.set (a.id 3) .junk).set (a.id 4) .junk).set (a.id 5) .junk).set (a.id 2) .junk, ?_⟩
  have e : xTup [(xVar 7), (xVar 8)] (dv a Wd Md a4 a9 a10 a11 a12 a13 a14) H = some (.tup [.lst [.own (a.id 3), .own (a.id 4), .own (a.id 5)], .own (a.id 2)], H) := e_tup (e_cons (e_var rfl) (e_cons (e_var rfl) e_nil)) rfl
  unfold dkSeal xSeal
  rw [e, Option.bind_some]
  simp only [sealD, sealAll, k2, k3, k4, k5, Option.bind_some, Option.map_some]
theorem turns_ok (ok : g.Ok) (r : Rd g tk tx) (ap : Apart a) (D : DS g C a tk tx tot mk (fun _ => t) M H) (ht : t < 26) :
    ∃ b10 b11 b12 b13 b14 M' H', xFor 10 (xRange1 (xLit (.int 3))) (dkBody C) xSkip (dv a Wd Md a4 (some (.int (t : Int))) a10 a11 a12 a13 a14) H = some (.next, dv a Wd Md a4 (some (.int (t : Int))) b10 b11 b12 b13 b14, H') ∧ DS g C a tk tx tot mk (fun _ => t + 1) M' H' := by
  obtain ⟨b11, b12, b13, b14, M1, H1, e1, D1⟩ := desk_turn (Wd := Wd) (Md := Md) (a4 := a4) (a11 := a11) (a12 := a12) (a13 := a13) (a14 := a14) (j := 0) (t := t) ok r ap (by omega) D rfl (fun k h => absurd h.symm (Nat.succ_ne_zero k)) (by omega)
  obtain ⟨c11, c12, c13, c14, M2, H2, e2, D2⟩ := desk_turn (Wd := Wd) (Md := Md) (a4 := a4) (a11 := b11) (a12 := b12) (a13 := b13) (a14 := b14) (j := 1) (t := t) ok r ap (by omega) D1 (up_ne (by omega)) (fun k h => by cases h; exact up_same) (by simp [up]; omega)
  obtain ⟨d11, d12, d13, d14, M3, H3, e3, D3⟩ := desk_turn (Wd := Wd) (Md := Md) (a4 := a4) (a11 := c11) (a12 := c12) (a13 := c13) (a14 := c14) (j := 2) (t := t) ok r ap (by omega) D2 (by rw [up_ne (by omega), up_ne (by omega)]) (fun k h => by cases h; exact up_same) (by simp [up]; omega)
  refine ⟨_, _, _, _, _, M3, H3, e_for (xRange1_nat (n := 3) (by decide)) (loop_next e1 (loop_next e2 (loop_next e3 rfl))), D3.times fun k hk => ?_⟩
  rcases or3 hk with rfl | rfl | rfl <;> simp [up]
theorem mark_ok (ap : Apart a) (D : DS g C a tk tx tot mk (fun _ => t + 1) M H) (hl : mk.length < 1000) : ∃ H', dkMark C (dv a Wd Md a4 a9 a10 a11 a12 a13 a14) H = some (.next, dv a Wd Md a4 a9 a10 a11 a12 a13 a14, H') ∧ DS g C a tk tx tot (mk ++ [mkAt g.c tk tx tot t]) (fun _ => t + 1) M H' := by
  obtain ⟨w, s, o, m, f, i, h0, h1, h2, h3, hh, hg, ki, hm, l0, lk⟩ := D
  obtain ⟨H', e, i'⟩ := dkMark_ok (W := Wd) (M := Md) (a4 := a4) (a9 := a9) (a10 := a10) (a11 := a11) (a12 := a12) (a13 := a13) (a14 := a14) i ap h2 hl (by have := (line0_push l0).1; omega)
  have em : ((s 0).text.length, (s 0).line, (s 0).push) = mkAt g.c tk tx tot t := by
    unfold mkAt LS.line
    rw [over_eq (hg 0 (by omega))]
    rcases l0.pos with ⟨q, _⟩ | ⟨_, _, q3, q4⟩
    · exact absurd q (Nat.succ_ne_zero t)
    · rw [q3, q4, l0.tot]
  rw [em] at i'
  refine ⟨H', e, ⟨w, s, _, m, f, i', ?_, ?_, up_same, fun k hk => ?_, hh, hg, ki, hm, l0, lk⟩⟩
  · rw [up_ne (by omega)]; exact h0
  · rw [up_ne (by omega)]; exact h1
  · rw [up_ne (by omega)]; exact h3 k hk
end
end Mine
open PySem PySem.W PyProof.Rows
set_option maxRecDepth 100000
namespace Mine
theorem dep_right (c : Nat → Nat → Nat) (n k : Nat) : dep c n k < dep c n (k + 1) := by
  have h1 := arr_left (c := c) n k
  have h2 := dep_arr (c := c) n (k + 1)
  omega
theorem gone_all {g : Fs} {k T M : Nat} (G : GoneAt g k T M) (h : dep g.c 3 k < T) : M = 4 := by
  rcases Nat.lt_or_ge M 4 with q | q
  · have h1 := G.new q
    have h2 := dep_le g.c k M (3 - M)
    rw [show M + (3 - M) = 3 by omega] at h2
    omega
  · exact Nat.le_antisymm G.le q
theorem goneL_len (g : Fs) (k M : Nat) : (goneL g k M).length = M := by unfold goneL; rw [List.length_map, List.length_range]
section
variable {g : Fs} {C : Addr} {a : Ad} {tk tx : Nat → List Nat} {tot : Int} {mk : List (Nat × Int × List (List Nat))} {M : Nat → Nat} {H : Hp} {Wd Md : D} {a4 a9 a10 a11 a12 a13 a14 : Option D} {t : Nat}
theorem end_ok (ap : Apart a) (D : DS g C a tk tx tot mk (fun _ => t + 1) M H) (ht : t ≤ dep g.c 3 2) :
    (t < dep g.c 3 2 → dkEnd (dv a Wd Md a4 a9 a10 a11 a12 a13 a14) H = some (.next, dv a Wd Md a4 a9 a10 a11 a12 a13 a14, H)) ∧ (t = dep g.c 3 2 → ∃ H', dkEnd (dv a Wd Md a4 a9 a10 a11 a12 a13 a14) H = some (.ret (toldD g mk), dv a Wd Md a4 a9 a10 a11 a12 a13 a14, H')) := by
  obtain ⟨w, s, o, m, f, i, h0, h1, h2, h3, hh, hg, ki, hm, l0, lk⟩ := D
  have h5 := i.ob 5 (by omega)
  rw [show o 5 = _ from h3 2 (by omega)] at h5
  have g2 := hg 2 (by omega)
  have n1 : gLen [.own (a.id 5)] H = some (.int (M 2 : Nat), H) := by
    show ((itsOf (.own (a.id 5)) H).bind fun xs => if xs.length ≤ 1000000 then some (D.int xs.length, H) else none) = _
    rw [show itsOf (.own (a.id 5)) H = some ((goneL g 2 (M 2)).map goneD) by show (match H[a.id 5]? with | some (.list xs) => some xs | _ => none) = _; rw [h5], Option.bind_some, List.length_map, goneL_len, if_pos (by have := g2.le; omega)]
  have ce : xCall gLen [(xOp2 fItem (xVar 7) (xLit (.int 2)))] (dv a Wd Md a4 a9 a10 a11 a12 a13 a14) H = some (.int (M 2 : Nat), H) := e_call (e_cons (e_op (e_var rfl) e_lit (gone_get (a := a) (j := 2) (by omega) H)) e_nil) n1
  constructor
  · intro h
    have hM : M 2 ≠ 4 := fun q => by have := g2.old 3 (by omega); omega
    exact e_brf (e_test ce e_lit (eqI_f (j := 4) hM)) e_skip
  · intro h
    have d1 : dep g.c 3 0 < dep g.c 3 1 := dep_right g.c 3 0
    have d2 : dep g.c 3 1 < dep g.c 3 2 := dep_right g.c 3 1
    have m0 := gone_all (hg 0 (by omega)) (by omega)
    have m1 := gone_all (hg 1 (by omega)) (by omega)
    have m2 := gone_all g2 (by omega)
    have o3 := h3 0 (by omega)
    have o4 := h3 1 (by omega)
    have o5 := h3 2 (by omega)
    rw [m0] at o3
    rw [m1] at o4
    rw [m2] at o5
    obtain ⟨H', e⟩ := seal_ok (Wd := Wd) (Md := Md) (a4 := a4) (a9 := a9) (a10 := a10) (a11 := a11) (a12 := a12) (a13 := a13) (a14 := a14) i ap h2 o3 o4 o5
    exact ⟨H', e_brt (e_test ce e_lit (eqI_t (j := 4) m2)) (e_retS e)⟩
theorem loop_ok (ok : g.Ok) (r : Rd g tk tx) (ap : Apart a) (h26 : dep g.c 3 2 < 26) : ∀ (d t : Nat) (mk : List (Nat × Int × List (List Nat))) (M : Nat → Nat) (H : Hp) (a9 a10 a11 a12 a13 a14 : Option D), t + d = dep g.c 3 2 → mk.length = t → DS g C a tk tx tot mk (fun _ => t) M H →
    ∃ vs' H', xLoop 9 (dkTick C) xSkip ((List.range' t (26 - t)).map fun (i : Nat) => D.int (i : Int)) (dv a Wd Md a4 a9 a10 a11 a12 a13 a14) H = some (.ret (toldD g (mk ++ (List.range' t (d + 1)).map (mkAt g.c tk tx tot))), vs', H') := by
  intro d
  induction d with
  | zero =>
    intro t mk M H a9 a10 a11 a12 a13 a14 hd hl D
    obtain ⟨b10, b11, b12, b13, b14, M1, H1, e1, D1⟩ := turns_ok (Wd := Wd) (Md := Md) (a4 := a4) (a10 := a10) (a11 := a11) (a12 := a12) (a13 := a13) (a14 := a14) ok r ap D (by omega)
    obtain ⟨H2, e2, D2⟩ := mark_ok (Wd := Wd) (Md := Md) (a4 := a4) (a9 := some (.int (t : Int))) (a10 := b10) (a11 := b11) (a12 := b12) (a13 := b13) (a14 := b14) ap D1 (by omega)
    obtain ⟨H3, e3⟩ := (end_ok (Wd := Wd) (Md := Md) (a4 := a4) (a9 := some (.int (t : Int))) (a10 := b10) (a11 := b11) (a12 := b12) (a13 := b13) (a14 := b14) ap D2 (by omega)).2 (by omega)
    rw [show 26 - t = (25 - t) + 1 by omega, List.range'_succ, List.map_cons]
    exact ⟨_, H3, loop_ret (e_seq e1 (e_seq e2 (e_seqR e3)))⟩
  | succ d ih =>
    intro t mk M H a9 a10 a11 a12 a13 a14 hd hl D
    obtain ⟨b10, b11, b12, b13, b14, M1, H1, e1, D1⟩ := turns_ok (Wd := Wd) (Md := Md) (a4 := a4) (a10 := a10) (a11 := a11) (a12 := a12) (a13 := a13) (a14 := a14) ok r ap D (by omega)
    obtain ⟨H2, e2, D2⟩ := mark_ok (Wd := Wd) (Md := Md) (a4 := a4) (a9 := some (.int (t : Int))) (a10 := b10) (a11 := b11) (a12 := b12) (a13 := b13) (a14 := b14) ap D1 (by omega)
    have e3 := (end_ok (Wd := Wd) (Md := Md) (a4 := a4) (a9 := some (.int (t : Int))) (a10 := b10) (a11 := b11) (a12 := b12) (a13 := b13) (a14 := b14) ap D2 (by omega)).1 (by omega)
    obtain ⟨vs', H', e4⟩ := ih (t + 1) (mk ++ [mkAt g.c tk tx tot t]) M1 H2 (some (.int (t : Int))) b10 b11 b12 b13 b14 (by omega) (by rw [List.length_append, hl]; rfl) D2
    rw [show 26 - t = (26 - (t + 1)) + 1 by omega, List.range'_succ, List.map_cons]
    refine ⟨vs', H', loop_next (e_seq e1 (e_seq e2 (e_fin e3))) ?_⟩
    rw [e4, List.range'_succ (n := d + 1), List.map_cons, List.append_assoc]; rfl
end
end Mine
open PySem PySem.W PyProof.Rows
set_option maxRecDepth 100000
namespace Mine
/-! _law_desks, whole -/
noncomputable def fk (g : Fs) : Nat → Str → Option D
  | 0 => fun _ => none
  | k + 1 => keep1 (fk g k) (g.W k (g.b k)) (g.h k * 512 + g.b k)
theorem fk_inv {g : Fs} (ok : g.Ok) : ∀ k, KInv (fk g k)
  | 0 => fun w v h => nomatch h
  | k + 1 => keep1_inv (ok.len k) (ok.lt k) (fk_inv ok k)
theorem fk_has {g : Fs} : ∀ k, ∀ n < k, KHas (fk g k) (g.W n (g.b n))
  | 0, n, h => absurd h (Nat.not_lt_zero n)
  | k + 1, n, h => by
    rcases Nat.lt_succ_iff_lt_or_eq.mp h with q | q
    · exact keep1_has (fk_has k n q)
    · rw [q]; exact keep1_self
noncomputable def wordsD (g : Fs) : D := .lst ((List.range 4).map fun n => dS (g.W n (g.b n)))
noncomputable def modesD (g : Fs) : D := .lst ((List.range 4).map fun n => .int ((g.h n * 512 + g.b n : Nat) : Int))
noncomputable abbrev kv (x kd : Nat) (g : Fs) (a4 : Option D) : Vs := [some (.own x), some (wordsD g), some (modesD g), some (.own kd), a4, none, none, none, none, none, none, none, none, none, none, none]
theorem set_end (H : Hp) (a b : CO) : (H ++ [a]).set H.length b = H ++ [b] := by simp
theorem known_step {g : Fs} {x k : Nat} (hk : k < 4) (H : Hp) : xSeq (xSetI (xVar 3) (xOp2 fItem (xVar 1) (xVar 4)) (xOp2 fItem (xVar 2) (xVar 4))) xSkip (kv x H.length g (some (.int (k : Int)))) (H ++ [.dict k (fk g k)]) = some (.next, kv x H.length g (some (.int (k : Int))), H ++ [.dict (k + 1) (fk g (k + 1))]) := by
  have st := set_dict (w := g.W k (g.b k)) (d := .int ((g.h k * 512 + g.b k : Nat) : Int)) (app_get0 H [CO.dict k (fk g k)]) (by omega)
  rw [set_end] at st
  exact e_fin (e_seti (e_op (e_var rfl) (e_var rfl) (idx hk (by decide))) (e_var rfl) (e_op (e_var rfl) (e_var rfl) (idx hk (by decide))) st)
theorem known_ok {g : Fs} {x : Nat} (H : Hp) : xFor 4 (xRange1 (xLit (.int 4))) (xSeq (xSetI (xVar 3) (xOp2 fItem (xVar 1) (xVar 4)) (xOp2 fItem (xVar 2) (xVar 4))) xSkip) xSkip (kv x H.length g none) (H ++ [.dict 0 fun _ => none]) = some (.next, kv x H.length g (some (.int 3)), H ++ [.dict 4 (fk g 4)]) :=
  e_for (xRange1_nat (n := 4) (by decide)) (loop_next (known_step (k := 0) (by omega) H) (loop_next (known_step (k := 1) (by omega) H) (loop_next (known_step (k := 2) (by omega) H) (loop_next (known_step (k := 3) (by omega) H) rfl))))
theorem desks_ok {g : Fs} {C : Addr} {tk tx : Nat → List Nat} {tot : Int} {x0 : Ix} {H : Hp} (ok : g.Ok) (r : Rd g tk tx) (h26 : dep g.c 3 2 < 26) (l0 : LexAt C H x0 ⟨tx 0, tot, ws1, []⟩) :
    ∃ H', G_law_desks C [.own x0.k, wordsD g, modesD g] H = some (toldD g ((List.range (dep g.c 3 2 + 1)).map (mkAt g.c tk tx tot)), H') := by
  have a0 := l0.app [CO.dict 4 (fk g 4)]
  have lt0 := l0.lt
  obtain ⟨x1, H2, e1, l1, f1, b1⟩ := lexer1 C [] (H ++ [CO.dict 4 (fk g 4)]) okS_nil (by decide) (p := xLit (.str "")) (us := kv x0.k H.length g (some (.int 3))) rfl
  obtain ⟨x2, H3, e2, l2, f2, b2⟩ := lexer1 C [] H2 okS_nil (by decide) (p := xLit (.str "")) (us := kv x0.k H.length g (some (.int 3))) rfl
  have lt1 := l1.lt
  have lt2 := l2.lt
  have c1 := f1.1
  have c2 := f2.1
  rw [List.length_append, List.length_singleton] at b1 c1
  let a : Ad := { x := fun k => if k = 0 then x0 else if k = 1 then x1 else x2, id := fun p => if p = 0 then H.length else if p = 1 then H3.length else if p = 2 then H3.length + 4 else H3.length + (p - 2) }
  let J : Hp := [.list [dS [], dS [], dS []], .list [], .list [], .list [], .list []]
  have ax : ∀ j < 3, ∀ k ∈ (a.x j).all, (j = 0 ∧ k < H.length) ∨ (j = 1 ∧ H.length + 1 ≤ k ∧ k < H2.length) ∨ (j = 2 ∧ H2.length ≤ k ∧ k < H3.length) := by
    intro j hj k hk
    rcases or3 hj with q | q | q
    · subst q; exact .inl ⟨rfl, lt0 k hk⟩
    · subst q; exact .inr (.inl ⟨rfl, b1 k hk, lt1 k hk⟩)
    · subst q; exact .inr (.inr ⟨rfl, b2 k hk, lt2 k hk⟩)
  have ai : ∀ p < 6, (p = 0 ∧ a.id p = H.length) ∨ ∃ r, p = [1, 3, 4, 5, 2].getD r 0 ∧ a.id p = H3.length + r := fun p hp => match p, hp with
    | 0, _ => .inl ⟨rfl, rfl⟩
    | 1, _ => .inr ⟨0, rfl, rfl⟩
    | 2, _ => .inr ⟨4, rfl, rfl⟩
    | 3, _ => .inr ⟨1, rfl, rfl⟩
    | 4, _ => .inr ⟨2, rfl, rfl⟩
    | 5, _ => .inr ⟨3, rfl, rfl⟩
    | n + 6, h => absurd h (Nat.not_lt.mpr (Nat.le_add_left _ _))
  have ap : Apart a := by
    refine ⟨fun i hi j hj hij k hk hk2 => ?_, fun j hj p hp hk => ?_, fun p hp q hq hpq e => ?_⟩
    · have := ax i hi k hk
      have := ax j hj k hk2
      omega
    · rcases ai p hp with ⟨_, e⟩ | ⟨r, _, e⟩
      · rw [e] at hk
        rcases ax j hj _ hk with ⟨_, h⟩ | ⟨_, h, _⟩ | ⟨_, h, _⟩
        · exact Nat.lt_irrefl _ h
        · exact Nat.lt_irrefl _ h
        · exact Nat.lt_irrefl _ (Nat.lt_of_lt_of_le (Nat.lt_of_succ_le c1) h)
      · rw [e] at hk
        have c3 := Nat.le_add_right H3.length r
        have h : H3.length + r < H3.length := by
          rcases ax j hj _ hk with ⟨_, h⟩ | ⟨_, _, h⟩ | ⟨_, _, h⟩
          · exact Nat.lt_of_lt_of_le h (Nat.le_trans (Nat.le_of_succ_le c1) c2)
          · exact Nat.lt_of_lt_of_le h c2
          · exact h
        exact Nat.lt_irrefl _ (Nat.lt_of_le_of_lt c3 h)
    · have lt : ∀ r, H.length ≠ H3.length + r := fun r e => Nat.lt_irrefl _ (Nat.lt_of_le_of_lt (Nat.le_add_right H3.length r) (e ▸ Nat.lt_of_lt_of_le (Nat.lt_of_succ_le c1) c2))
      rcases ai p hp with ⟨e1, e2⟩ | ⟨r, e1, e2⟩ <;> rcases ai q hq with ⟨g1, g2⟩ | ⟨r', g1, g2⟩ <;> rw [e2, g2] at e
      · exact hpq (e1.trans g1.symm)
      · exact lt _ e
      · exact lt _ e.symm
      · cases Nat.add_left_cancel e
        exact hpq (e1.trans g1.symm)
  have hd : (H3 ++ J)[H.length]? = some (.dict 4 (fk g 4)) := by
    have h0 : (H ++ [CO.dict 4 (fk g 4)])[H.length]? = some (.dict 4 (fk g 4)) := app_get0 _ _
    exact (Fr.app [] H3 J).get (f2.get (f1.get h0 (by simp)) (by simp)) (by simp)
  have i : DI C (H3 ++ J) a (fun k => if k = 0 then ⟨tx 0, tot, ws1, []⟩ else ⟨[], 1 + (([] : List Nat).count 10 : Nat), ws1, []⟩) (fun p => if p = 0 then .dict 4 (fk g 4) else if p = 1 then .list [dS [], dS [], dS []] else .list []) := by
    refine ⟨fun j hj => ?_, fun p hp => ?_⟩
    · rcases or3 hj with q | q | q
      · subst q; exact ((a0.frame f1 (by simp)).frame f2 (by simp)).app J
      · subst q; exact (l1.frame f2 (by simp)).app J
      · subst q; exact l2.app J
    · have g0 := app_get H3 J
      rcases (by omega : p = 0 ∨ p = 1 ∨ p = 2 ∨ p = 3 ∨ p = 4 ∨ p = 5) with q | q | q | q | q | q
      · subst q; exact hd
      · subst q; exact g0 0
      · subst q; exact g0 4
      · subst q; exact g0 1
      · subst q; exact g0 2
      · subst q; exact g0 3
  have at0 : ∀ n, g.at n 0 = g.b n := fun n => Nat.mod_eq_of_lt (ok.lt n)
  have D : DS g C a tk tx tot [] (fun _ => 0) (fun _ => 0) (H3 ++ J) := by
    refine ⟨fun _ => [], _, _, 4, fk g 4, i, rfl, rfl, rfl, fun k hk => ?_, fun k hk => .idle rfl fun _ => Nat.zero_le _, fun k hk => ⟨by omega, fun n hn => absurd hn (Nat.not_lt_zero n), fun _ => Nat.zero_le _⟩, ⟨fk_inv ok 4, fun n hn => ?_, fun k hk n hn => absurd hn (Nat.not_lt_zero n), fun k hk h => absurd rfl h⟩, by omega, ⟨rfl, rfl, .inl ⟨rfl, rfl, rfl, rfl, rfl⟩⟩, fun k hk => ?_⟩
    · show (if 3 + k = 0 then _ else if 3 + k = 1 then _ else _) = _
      rw [if_neg (by omega), if_neg (by omega)]; rfl
    · rw [at0]; exact fk_has 4 n hn
    · refine ⟨?_, ?_, Nat.le_refl _, ?_⟩ <;> (rw [if_neg (Nat.succ_ne_zero k)]) <;> rfl
  obtain ⟨vs', H', e⟩ := loop_ok (Wd := wordsD g) (Md := modesD g) (a4 := some (.int 3)) ok r ap h26 (dep g.c 3 2) 0 [] _ _ none none none none none none (by omega) rfl D
  rw [← List.range_eq_range', ← List.range_eq_range', List.nil_append] at e
  refine ⟨H', e_fun (vs1 := vs') rfl ?_⟩
  rw [desks_eq]
  have n1 : (H3 ++ [CO.list [dS [], dS [], dS []]]).length = H3.length + 1 := by simp
  have n2 : (H3 ++ [CO.list [dS [], dS [], dS []]] ++ [CO.list []]).length = H3.length + 2 := by simp
  have n3 : (H3 ++ [CO.list [dS [], dS [], dS []]] ++ [CO.list []] ++ [CO.list []]).length = H3.length + 3 := by simp
  have n4 : (H3 ++ [CO.list [dS [], dS [], dS []]] ++ [CO.list []] ++ [CO.list []] ++ [CO.list []]).length = H3.length + 4 := by simp
  have hJ : H3 ++ [CO.list [dS [], dS [], dS []]] ++ [CO.list []] ++ [CO.list []] ++ [CO.list []] ++ [CO.list []] = H3 ++ J := by simp [J]
  have en1 := e_new (vs := ((kv x0.k H.length g (some (.int 3))).set 5 (some (.lst [.own x0.k, .own x1.k, .own x2.k]))).set 6 (some (.own H3.length))) (H := H3 ++ [CO.list [dS [], dS [], dS []]]) e_nil rfl
  have en2 := e_new (vs := ((kv x0.k H.length g (some (.int 3))).set 5 (some (.lst [.own x0.k, .own x1.k, .own x2.k]))).set 6 (some (.own H3.length))) (H := H3 ++ [CO.list [dS [], dS [], dS []]] ++ [CO.list []]) e_nil rfl
  have en3 := e_new (vs := ((kv x0.k H.length g (some (.int 3))).set 5 (some (.lst [.own x0.k, .own x1.k, .own x2.k]))).set 6 (some (.own H3.length))) (H := H3 ++ [CO.list [dS [], dS [], dS []]] ++ [CO.list []] ++ [CO.list []]) e_nil rfl
  rw [n1] at en1
  rw [n2] at en2
  rw [n3] at en3
  have e6 : xNew [(xLit (.str "")), (xLit (.str "")), (xLit (.str ""))] ((kv x0.k H.length g (some (.int 3))).set 5 (some (.lst [.own x0.k, .own x1.k, .own x2.k]))) H3 = some (.own H3.length, H3 ++ [CO.list [dS [], dS [], dS []]]) := e_new (e_cons e_lit (e_cons e_lit (e_cons e_lit e_nil))) rfl
  have ev : vars0 [.own x0.k, wordsD g, modesD g] 16 = [some (.own x0.k), some (wordsD g), some (modesD g), none, none, none, none, none, none, none, none, none, none, none, none, none] := rfl
  have ed : xAssign 3 xDict (vars0 [.own x0.k, wordsD g, modesD g] 16) H = some (.next, kv x0.k H.length g none, H ++ [.dict 0 fun _ => none]) := by rw [ev]; rfl
  refine e_seq ed (e_seq (known_ok (g := g) (x := x0.k) H) (e_seq (e_asg (e_lst (e_cons (e_var rfl) (e_cons e1 (e_cons e2 e_nil))) rfl)) (e_seq (e_asg e6) (e_seq (e_asg (e_lst (e_cons en1 (e_cons en2 (e_cons en3 e_nil))) rfl)) (e_seq (e_asg (e_new e_nil rfl)) ?_)))))
  rw [n4, hJ]
  exact e_seqR (e_for (xRange1_nat (n := 26) (by decide)) e)
end Mine
open PySem PySem.W PyProof.Rows
set_option maxRecDepth 100000
namespace Mine
/-! law 01: its expressions -/
section
variable {α : Type} {f g : α → D} {vis : List Nat} {i : Nat} {it : XI} {p : XE} {us : Vs} {H : Hp}
theorem items_mapAE : ∀ (l : List α) (us : Vs) (H : Hp), (∀ a ∈ l, ∀ H, ∃ H', p (us.set i (some (f a))) H = some (g a, H')) → ∃ H', xItems i none (xGens p []) (l.map f) us H = some (l.map g, H')
  | [], us, H, _ => ⟨H, rfl⟩
  | d :: ds, us, H, h => by
    obtain ⟨H1, e1⟩ := h d (.head _) H
    obtain ⟨H2, e2⟩ := items_mapAE ds us H1 fun e he => h e (.tail _ he)
    refine ⟨H2, ?_⟩
    have eg : xGens p [] (us.set i (some (f d))) H = some ([g d], H1) := by show (p (us.set i (some (f d))) H).map _ = _; rw [e1]; rfl
    rw [List.map_cons, List.map_cons]
    unfold xItems
    simp only [runT, Option.bind_some, eg, Option.map_some, e2]
    rfl
theorem comp_AE {l : List α} {H1 : Hp} (hit : it us H = some (l.map f, H1)) (hl : l.length ≤ 1000000) (hp : ∀ a ∈ l, ∀ H, ∃ H', p ((mask vis 0 us).set i (some (f a))) H = some (g a, H')) : ∃ H', xComp vis i it none [] p us H = some (.lst (l.map g), H') := by
  obtain ⟨H2, e⟩ := items_mapAE l (mask vis 0 us) H1 hp
  refine ⟨H2, ?_⟩
  unfold xComp
  rw [hit, Option.bind_some, e, Option.bind_some, if_pos (okLen_of (by rw [List.length_map]; omega))]
theorem comp_A {l : List α} (hit : it us H = some (l.map f, H)) (hl : l.length ≤ 1000000) (hp : ∀ a ∈ l, p ((mask vis 0 us).set i (some (f a))) H = some (g a, H)) : xComp vis i it none [] p us H = some (.lst (l.map g), H) := by
  have e := items_mapA l (mask vis 0 us) hp
  unfold xComp
  rw [hit, Option.bind_some, e, Option.bind_some, if_pos (okLen_of (by rw [List.length_map]; omega))]
end
section
variable {ns : List Int} {us : Vs} {H : Hp} {j : Nat}
noncomputable def sh1 (ns : List Int) (j : Nat) : Int := (pick ns (some (j : Int)) none (some 4)).sum
noncomputable def m1I (ns : List Int) (j : Nat) : Nat := ([18108, 14350, 35432, 51079] : List Nat).getD j 0 + imod (sh1 ns j) 524288
noncomputable def s1I (ns : List Int) (j : Nat) : Nat := imod (([8625594372, 9163505938, 9228517391, 24707072017] : List Int).getD j 0 + (sh1 ns j).fdiv 524288) (2 ^ 44)
noncomputable def g1 (ns : List Int) : Fs where
  nm := fun n => [s1I ns n / 2 ^ 20 % 256, s1I ns n / 2 ^ 28 % 55296]
  h := fun n => m1I ns n / 512
  b := fun n => m1I ns n % 512
theorem g1_ok (ns : List Int) : (g1 ns).Ok where
  len := fun _ => rfl
  okS := fun n c hc => by
    show c < 1114112
    have hc : c ∈ [s1I ns n / 2 ^ 20 % 256, s1I ns n / 2 ^ 28 % 55296] := hc
    rcases List.mem_cons.mp hc with e | hc
    · rw [e]; exact Nat.lt_trans (Nat.mod_lt _ (by decide)) (by decide)
    · rw [List.mem_singleton.mp hc]; exact Nat.lt_trans (Nat.mod_lt _ (by decide)) (by decide)
  lt := fun n => Nat.mod_lt _ (by decide)
theorem m1_split (ns : List Int) (n : Nat) : (g1 ns).h n * 512 + (g1 ns).b n = m1I ns n := by
  show m1I ns n / 512 * 512 + m1I ns n % 512 = _
  rw [Nat.mul_comm]; exact Nat.div_add_mod _ _
theorem row_m1 (ns : List Int) (n : Nat) : row (m1I ns n) = rowB ((g1 ns).h n) ((g1 ns).b n) := by
  rw [← row_B _ _ ((g1_ok ns).lt n), m1_split]
noncomputable def w1v (ns : List Int) : D := .lst ((List.range 4).map fun n => .int (sh1 ns n))
noncomputable def w2v (ns : List Int) : D := .lst ((List.range 4).map fun n => .int (m1I ns n : Nat))
noncomputable def w3v (ns : List Int) : D := .lst ((List.range 4).map fun n => .int (s1I ns n : Nat))
noncomputable def w4v (ns : List Int) : D := .lst (((List.range 4).map fun n => row (m1I ns n)).map dS)
noncomputable def w5v (ns : List Int) : D := .lst ((List.range 4).map fun n => dS ((g1 ns).nm n))
theorem modes_eq (ns : List Int) : modesD (g1 ns) = w2v ns := by
  unfold modesD w2v
  congr 2
  funext n
  rw [m1_split]
theorem lt1 (hn : ns.length ≤ 63) (hl : us.length = 21) (h0 : us[0]? = some (some (.lst (ns.map D.int)))) : (xComp [0] 16 (xRange1 (xLit (.int 4))) none [] (xCall gSum [(xSlice (xVar 0) (some (xVar 16)) none (some (xLit (.int 4))))])) us H = some (w1v ns, H) := by
  refine comp_range (n := 4) (by decide) fun j hj => ?_
  have e0 := mk_get (vis := [0]) (i := 16) (x := some (.int (j : Int))) rfl (by decide) h0
  have e1 := mk_self (vis := [0]) (us := us) (i := 16) (x := some (.int (j : Int))) (by omega)
  have e : fSlice (.lst (ns.map D.int)) (some (j : Int)) none (some 4) H = some (.lst ((pick ns (some (j : Int)) none (some 4)).map D.int)) := by
    rw [fSlice_its its_lst (by rw [List.length_map]; omega) (by simp), pick_map]
  exact e_call (e_cons (e_slice (e_var e0) (e_ps (e_var e1)) e_pn (e_ps e_lit) e) e_nil) (sum_ints _ H)
theorem lt2 (hl : us.length = 21) (h1 : us[1]? = some (some (w1v ns))) : (xComp [1] 16 (xRange1 (xLit (.int 4))) none [] (xOp2 fAdd (xOp2 fItem (xLst [(xLit (.int 18108)), (xLit (.int 14350)), (xLit (.int 35432)), (xLit (.int 51079))]) (xVar 16)) (xOp2 (fInt iMod) (xOp2 fItem (xVar 1) (xVar 16)) (xLit (.int 524288))))) us H = some (w2v ns, H) := by
  refine comp_range (n := 4) (by decide) fun j hj => ?_
  have e0 := mk_get (vis := [1]) (i := 16) (x := some (.int (j : Int))) rfl (by decide) h1
  have e1 := mk_self (vis := [1]) (us := us) (i := 16) (x := some (.int (j : Int))) (by omega)
  have i1 := lit4 (H := H) 18108 14350 35432 51079 hj
  have i2 : fItem (w1v ns) (.int (j : Int)) H = some (.int (sh1 ns j)) := idx (f := fun n => .int (sh1 ns n)) hj (by decide)
  have m1 : fInt iMod (.int (sh1 ns j)) (.int 524288) H = some (.int (imod (sh1 ns j) 524288 : Nat)) := modI _ (m := 524288) (by decide) H
  have a1 : fAdd (.int (([18108, 14350, 35432, 51079] : List Int).getD j 0)) (.int (imod (sh1 ns j) 524288 : Nat)) H = some (.int (m1I ns j : Nat)) := by
    unfold m1I
    rcases or4 hj with rfl | rfl | rfl | rfl <;> rfl
  exact e_op (e_op (lst4_of _ _ _ _) (e_var e1) i1) (e_op (e_op (e_var e0) (e_var e1) i2) e_lit m1) a1
theorem lt3 (hl : us.length = 21) (h1 : us[1]? = some (some (w1v ns))) : (xComp [1] 16 (xRange1 (xLit (.int 4))) none [] (xOp2 (fInt iMod) (xOp2 fAdd (xOp2 fItem (xLst [(xLit (.int 8625594372)), (xLit (.int 9163505938)), (xLit (.int 9228517391)), (xLit (.int 24707072017))]) (xVar 16)) (xOp2 (fInt iDiv) (xOp2 fItem (xVar 1) (xVar 16)) (xLit (.int 524288)))) (xOp2 (fInt iPow) (xLit (.int 2)) (xLit (.int 44))))) us H = some (w3v ns, H) := by
  refine comp_range (n := 4) (by decide) fun j hj => ?_
  have e0 := mk_get (vis := [1]) (i := 16) (x := some (.int (j : Int))) rfl (by decide) h1
  have e1 := mk_self (vis := [1]) (us := us) (i := 16) (x := some (.int (j : Int))) (by omega)
  have i1 := lit4 (H := H) 8625594372 9163505938 9228517391 24707072017 hj
  have i2 : fItem (w1v ns) (.int (j : Int)) H = some (.int (sh1 ns j)) := idx (f := fun n => .int (sh1 ns n)) hj (by decide)
  have d1 : fInt iDiv (.int (sh1 ns j)) (.int 524288) H = some (.int ((sh1 ns j).fdiv 524288)) := divI (sh1 ns j) (m := 524288) (by decide) (by decide) H
  have p1 : fInt iPow (.int 2) (.int 44) H = some (.int ((2 ^ 44 : Nat) : Int)) := pow_nat 2 44 H (by decide) (by decide)
  have m1 : fInt iMod (.int (([8625594372, 9163505938, 9228517391, 24707072017] : List Int).getD j 0 + (sh1 ns j).fdiv 524288)) (.int ((2 ^ 44 : Nat) : Int)) H = some (.int (s1I ns j : Nat)) := modI _ (Nat.two_pow_pos 44) H
  exact e_op (e_op (e_op (lst4_of _ _ _ _) (e_var e1) i1) (e_op (e_op (e_var e0) (e_var e1) i2) e_lit d1) (addI _ _ H)) (e_op e_lit e_lit p1) m1
theorem lt4 (hl : us.length = 21) (h2 : us[2]? = some (some (w2v ns))) : ∃ H', (xComp [] 17 (xIt (xVar 2)) none [] (xCall G_filemode [(xVar 17)])) us H = some (w4v ns, H') := by
  unfold w4v
  rw [List.map_map]
  exact comp_AE (f := fun n => .int (m1I ns n : Nat)) (xIt_of h2) (by decide) fun n hn H => (filemode_row (m1I ns n) H).elim fun J e => ⟨H ++ J, e_call (e_cons (e_var (mk_self (by omega))) e_nil) e⟩
theorem lt4b (hl : us.length = 21) (h2 : us[2]? = some (some (w2v ns))) : ∃ H', (xComp [] 17 (xIt (xVar 2)) none [] (xCall G_law_row [(xVar 17)])) us H = some (w4v ns, H') := by
  unfold w4v
  rw [List.map_map]
  exact comp_AE (f := fun n => .int (m1I ns n : Nat)) (xIt_of h2) (by decide) fun n hn H => (law_row_eval (m1I ns n) H).elim fun J e => ⟨H ++ J, e_call (e_cons (e_var (mk_self (by omega))) e_nil) e⟩
theorem lt4t (hl : us.length = 21) (h2 : us[2]? = some (some (w2v ns))) (h4 : us[4]? = some (some (w4v ns))) : ∃ H', (xTest fNe (xVar 4) (xComp [] 17 (xIt (xVar 2)) none [] (xCall G_law_row [(xVar 17)]))) us H = some (false, H') := by
  obtain ⟨H', e⟩ := lt4b (H := H) hl h2
  have hs : fNe (w4v ns) (w4v ns) H' = some (.bool false) := fNe_same (toPy_strs (n := 6) _) (toPy_strs (n := 6) _) (shaped_strs _ fun x hx => by
    obtain ⟨m, _, rfl⟩ := List.mem_map.mp hx
    exact okS_row _)
  exact ⟨H', e_test (e_var h4) e hs⟩
theorem lt5 (hl : us.length = 21) (h3 : us[3]? = some (some (w3v ns))) : (xComp [] 18 (xIt (xVar 3)) none [] (xOp2 fAdd (xCall gChr [(xOp2 (fInt iMod) (xOp2 (fInt iDiv) (xVar 18) (xOp2 (fInt iPow) (xLit (.int 2)) (xLit (.int 20)))) (xLit (.int 256)))]) (xCall gChr [(xOp2 (fInt iMod) (xOp2 (fInt iDiv) (xVar 18) (xOp2 (fInt iPow) (xLit (.int 2)) (xLit (.int 28)))) (xLit (.int 55296)))]))) us H = some (w5v ns, H) := by
  refine comp_A (f := fun n => .int (s1I ns n : Nat)) (xIt_of h3) (by decide) fun n hn => ?_
  have e1 := mk_self (vis := []) (us := us) (i := 18) (x := some (.int (s1I ns n : Nat))) (by omega)
  have p1 : fInt iPow (.int 2) (.int 20) H = some (.int ((2 ^ 20 : Nat) : Int)) := pow_nat 2 20 H (by decide) (by decide)
  have p2 : fInt iPow (.int 2) (.int 28) H = some (.int ((2 ^ 28 : Nat) : Int)) := pow_nat 2 28 H (by decide) (by decide)
  have d1 := div_nat (s1I ns n) (2 ^ 20) H (Nat.two_pow_pos 20) (by decide)
  have d2 := div_nat (s1I ns n) (2 ^ 28) H (Nat.two_pow_pos 28) (by decide)
  have m1 : fInt iMod (.int ((s1I ns n / 2 ^ 20 : Nat) : Int)) (.int 256) H = some (.int ((s1I ns n / 2 ^ 20 % 256 : Nat) : Int)) := mod_nat _ 256 H (by decide)
  have m2 : fInt iMod (.int ((s1I ns n / 2 ^ 28 : Nat) : Int)) (.int 55296) H = some (.int ((s1I ns n / 2 ^ 28 % 55296 : Nat) : Int)) := mod_nat _ 55296 H (by decide)
  exact e_op (e_call (e_cons (e_op (e_op (e_var e1) (e_op e_lit e_lit p1) d1) e_lit m1) e_nil) (chr_of (Nat.lt_trans (Nat.mod_lt _ (by decide)) (by decide)))) (e_call (e_cons (e_op (e_op (e_var e1) (e_op e_lit e_lit p2) d2) e_lit m2) e_nil) (chr_of (Nat.mod_lt _ (by decide)))) (fAdd_str (show 1 + 1 ≤ 1000000 by decide))
theorem lt6 (hl : us.length = 21) (h4 : us[4]? = some (some (w4v ns))) (h5 : us[5]? = some (some (w5v ns))) : (xComp [4, 5] 16 (xRange1 (xLit (.int 4))) none [] (xOp2 fAdd (xOp2 fItem (xVar 5) (xVar 16)) (xOp2 fItem (xVar 4) (xVar 16)))) us H = some (wordsD (g1 ns), H) := by
  refine comp_range (n := 4) (by decide) fun j hj => ?_
  have e4 := mk_get (vis := [4, 5]) (i := 16) (x := some (.int (j : Int))) rfl (by decide) h4
  have e5 := mk_get (vis := [4, 5]) (i := 16) (x := some (.int (j : Int))) rfl (by decide) h5
  have e1 := mk_self (vis := [4, 5]) (us := us) (i := 16) (x := some (.int (j : Int))) (by omega)
  have i5 : fItem (w5v ns) (.int (j : Int)) H = some (dS ((g1 ns).nm j)) := idx (f := fun n => dS ((g1 ns).nm n)) hj (by decide)
  have i4 : fItem (w4v ns) (.int (j : Int)) H = some (dS (rowB ((g1 ns).h j) ((g1 ns).b j))) := by
    unfold w4v
    rw [List.map_map, ← row_m1]
    exact idx (f := dS ∘ fun n => row (m1I ns n)) hj (by decide)
  exact e_op (e_op (e_var e5) (e_var e1) i5) (e_op (e_var e4) (e_var e1) i4) (fAdd_str (by rw [(g1_ok ns).len, rowB_len]; decide))
end
end Mine
open PySem PySem.W PyProof.Rows
set_option maxRecDepth 100000
namespace Mine
/-! law 01: the text, the desks, what is due -/
theorem lastT_ok (M : Nat) : ∃ u v, lastT M = [u, v] ∧ (u ++ v).length ≤ 5 ∧ OkS (u ++ v) := by
  have key : ∀ k < 4, ∃ u v, (([[[], []], [[32, 13, 10], []], [[34, 34], []], [[9, 34, 34], [10, 32]]] : List (List (List Nat))).getD k []) = [u, v] ∧ (u ++ v).length ≤ 5 ∧ ∀ c ∈ u ++ v, c < 1114112 := by
    intro k hk
    rcases or4 hk with rfl | rfl | rfl | rfl
    · exact ⟨[], [], rfl, by decide, by decide⟩
    · exact ⟨[32, 13, 10], [], rfl, by decide, by decide⟩
    · exact ⟨[34, 34], [], rfl, by decide, by decide⟩
    · exact ⟨[9, 34, 34], [10, 32], rfl, by decide, by decide⟩
  unfold lastT
  split
  · exact ⟨[], [], rfl, by decide, okS_nil⟩
  · exact key _ (Nat.mod_lt _ (by decide))
section
variable {ms : List Nat} {ws : List (List Nat)}
theorem tx1_4 : (tx1 ms ws 4).length ≤ 5 ∧ OkS (tx1 ms ws 4) := by
  obtain ⟨u, v, e, h1, h2⟩ := lastT_ok (ms.getD 3 0)
  have p4 : tx1 ms ws 4 = u ++ v := by
    unfold tx1 parts1
    rw [e]
    show [u, v].flatten = _
    simp
  rw [p4]; exact ⟨h1, h2⟩
theorem bodyL_ok : ∀ l : List (Bool × Nat), (∀ p ∈ l, p.2 < 1114112) → OkS (bodyL l) := by
  intro l
  induction l with
  | nil => intro _ c hc; cases hc
  | cons p l ih =>
    obtain ⟨e, c⟩ := p
    intro hp
    have h1 := hp (e, c) (.head _)
    have h2 := ih fun q hq => hp q (.tail _ hq)
    have h3 : OkS (c :: bodyL l) := fun a ha => (List.mem_cons.mp ha).elim (fun e => e.symm ▸ h1) (h2 a)
    cases e with
    | true => exact fun a ha => (List.mem_cons.mp ha).elim (fun e => e.symm ▸ (by decide)) (h3 a)
    | false => exact h3
theorem piece_okS {M n : Nat} {w : List Nat} (hw : OkS w) (h12 : w.length = 12) : OkS (pieceT M w n) := by
  unfold pieceT pieceL
  have he : ∀ p ∈ escL M w, p.2 < 1114112 := fun p hp => hw _ (by
    rw [← escL_fst M w h12]
    exact List.mem_map.mpr ⟨p, hp, rfl⟩)
  have hb := bodyL_ok _ he
  have key : ∀ k < 4, bl1.getD k 0 < 1114112 := by decide
  have kl : ∀ c ∈ ws1, c < 1114112 := by decide
  refine OkS.app (OkS.app (fun c hc => kl c (lead1_ws M c hc)) ?_) ?_
  · cases qOf M with
    | true => exact fun a ha => (List.mem_cons.mp ha).elim (fun e => e.symm ▸ (by decide)) (hb a)
    | false => exact hb
  · unfold tailOf
    split
    · split
      · exact okS_nil
      · exact OkS.one (by decide)
    · split
      · exact OkS.one (by decide)
      · exact OkS.one (key _ (Nat.mod_lt _ (by decide)))
theorem tx1_ok (hw : ∀ n < 4, (ws.getD n []).length = 12 ∧ OkS (ws.getD n [])) : ∀ k n, n + k = 4 → (tx1 ms ws n).length ≤ 5 + 30 * k ∧ OkS (tx1 ms ws n)
  | 0, n, h => by
    have : n = 4 := h
    rw [this]; exact tx1_4
  | k + 1, n, h => by
    obtain ⟨i1, i2⟩ := tx1_ok hw k (n + 1) (by omega)
    have hn : n < 4 := by omega
    rw [tx1_step n hn]
    have := pieceT_len (ms.getD n 0) (ws.getD n []) n
    exact ⟨by rw [List.length_append]; omega, (piece_okS (hw n hn).2 (hw n hn).1).app i2⟩
theorem tx1_all (hw : ∀ n < 4, (ws.getD n []).length = 12 ∧ OkS (ws.getD n [])) (n : Nat) : (tx1 ms ws n).length ≤ 200 := by
  by_cases h : n ≤ 4
  · have := (tx1_ok (ms := ms) hw (4 - n) n (by omega)).1
    omega
  · have h4 := (tx1_4 (ms := ms) (ws := ws)).1
    obtain ⟨k, rfl⟩ : ∃ k, n = 4 + k := ⟨n - 4, by omega⟩
    have e : tx1 ms ws (4 + k) = (((parts1 ms ws).drop 4).drop k).flatten := by unfold tx1; rw [List.drop_drop]
    have : (tx1 ms ws (4 + k)).length ≤ (tx1 ms ws 4).length := by
      rw [e]
      have key : ∀ (l : List (List Nat)) (k : Nat), (l.drop k).flatten.length ≤ l.flatten.length := by
        intro l
        induction l with
        | nil => intro k; simp
        | cons a l ih =>
          intro k
          cases k with
          | zero => exact Nat.le_refl _
          | succ k => rw [List.drop_succ_cons, List.flatten_cons, List.length_append]; exact Nat.le_trans (ih k) (Nat.le_add_left _ _)
      exact key _ k
    omega
end
theorem cntF_le : ∀ f < 8, cntF f ≤ 3 := by decide
theorem grt_le {c : Nat → Nat → Nat} (hc : ∀ n k, c n k ≤ 3) : ∀ s i j, i + j = s → grt c i j ≤ 3 * (s + 1) := by
  intro s
  induction s with
  | zero =>
    intro i j h
    obtain ⟨rfl, rfl⟩ : i = 0 ∧ j = 0 := by omega
    rw [grt]; exact hc 0 0
  | succ s ih =>
    intro i j h
    have h1 := hc i j
    cases i with
    | zero => cases j with
      | zero => cases h
      | succ j =>
        rw [grt]
        have := ih 0 j (by omega)
        omega
    | succ i => cases j with
      | zero =>
        rw [grt]
        have := ih i 0 (by omega)
        omega
      | succ j =>
        rw [grt]
        have h2 := ih i (j + 1) (by omega)
        have h3 := ih (i + 1) j (by omega)
        have := Nat.max_le.mpr ⟨h2, h3⟩
        omega
theorem dep_small (g : Fs) : dep g.c 3 2 < 26 := by
  have := grt_le (c := g.c) (fun n k => cntF_le _ (fig_lt _ _)) 5 3 2 rfl
  unfold dep
  omega
section
variable {ns : List Int} {us : Vs} {H : Hp} {j : Nat}
noncomputable def ms1 (ns : List Int) : List Nat := (List.range 4).map (s1I ns)
noncomputable def wk1 (ns : List Int) : List (List Nat) := (List.range 4).map fun n => (g1 ns).W n ((g1 ns).b n)
theorem wk1_get {n : Nat} (hn : n < 4) : (wk1 ns).getD n [] = (g1 ns).W n ((g1 ns).b n) := by
  unfold wk1
  rw [List.getD_eq_getElem?_getD, List.getElem?_map, List.getElem?_range hn]; rfl
theorem wk1_ok : ∀ n < 4, ((wk1 ns).getD n []).length = 12 ∧ OkS ((wk1 ns).getD n []) := fun n hn => by
  rw [wk1_get hn]; exact ⟨W_len (g1_ok ns) _ _, W_okS (g1_ok ns) _ _⟩
noncomputable abbrev X1 (ns : List Int) (n : Nat) : List Nat := tx1 (ms1 ns) (wk1 ns) n
noncomputable abbrev K1 (ns : List Int) (n : Nat) : List Nat := tk1 (wk1 ns) n
theorem at0 (n : Nat) : (g1 ns).at n 0 = (g1 ns).b n := Nat.mod_eq_of_lt ((g1_ok ns).lt n)
theorem rd1 (ns : List Int) : Rd (g1 ns) (K1 ns) (X1 ns) where
  lex := lex_word1 fun n hn => (wk1_ok n hn).1
  file := fun n hn => by
    show tk1 (wk1 ns) n = _
    unfold tk1
    rw [if_pos hn, wk1_get hn, at0]
  none := fun n hn => if_neg (Nat.not_lt.mpr hn)
  fin := fun n hn => by
    show tx1 (ms1 ns) (wk1 ns) n = []
    unfold tx1
    rw [List.drop_of_length_le (by rw [parts1_len]; exact hn)]; rfl
noncomputable def w7v (ns : List Int) : D := .lst ((parts1 (ms1 ns) (wk1 ns)).map dS)
noncomputable def tot1 (ns : List Int) : Int := 1 + ((X1 ns 0).count 10 : Nat)
noncomputable def marks1 (ns : List Int) : List (Nat × Int × List (List Nat)) := (List.range (dep (g1 ns).c 3 2 + 1)).map (mkAt (g1 ns).c (K1 ns) (X1 ns) (tot1 ns))
noncomputable def w8v (ns : List Int) : D := toldD (g1 ns) (marks1 ns)
theorem lt7 (h3 : us[3]? = some (some (w3v ns))) (h6 : us[6]? = some (some (wordsD (g1 ns)))) : ∃ H', (xCall G_law_pieces [(xVar 6), (xVar 3)]) us H = some (w7v ns, H') := by
  obtain ⟨H', e⟩ := pieces_eval (ms := ms1 ns) (ws := wk1 ns) rfl rfl (fun w hw => by
    obtain ⟨n, _, rfl⟩ := List.mem_map.mp hw
    exact ⟨W_len (g1_ok ns) _ _, W_okS (g1_ok ns) _ _⟩) H
  refine ⟨H', e_call (e_cons (e_var h6) (e_cons (e_var h3) e_nil)) ?_⟩
  unfold ms1 wk1 at e
  rw [List.map_map, List.map_map] at e
  exact e
theorem joined {n : Nat} {o : D} (ho : itsOf o H = some (((parts1 (ms1 ns) (wk1 ns)).drop n).map dS)) : gJoin (dS []) [o] H = some (dS (X1 ns n), H) :=
  join_S ho (Nat.le_trans (tx1_all (ms := ms1 ns) wk1_ok n) (by decide))
theorem lt8 (C : Addr) (h2 : us[2]? = some (some (w2v ns))) (h6 : us[6]? = some (some (wordsD (g1 ns)))) (h7 : us[7]? = some (some (w7v ns))) : ∃ H', (xCall (G_law_desks C) [(xCall (gNew C lexNs (G_init C)) [(xCall (G_law_tape C) [(xMeth isStrD gJoin (xLit (.str "")) [(xVar 7)])])]), (xVar 6), (xVar 2)]) us H = some (w8v ns, H') := by
  have t0 := tx1_ok (ms := ms1 ns) (wk1_ok (ns := ns)) 4 0 rfl
  have ej : (xMeth isStrD gJoin (xLit (.str "")) [(xVar 7)]) us H = some (dS (X1 ns 0), H) := e_meth e_lit rfl (e_cons (e_var h7) e_nil) (joined (n := 0) rfl)
  obtain ⟨x, H1, e1, l1, _⟩ := lexer1 C (X1 ns 0) H t0.2 (show (tx1 (ms1 ns) (wk1 ns) 0).length < 900 by omega) ej
  obtain ⟨H2, e2⟩ := desks_ok (g1_ok ns) (rd1 ns) (dep_small _) l1
  rw [modes_eq] at e2
  exact ⟨H2, e_call (e_cons e1 (e_cons (e_var h6) (e_cons (e_var h2) e_nil))) e2⟩
end
end Mine
open PySem PySem.W PyProof.Rows
set_option maxRecDepth 100000
namespace Mine
/-! law 01: rights, rows without them, what is due -/
section
variable {ns : List Int} {us : Vs} {H : Hp} {j : Nat}
theorem in_at {vis : List Nat} {i : Nat} {d : D} (h : i < us.length) : ((mask vis 0 us).set i (some d)).length = us.length := by rw [List.length_set, mask_len]
theorem fig_m1 (n : Nat) {k : Nat} (hk : k < 3) : m1I ns n / 8 ^ (2 - k) % 8 = figB ((g1 ns).b n) k := by
  rw [← m1_split, fig_val hk]
theorem lit8 (f : Nat) (hf : f < 8) : fItem (.lst [.int 0, .int 1, .int 1, .int 2, .int 1, .int 2, .int 2, .int 3]) (.int (f : Int)) H = some (.int (cntF f : Nat)) := by
  refine fItem_lst ?_ (by omega)
  have key : ∀ f < 8, ([0, 1, 1, 2, 1, 2, 2, 3] : List Nat)[f]? = some (cntF f) := by decide
  have := congrArg (Option.map fun (n : Nat) => D.int (n : Int)) (key f hf)
  rw [← List.getElem?_map] at this
  exact this
theorem lt9 (hl : us.length = 21) (h2 : us[2]? = some (some (w2v ns))) : (xComp [] 17 (xIt (xVar 2)) none [] (xComp [17] 19 (xRange1 (xLit (.int 3))) none [] (xOp2 fItem (xLst [(xLit (.int 0)), (xLit (.int 1)), (xLit (.int 1)), (xLit (.int 2)), (xLit (.int 1)), (xLit (.int 2)), (xLit (.int 2)), (xLit (.int 3))]) (xOp2 (fInt iMod) (xOp2 (fInt iDiv) (xVar 17) (xOp2 (fInt iPow) (xLit (.int 8)) (xOp2 (fInt iSub) (xLit (.int 2)) (xVar 19)))) (xLit (.int 8)))))) us H = some (cD (g1 ns).c, H) := by
  refine comp_A (f := fun n => .int (m1I ns n : Nat)) (xIt_of h2) (by decide) fun n hn => ?_
  refine comp_range (n := 3) (by decide) fun k hk => ?_
  have hl2 := in_at (vis := []) (us := us) (i := 17) (d := .int (m1I ns n : Nat)) (by omega)
  have e17 := mk_get (vis := [17]) (i := 19) (x := some (.int (k : Int))) rfl (by decide) (mk_self (vis := []) (us := us) (i := 17) (x := some (.int (m1I ns n : Nat))) (by omega))
  have e19 := mk_self (vis := [17]) (us := (mask [] 0 us).set 17 (some (.int (m1I ns n : Nat)))) (i := 19) (x := some (.int (k : Int))) (by omega)
  have s1 : fInt iSub (.int 2) (.int (k : Int)) H = some (.int ((2 - k : Nat) : Int)) := sub_nat 2 k H (by omega)
  have p1 : fInt iPow (.int 8) (.int ((2 - k : Nat) : Int)) H = some (.int ((8 ^ (2 - k) : Nat) : Int)) := pow_nat 8 (2 - k) H (by omega) (by omega)
  have p := p8 k hk
  have d1 := div_nat (m1I ns n) (8 ^ (2 - k)) H p.1 (by omega)
  have m1 : fInt iMod (.int ((m1I ns n / 8 ^ (2 - k) : Nat) : Int)) (.int 8) H = some (.int (figB ((g1 ns).b n) k : Nat)) := by
    rw [← fig_m1 n hk]; exact mod_nat _ 8 H (by decide)
  exact e_op (e_lst (e_cons e_lit (e_cons e_lit (e_cons e_lit (e_cons e_lit (e_cons e_lit (e_cons e_lit (e_cons e_lit (e_cons e_lit e_nil)))))))) rfl) (e_op (e_op (e_var e17) (e_op e_lit (e_op e_lit (e_var e19) s1) p1) d1) e_lit m1) (lit8 _ (fig_lt _ _))
noncomputable def bareI (ns : List Int) (n k : Nat) : Nat := (g1 ns).h n * 512 + (g1 ns).at n (k + 1)
theorem bare_eq (n : Nat) {k : Nat} (hk : k < 3) : m1I ns n % 512 / 8 ^ (2 - k) * 8 ^ (2 - k) ≤ m1I ns n ∧ m1I ns n - m1I ns n % 512 / 8 ^ (2 - k) * 8 ^ (2 - k) = bareI ns n k := by
  have e := m1_split ns n
  have hb : (g1 ns).b n = m1I ns n % 512 := rfl
  have hd := Nat.div_add_mod ((g1 ns).b n) (8 ^ (2 - k))
  have ha : (g1 ns).at n (k + 1) = (g1 ns).b n % 8 ^ (2 - k) := by
    unfold Fs.at
    rw [show 3 - (k + 1) = 2 - k by omega]
  unfold bareI
  rw [← hb, ha, Nat.mul_comm ((g1 ns).b n / 8 ^ (2 - k))]
  generalize 8 ^ (2 - k) * ((g1 ns).b n / 8 ^ (2 - k)) = q at *
  omega
noncomputable def w10v (ns : List Int) : D := .lst ((List.range 3).map fun k => .lst ((List.range 4).map fun n => .int (bareI ns n k : Nat)))
theorem lt10 (hl : us.length = 21) (h2 : us[2]? = some (some (w2v ns))) : (xComp [2] 19 (xRange1 (xLit (.int 3))) none [] (xComp [19] 17 (xIt (xVar 2)) none [] (xOp2 (fInt iSub) (xVar 17) (xOp2 (fInt iMul) (xOp2 (fInt iDiv) (xOp2 (fInt iMod) (xVar 17) (xLit (.int 512))) (xOp2 (fInt iPow) (xLit (.int 8)) (xOp2 (fInt iSub) (xLit (.int 2)) (xVar 19)))) (xOp2 (fInt iPow) (xLit (.int 8)) (xOp2 (fInt iSub) (xLit (.int 2)) (xVar 19))))))) us H = some (w10v ns, H) := by
  refine comp_range (n := 3) (by decide) fun k hk => ?_
  have hl2 := in_at (vis := [2]) (us := us) (i := 19) (d := .int (k : Int)) (by omega)
  have e2 := mk_get (vis := [2]) (i := 19) (x := some (.int (k : Int))) rfl (by decide) h2
  refine comp_A (f := fun n => .int (m1I ns n : Nat)) (xIt_of e2) (by decide) fun n hn => ?_
  have e19 := mk_get (vis := [19]) (i := 17) (x := some (.int (m1I ns n : Nat))) rfl (by decide) (mk_self (vis := [2]) (us := us) (i := 19) (x := some (.int (k : Int))) (by omega))
  have e17 := mk_self (vis := [19]) (us := (mask [2] 0 us).set 19 (some (.int (k : Int)))) (i := 17) (x := some (.int (m1I ns n : Nat))) (by omega)
  have s1 : fInt iSub (.int 2) (.int (k : Int)) H = some (.int ((2 - k : Nat) : Int)) := sub_nat 2 k H (by omega)
  have p1 : fInt iPow (.int 8) (.int ((2 - k : Nat) : Int)) H = some (.int ((8 ^ (2 - k) : Nat) : Int)) := pow_nat 8 (2 - k) H (by omega) (by omega)
  have p := p8 k hk
  have m1 : fInt iMod (.int (m1I ns n : Nat)) (.int 512) H = some (.int ((m1I ns n % 512 : Nat) : Int)) := mod_nat _ 512 H (by decide)
  have d1 := div_nat (m1I ns n % 512) (8 ^ (2 - k)) H p.1 (by omega)
  have hlt : m1I ns n % 512 < 512 := Nat.mod_lt _ (by decide)
  have hd : m1I ns n % 512 / 8 ^ (2 - k) ≤ m1I ns n % 512 := Nat.div_le_self _ _
  have m2 := mul_nat (m1I ns n % 512 / 8 ^ (2 - k)) (8 ^ (2 - k)) H (by omega) (by omega)
  obtain ⟨b1, b2⟩ := bare_eq (ns := ns) n hk
  have s2 := sub_nat (m1I ns n) (m1I ns n % 512 / 8 ^ (2 - k) * 8 ^ (2 - k)) H b1
  rw [b2] at s2
  have ep : (xOp2 (fInt iPow) (xLit (.int 8)) (xOp2 (fInt iSub) (xLit (.int 2)) (xVar 19))) ((mask [19] 0 ((mask [2] 0 us).set 19 (some (.int (k : Int))))).set 17 (some (.int (m1I ns n : Nat)))) H = some (.int ((8 ^ (2 - k) : Nat) : Int), H) := e_op e_lit (e_op e_lit (e_var e19) s1) p1
  exact e_op (e_var e17) (e_op (e_op (e_op (e_var e17) e_lit m1) ep d1) ep m2) s2
noncomputable def w11v (ns : List Int) : D := .lst ((List.range 3).map fun k => .lst ((goneL (g1 ns) k 4).map goneD))
theorem lt11 (hl : us.length = 21) (h5 : us[5]? = some (some (w5v ns))) (h9 : us[9]? = some (some (cD (g1 ns).c))) (h10 : us[10]? = some (some (w10v ns))) : ∃ H', (xComp [5, 9, 10] 19 (xRange1 (xLit (.int 3))) none [] (xComp [5, 9, 10, 19] 16 (xRange1 (xLit (.int 4))) none [] (xTup [(xOp2 fAdd (xOp2 fAdd (xOp2 fAdd (xVar 16) (xVar 19)) (xLit (.int 1))) (xCall G_law_greatest [(xVar 9), (xVar 16), (xVar 19)])), (xOp2 fAdd (xOp2 fItem (xVar 5) (xVar 16)) (xCall G_law_row [(xOp2 fItem (xOp2 fItem (xVar 10) (xVar 19)) (xVar 16))]))]))) us H = some (w11v ns, H') := by
  refine comp_rangeE (n := 3) (by decide) fun k hk H => ?_
  have hl2 := in_at (vis := [5, 9, 10]) (us := us) (i := 19) (d := .int (k : Int)) (by omega)
  have a5 := mk_get (vis := [5, 9, 10]) (i := 19) (x := some (.int (k : Int))) rfl (by decide) h5
  have a9 := mk_get (vis := [5, 9, 10]) (i := 19) (x := some (.int (k : Int))) rfl (by decide) h9
  have a10 := mk_get (vis := [5, 9, 10]) (i := 19) (x := some (.int (k : Int))) rfl (by decide) h10
  have a19 := mk_self (vis := [5, 9, 10]) (us := us) (i := 19) (x := some (.int (k : Int))) (by omega)
  unfold goneL
  rw [List.map_map]
  refine comp_rangeE (n := 4) (by decide) fun n hn H => ?_
  have e5 := mk_get (vis := [5, 9, 10, 19]) (i := 16) (x := some (.int (n : Int))) rfl (by decide) a5
  have e9 := mk_get (vis := [5, 9, 10, 19]) (i := 16) (x := some (.int (n : Int))) rfl (by decide) a9
  have e10 := mk_get (vis := [5, 9, 10, 19]) (i := 16) (x := some (.int (n : Int))) rfl (by decide) a10
  have e19 := mk_get (vis := [5, 9, 10, 19]) (i := 16) (x := some (.int (n : Int))) rfl (by decide) a19
  have e16 := mk_self (vis := [5, 9, 10, 19]) (us := (mask [5, 9, 10] 0 us).set 19 (some (.int (k : Int)))) (i := 16) (x := some (.int (n : Int))) (by omega)
  obtain ⟨J, eg⟩ := greatest_at (c := (g1 ns).c) hn hk H
  have i5 : fItem (w5v ns) (.int (n : Int)) (H ++ J) = some (dS ((g1 ns).nm n)) := idx (f := fun n => dS ((g1 ns).nm n)) hn (by decide)
  have i10 : fItem (w10v ns) (.int (k : Int)) (H ++ J) = some (.lst ((List.range 4).map fun n => .int (bareI ns n k : Nat))) := idx (f := fun k => .lst ((List.range 4).map fun n => .int (bareI ns n k : Nat))) hk (by decide)
  have i11 : fItem (.lst ((List.range 4).map fun n => .int (bareI ns n k : Nat))) (.int (n : Int)) (H ++ J) = some (.int (bareI ns n k : Nat)) := idx (f := fun n => .int (bareI ns n k : Nat)) hn (by decide)
  obtain ⟨J2, er⟩ := law_row_eval (bareI ns n k) (H ++ J)
  have hrow : row (bareI ns n k) = rowB ((g1 ns).h n) ((g1 ns).at n (k + 1)) := row_B _ _ (Nat.lt_of_le_of_lt (Nat.mod_le _ _) ((g1_ok ns).lt n))
  rw [hrow] at er
  have sd : fAdd (.int ((n + k + 1 : Nat) : Int)) (.int (grt (g1 ns).c n k : Nat)) (H ++ J) = some (.int (dep (g1 ns).c n k : Nat)) := add_nat _ _ _
  refine ⟨H ++ J ++ J2, ?_⟩
  exact e_tup (e_cons (e_op (e_op (e_op (e_var e16) (e_var e19) (add_nat n k H)) e_lit (add_nat (n + k) 1 H)) (e_call (e_cons (e_var e9) (e_cons (e_var e16) (e_cons (e_var e19) e_nil))) eg) sd) (e_cons (e_op (e_op (e_var e5) (e_var e16) i5) (e_call (e_cons (e_op (e_op (e_var e10) (e_var e19) i10) (e_var e16) i11) e_nil) er) (fAdd_str (by rw [(g1_ok ns).len, rowB_len]; decide))) e_nil)) rfl
end
end Mine
open PySem PySem.W PyProof.Rows
set_option maxRecDepth 100000
namespace Mine
/-! law 01: what is seen at each hour, and the whole -/
section
variable {ns : List Int} {H : Hp} {C : Addr}
noncomputable abbrev lv (ns : List Int) (c : Nat) (a13 a14 a15 : Option D) : Vs := [some (.lst (ns.map D.int)), some (w1v ns), some (w2v ns), some (w3v ns), some (w4v ns), some (w5v ns), some (wordsD (g1 ns)), some (w7v ns), some (w8v ns), some (cD (g1 ns).c), some (w10v ns), some (w11v ns), some (.own c), a13, a14, a15, none, none, none, none, none]
theorem over_le (c : Nat → Nat → Nat) (t : Nat) : over c t ≤ 4 := by
  unfold over
  exact Nat.le_trans (List.length_filter_le _ _) (by rw [List.length_range]; exact Nat.le_refl _)
theorem due_get (k : Nat) (hk : k < 3) (H : Hp) : fItem (w11v ns) (.int (k : Int)) H = some (.lst ((goneL (g1 ns) k 4).map goneD)) := idx (f := fun k => .lst ((goneL (g1 ns) k 4).map goneD)) hk (by decide)
theorem ev_over {c t : Nat} {a14 a15 : Option D} : (xCall gLen [(xComp [13] 20 (xIt (xOp2 fItem (xVar 11) (xLit (.int 0)))) (some (xTest (fInt iLe) (xOp2 fItem (xVar 20) (xLit (.int 0))) (xVar 13))) [] (xVar 20))]) (lv ns c (some (.int (t : Int))) a14 a15) H = some (.int (over (g1 ns).c t : Nat), H) := by
  have e := comp_filterA (vis := [13]) (i := 20) (vs := lv ns c (some (.int (t : Int))) a14 a15) (H := H) (it := xIt (xOp2 fItem (xVar 11) (xLit (.int 0)))) (f := goneD) (g := goneD) (c := xTest (fInt iLe) (xOp2 fItem (xVar 20) (xLit (.int 0))) (xVar 13)) (p := xVar 20) (b := fun p => decide (p.1 ≤ t)) (ds := goneL (g1 ns) 0 4) (e_it (e_op (e_var rfl) e_lit (due_get 0 (by decide) H)) rfl) (by rw [goneL_len]; decide) (fun d hd => ⟨e_test (e_op (e_var (d := goneD d) rfl) e_lit (fItem_tup (i := 0) rfl (by decide))) (e_var rfl) (le_nat d.1 t H), fun _ => e_var rfl⟩)
  have el : ((goneL (g1 ns) 0 4).filter fun p => decide (p.1 ≤ t)).length = over (g1 ns).c t := by
    unfold goneL over
    rw [List.filter_map, List.length_map]; rfl
  refine e_call (e_cons e e_nil) ?_
  show ((itsOf (.lst _) H).bind fun xs => if xs.length ≤ 1000000 then some (D.int xs.length, H) else none) = _
  rw [its_lst, Option.bind_some, List.length_map, el, if_pos (by have := over_le (g1 ns).c t; omega)]
theorem parts_len : (parts1 (ms1 ns) (wk1 ns)).length = 6 := parts1_len _ _
theorem count_split (m : Nat) : ((1 + (((parts1 (ms1 ns) (wk1 ns)).take m).flatten.count 10 : Nat) : Int)) = tot1 ns - ((X1 ns m).count 10 : Nat) := by
  unfold tot1
  have e : X1 ns 0 = ((parts1 (ms1 ns) (wk1 ns)).take m).flatten ++ X1 ns m := by
    show ((parts1 (ms1 ns) (wk1 ns)).drop 0).flatten = _ ++ ((parts1 (ms1 ns) (wk1 ns)).drop m).flatten
    rw [← List.flatten_append, List.take_append_drop, List.drop_zero]
  rw [e, List.count_append]
  omega
noncomputable abbrev tok6 (ns : List Int) : List (List Nat) := wk1 ns ++ [[], []]
theorem tok6_at (m : Nat) (hm : m ≤ 5) : ((tok6 ns).drop m).take 1 = [K1 ns m] := by
  rcases (by omega : m = 0 ∨ m = 1 ∨ m = 2 ∨ m = 3 ∨ m = 4 ∨ m = 5) with rfl | rfl | rfl | rfl | rfl | rfl <;> rfl
theorem words_eq : wordsD (g1 ns) = .lst ((wk1 ns).map dS) := by
  unfold wordsD wk1
  rw [List.map_map]; rfl
noncomputable abbrev hourBody : XS := (xSeq (xAssign 14 (xCall gLen [(xComp [13] 20 (xIt (xOp2 fItem (xVar 11) (xLit (.int 0)))) (some (xTest (fInt iLe) (xOp2 fItem (xVar 20) (xLit (.int 0))) (xVar 13))) [] (xVar 20))])) (xSeq (xAssign 15 (xCall gLen [(xMeth isStrD gJoin (xLit (.str "")) [(xSlice (xVar 7) (some (xOp2 fAdd (xVar 14) (xLit (.int 2)))) none none)])])) (xSeq (xDo (xMeth isOwnL gAppend (xVar 12) [(xTup [(xVar 15), (xOp2 fAdd (xLit (.int 1)) (xMeth isStrD gCountS (xMeth isStrD gJoin (xLit (.str "")) [(xSlice (xVar 7) none (some (xOp2 fAdd (xVar 14) (xLit (.int 2)))) none)]) [(xLit (.str "\n"))])), (xSlice (xOp2 fAdd (xVar 6) (xLst [(xLit (.str "")), (xLit (.str ""))])) (some (xOp2 fAdd (xVar 14) (xLit (.int 1)))) (some (xOp2 fAdd (xVar 14) (xLit (.int 2)))) none)])])) xSkip)))
theorem hour_ok {c t : Nat} {a14 a15 : Option D} {l : List (Nat × Int × List (List Nat))} (hc : H[c]? = some (.list (l.map markD))) (hl : l.length < 1000) :
    ∃ b14 b15, hourBody (lv ns c (some (.int (t : Int))) a14 a15) H = some (.next, lv ns c (some (.int (t : Int))) b14 b15, H.set c (.list ((l ++ [mkAt (g1 ns).c (K1 ns) (X1 ns) (tot1 ns) t]).map markD))) := by
  have ho := over_le (g1 ns).c t
  have e14 := ev_over (ns := ns) (H := H) (c := c) (t := t) (a14 := a14) (a15 := a15)
  generalize hv : over (g1 ns).c t = v at *
  have a2 : fAdd (.int (v : Int)) (.int 2) H = some (.int ((v + 2 : Nat) : Int)) := add_nat v 2 H
  have a1 : fAdd (.int (v : Int)) (.int 1) H = some (.int ((v + 1 : Nat) : Int)) := add_nat v 1 H
  have hp6 : ((parts1 (ms1 ns) (wk1 ns)).map dS).length ≤ 1000000 := by rw [List.length_map, parts_len]; decide
  have s1 : fSlice (w7v ns) (some ((v + 2 : Nat) : Int)) none none H = some (.lst (((parts1 (ms1 ns) (wk1 ns)).drop (v + 2)).map dS)) := by
    unfold w7v
    rw [fSlice_its its_lst hp6 (by simp), pick_from, List.map_drop]
  have s2 : fSlice (w7v ns) none (some ((v + 2 : Nat) : Int)) none H = some (.lst (((parts1 (ms1 ns) (wk1 ns)).take (v + 2)).map dS)) := by
    unfold w7v
    rw [fSlice_its its_lst hp6 (by simp), pick_to, List.map_take]
  have j1 : gJoin (dS []) [.lst (((parts1 (ms1 ns) (wk1 ns)).drop (v + 2)).map dS)] H = some (dS (X1 ns (v + 2)), H) := joined its_lst
  have hx := tx1_all (ms := ms1 ns) (wk1_ok (ns := ns)) (v + 2)
  have hx0 := tx1_all (ms := ms1 ns) (wk1_ok (ns := ns)) 0
  have ht : ((parts1 (ms1 ns) (wk1 ns)).take (v + 2)).flatten.length ≤ 1000000 := by
    have e : X1 ns 0 = ((parts1 (ms1 ns) (wk1 ns)).take (v + 2)).flatten ++ X1 ns (v + 2) := by
      show ((parts1 (ms1 ns) (wk1 ns)).drop 0).flatten = _ ++ ((parts1 (ms1 ns) (wk1 ns)).drop (v + 2)).flatten
      rw [← List.flatten_append, List.take_append_drop, List.drop_zero]
    have := congrArg List.length e
    rw [List.length_append] at this
    have h2 : (X1 ns 0).length ≤ 200 := hx0
    omega
  have j2 : gJoin (dS []) [.lst (((parts1 (ms1 ns) (wk1 ns)).take (v + 2)).map dS)] H = some (dS ((parts1 (ms1 ns) (wk1 ns)).take (v + 2)).flatten, H) := join_S its_lst ht
  have n1 : gLen [dS (X1 ns (v + 2))] H = some (.int ((X1 ns (v + 2)).length : Nat), H) := len_text _ (Nat.le_trans hx (by decide))
  have f1 : fAdd (wordsD (g1 ns)) (.lst [.str "", .str ""]) H = some (.lst ((tok6 ns).map dS)) := by
    rw [words_eq, fAdd_its its_lst its_lst (by show ((wk1 ns).map dS).length + 2 ≤ 1000000; rw [List.length_map]; show 4 + 2 ≤ 1000000; decide), List.map_append]; rfl
  have s3 : fSlice (.lst ((tok6 ns).map dS)) (some ((v + 1 : Nat) : Int)) (some ((v + 2 : Nat) : Int)) none H = some (.lst ([K1 ns (v + 1)].map dS)) := by
    rw [fSlice_its its_lst (by rw [List.length_map]; show 6 ≤ 1000000; decide) (by simp), pick_mid, show v + 2 - (v + 1) = 1 by omega, ← List.map_drop, ← List.map_take, tok6_at _ (by omega)]
  have c1 : fAdd (.int 1) (.int (((parts1 (ms1 ns) (wk1 ns)).take (v + 2)).flatten.count 10 : Nat)) H = some (.int (tot1 ns - ((X1 ns (v + 2)).count 10 : Nat))) := by
    rw [← count_split]; rfl
  have ap := append_own (d := markD ((X1 ns (v + 2)).length, tot1 ns - ((X1 ns (v + 2)).count 10 : Nat), [K1 ns (v + 1)])) hc (by rw [List.length_map]; omega)
  have em : (l ++ [mkAt (g1 ns).c (K1 ns) (X1 ns) (tot1 ns) t]).map markD = l.map markD ++ [markD ((X1 ns (v + 2)).length, tot1 ns - ((X1 ns (v + 2)).count 10 : Nat), [K1 ns (v + 1)])] := by
    unfold mkAt
    rw [hv, List.map_append]; rfl
  rw [em]
  exact ⟨_, _, e_seq (e_asg e14) (e_seq (e_asg (e_call (e_cons (e_meth e_lit rfl (e_cons (e_slice (e_var rfl) (e_ps (e_op (e_var rfl) e_lit a2)) e_pn e_pn s1) e_nil) j1) e_nil) n1)) (e_fin (e_do (e_meth (e_var rfl) (isOwnL_own hc) (e_cons (e_tup (e_cons (e_var rfl) (e_cons (e_op e_lit (e_meth (e_meth e_lit rfl (e_cons (e_slice (e_var rfl) e_pn (e_ps (e_op (e_var rfl) e_lit a2)) e_pn s2) e_nil) j2) rfl (e_cons e_lit e_nil) (count_nl _)) c1) (e_cons (e_slice (e_op (e_var rfl) (e_lst (e_cons e_lit (e_cons e_lit e_nil)) rfl) f1) (e_ps (e_op (e_var rfl) e_lit a1)) (e_ps (e_op (e_var rfl) e_lit a2)) e_pn s3) e_nil))) rfl) e_nil) ap))))⟩
theorem hours_ok {c : Nat} (hc : H[c]? = some (.list [])) : ∃ a13 a14 a15 H', xFor 13 (xRange1 (xOp2 fAdd (xOp2 fItem (xOp2 fItem (xOp2 fItem (xVar 11) (xLit (.int 2))) (xLit (.int 3))) (xLit (.int 0))) (xLit (.int 1)))) hourBody xSkip (lv ns c none none none) H = some (.next, lv ns c a13 a14 a15, H') ∧ H'[c]? = some (.list ((marks1 ns).map markD)) := by
  have hd := dep_small (g1 ns)
  have e1 := due_get (ns := ns) 2 (by decide) H
  have e2 : fItem (.lst ((goneL (g1 ns) 2 4).map goneD)) (.int 3) H = some (goneD (dep (g1 ns).c 3 2, (g1 ns).W 3 ((g1 ns).at 3 3))) := fItem_lst (i := 3) rfl (by decide)
  have e3 : fItem (goneD (dep (g1 ns).c 3 2, (g1 ns).W 3 ((g1 ns).at 3 3))) (.int 0) H = some (.int (dep (g1 ns).c 3 2 : Nat)) := fItem_tup (i := 0) rfl (by decide)
  have e4 : fAdd (.int (dep (g1 ns).c 3 2 : Nat)) (.int 1) H = some (.int ((dep (g1 ns).c 3 2 + 1 : Nat) : Int)) := add_nat _ 1 H
  have er : xRange1 (xOp2 fAdd (xOp2 fItem (xOp2 fItem (xOp2 fItem (xVar 11) (xLit (.int 2))) (xLit (.int 3))) (xLit (.int 0))) (xLit (.int 1))) (lv ns c none none none) H = some ((List.range (dep (g1 ns).c 3 2 + 1)).map fun (i : Nat) => D.int (i : Int), H) :=
    xRange1_some (e_op (e_op (e_op (e_op (e_var rfl) e_lit e1) e_lit e2) e_lit e3) e_lit e4) (range_of _ (by omega))
  have key : ∀ (d t : Nat) (l : List (Nat × Int × List (List Nat))) (a13 a14 a15 : Option D) (H : Hp), l.length = t → t + d < 100 → H[c]? = some (.list (l.map markD)) → ∃ b13 b14 b15 H', xLoop 13 hourBody xSkip ((List.range' t d).map fun (i : Nat) => D.int (i : Int)) (lv ns c a13 a14 a15) H = some (.next, lv ns c b13 b14 b15, H') ∧ H'[c]? = some (.list ((l ++ (List.range' t d).map (mkAt (g1 ns).c (K1 ns) (X1 ns) (tot1 ns))).map markD)) := by
    intro d
    induction d with
    | zero =>
      intro t l a13 a14 a15 H hl ht hc
      exact ⟨a13, a14, a15, H, rfl, by rw [List.range'_zero, List.map_nil, List.append_nil]; exact hc⟩
    | succ d ih =>
      intro t l a13 a14 a15 H hl ht hc
      obtain ⟨b14, b15, eh⟩ := hour_ok (t := t) (a14 := a14) (a15 := a15) hc (by omega)
      obtain ⟨c13, c14, c15, H', e, h⟩ := ih (t + 1) (l ++ [mkAt (g1 ns).c (K1 ns) (X1 ns) (tot1 ns) t]) (some (.int (t : Int))) b14 b15 _ (by rw [List.length_append, hl]; rfl) (by omega) (set_get hc)
      rw [List.range'_succ, List.map_cons, List.map_cons]
      refine ⟨c13, c14, c15, H', loop_next eh e, ?_⟩
      rw [h, List.append_assoc]; rfl
  obtain ⟨b13, b14, b15, H', e, h⟩ := key (dep (g1 ns).c 3 2 + 1) 0 [] none none none H rfl (by omega) hc
  rw [← List.range_eq_range'] at e h
  exact ⟨b13, b14, b15, H', e_for er e, h⟩
end
end Mine
open PySem PySem.W PyProof.Rows
set_option maxRecDepth 100000
namespace Mine
/-! law 01: the end's comparison, and the whole -/
noncomputable def pyGone (p : Nat × List Nat) : PyData := .tuple [.int (p.1 : Int), .str (S p.2)]
noncomputable def pyMark (m : Nat × Int × List (List Nat)) : PyData := .tuple [.int (m.1 : Int), .int m.2.1, .list (m.2.2.map fun x => PyData.str (S x))]
theorem toPy_lst {H : Hp} {n : Nat} {l : List D} {xs : List PyData} (h : l.mapM (toPy n H) = some xs) : toPy (n + 1) H (.lst l) = some (.list xs) := by
  show (l.mapM (toPy n H)).map PyData.list = _
  rw [h]; rfl
theorem py_mark (n : Nat) (H : Hp) (m : Nat × Int × List (List Nat)) : toPy (n + 4) H (markD m) = some (pyMark m) := by
  show ([_, _, _].mapM (toPy (n + 3) H)).map PyData.tuple = _
  rw [List.mapM_cons, List.mapM_cons, List.mapM_cons, toPy_strs (n := n + 1), List.mapM_nil]
  rfl
theorem shaped2 {a b : List PyData} (h1 : PyData.canLayAll0 a = true) (h2 : PyData.canLayAll0 b = true) (k1 : PyData.depthAll a ≤ 4) (k2 : PyData.depthAll b ≤ 4) : SeqAt.shaped (.tuple [.list a, .list b]) = true := by
  simp only [SeqAt.shaped, PyData.canLay0, PyData.canLayAll0, h1, h2, PyData.depth, PyData.depthAll, Bool.and_true, Bool.true_and, decide_eq_true_eq]
  exact decide_eq_true (by omega)
theorem gone_lay {l : List (Nat × List Nat)} (h : ∀ p ∈ l, OkS p.2) : (PyData.list (l.map pyGone)).canLay0 = true ∧ (PyData.list (l.map pyGone)).depth ≤ 2 := by
  have h1 : PyData.canLayAll0 (l.map pyGone) = true := canLayAll_map l fun p hp => by
    have := okS_str (h p hp)
    simp [pyGone, PyData.canLay0, PyData.canLayAll0, this]
  have h2 : PyData.depthAll (l.map pyGone) ≤ 1 := depthAll_map l fun p _ => by simp [pyGone, PyData.depth, PyData.depthAll]
  exact ⟨by simp [PyData.canLay0, h1], by simp only [PyData.depth]; omega⟩
section
variable {ns : List Int} {H : Hp}
theorem K1_ok (n : Nat) : OkS (K1 ns n) := by
  show OkS (tk1 (wk1 ns) n)
  unfold tk1
  split
  · exact (wk1_ok n ‹_›).2
  · exact okS_nil
theorem final_ok {c : Nat} (hc : H[c]? = some (.list ((marks1 ns).map markD))) : fEq (w8v ns) (.tup [w11v ns, .own c]) H = some (.bool true) := by
  have tg : ∀ k, toPy 6 H (.lst ((goneL (g1 ns) k 4).map goneD)) = some (.list ((goneL (g1 ns) k 4).map pyGone)) := fun k => toPy_lst (mapM_map (f := toPy 5 H) (g := goneD) (h := pyGone) (fun _ => rfl) _)
  have t1 : toPy 7 H (w11v ns) = some (.list [.list ((goneL (g1 ns) 0 4).map pyGone), .list ((goneL (g1 ns) 1 4).map pyGone), .list ((goneL (g1 ns) 2 4).map pyGone)]) := by
    refine toPy_lst ?_
    show [_, _, _].mapM (toPy 6 H) = _
    rw [List.mapM_cons, tg, List.mapM_cons, tg, List.mapM_cons, tg, List.mapM_nil]
    rfl
  have tm : ((marks1 ns).map markD).mapM (toPy 6 H) = some ((marks1 ns).map pyMark) := mapM_map (f := toPy 6 H) (g := markD) (h := pyMark) (fun m => py_mark 2 H m) _
  have t2 : toPy 7 H (.lst ((marks1 ns).map markD)) = some (.list ((marks1 ns).map pyMark)) := toPy_lst tm
  have t3 : toPy 7 H (.own c) = some (.list ((marks1 ns).map pyMark)) := by
    show (match H[c]? with | some (.list xs) => (xs.mapM (toPy 6 H)).map PyData.list | _ => none) = _
    rw [hc]
    show (((marks1 ns).map markD).mapM (toPy 6 H)).map PyData.list = _
    rw [tm]; rfl
  have a1 : toPy 8 H (w8v ns) = some (.tuple [.list [.list ((goneL (g1 ns) 0 4).map pyGone), .list ((goneL (g1 ns) 1 4).map pyGone), .list ((goneL (g1 ns) 2 4).map pyGone)], .list ((marks1 ns).map pyMark)]) := by
    show ([w11v ns, _].mapM (toPy 7 H)).map PyData.tuple = _
    rw [List.mapM_cons, t1, List.mapM_cons, t2, List.mapM_nil]
    rfl
  have a2 : toPy 8 H (.tup [w11v ns, .own c]) = some (.tuple [.list [.list ((goneL (g1 ns) 0 4).map pyGone), .list ((goneL (g1 ns) 1 4).map pyGone), .list ((goneL (g1 ns) 2 4).map pyGone)], .list ((marks1 ns).map pyMark)]) := by
    show ([w11v ns, _].mapM (toPy 7 H)).map PyData.tuple = _
    rw [List.mapM_cons, t1, List.mapM_cons, t3, List.mapM_nil]
    rfl
  have gl : ∀ k, (PyData.list ((goneL (g1 ns) k 4).map pyGone)).canLay0 = true ∧ (PyData.list ((goneL (g1 ns) k 4).map pyGone)).depth ≤ 2 := fun k => gone_lay fun p hp => by
    unfold goneL at hp
    obtain ⟨n, _, rfl⟩ := List.mem_map.mp hp
    exact W_okS (g1_ok ns) _ _
  refine fEq_same a1 a2 (shaped2 ?_ ?_ ?_ ?_)
  · simp only [PyData.canLayAll0, (gl 0).1, (gl 1).1, (gl 2).1, Bool.and_true]
  · refine canLayAll_map _ fun m hm => ?_
    unfold marks1 at hm
    obtain ⟨t, _, rfl⟩ := List.mem_map.mp hm
    have := okS_str (K1_ok (ns := ns) (over (g1 ns).c t + 1))
    simp [pyMark, mkAt, PyData.canLay0, PyData.canLayAll0, this]
  · have d0 := (gl 0).2
    have d1 := (gl 1).2
    have d2 := (gl 2).2
    simp only [PyData.depthAll]
    omega
  · refine depthAll_map _ fun m hm => ?_
    unfold marks1 at hm
    obtain ⟨t, _, rfl⟩ := List.mem_map.mp hm
    simp [pyMark, mkAt, PyData.depth, PyData.depthAll]
end
theorem pure_law (ns : List Int) (h : ns.length ≤ 63) : ∃ H', G_law 52 [D.lst (ns.map D.int)] [] = some (D.bool true, H') := by
  let U0 : Vs := [some (.lst (ns.map D.int)), none, none, none, none, none, none, none, none, none, none, none, none, none, none, none, none, none, none, none, none]
  let U1 : Vs := U0.set 1 (some (w1v ns))
  let U2 : Vs := U1.set 2 (some (w2v ns))
  let U3 : Vs := U2.set 3 (some (w3v ns))
  let U4 : Vs := U3.set 4 (some (w4v ns))
  let U5 : Vs := U4.set 5 (some (w5v ns))
  let U6 : Vs := U5.set 6 (some (wordsD (g1 ns)))
  let U7 : Vs := U6.set 7 (some (w7v ns))
  let U8 : Vs := U7.set 8 (some (w8v ns))
  let U9 : Vs := U8.set 9 (some (cD (g1 ns).c))
  let U10 : Vs := U9.set 10 (some (w10v ns))
  let U11 : Vs := U10.set 11 (some (w11v ns))
  have ev : vars0 [D.lst (ns.map D.int)] 21 = U0 := rfl
  have s1 := lt1 (us := U0) (H := []) h rfl rfl
  have s2 := lt2 (ns := ns) (us := U1) (H := []) rfl rfl
  have s3 := lt3 (ns := ns) (us := U2) (H := []) rfl rfl
  obtain ⟨H4, s4⟩ := lt4 (ns := ns) (us := U3) (H := []) rfl rfl
  obtain ⟨H5, s4t⟩ := lt4t (ns := ns) (us := U4) (H := H4) rfl rfl rfl
  have s5 := lt5 (ns := ns) (us := U4) (H := H5) rfl rfl
  have s6 := lt6 (ns := ns) (us := U5) (H := H5) rfl rfl rfl
  obtain ⟨H7, s7⟩ := lt7 (ns := ns) (us := U6) (H := H5) rfl rfl
  obtain ⟨H8, s8⟩ := lt8 (ns := ns) (us := U7) (H := H7) 52 rfl rfl rfl
  have s9 := lt9 (ns := ns) (us := U8) (H := H8) rfl rfl
  have s10 := lt10 (ns := ns) (us := U9) (H := H8) rfl rfl
  obtain ⟨H11, s11⟩ := lt11 (ns := ns) (us := U10) (H := H8) rfl rfl rfl rfl
  obtain ⟨a13, a14, a15, H13, s13, hc⟩ := hours_ok (ns := ns) (H := H11 ++ [.list []]) (c := H11.length) (app_get0 H11 [CO.list []])
  have sf := final_ok hc
  refine ⟨H13, e_fun (vs1 := lv ns H11.length a13 a14 a15) rfl ?_⟩
  rw [ev]
  exact e_seq (e_asg s1) (e_seq (e_asg s2) (e_seq (e_asg s3) (e_seq (e_asg s4) (e_seq (e_brf s4t e_skip) (e_seq (e_asg s5) (e_seq (e_asg s6) (e_seq (e_asg s7) (e_seq (e_asg s8) (e_seq (e_asg s9) (e_seq (e_asg s10) (e_seq (e_asg s11) (e_seq (e_asg (e_new e_nil rfl)) (e_seq s13
    (e_retS (e_op (e_var rfl) (e_tup (e_cons (e_var rfl) (e_cons (e_var rfl) e_nil)) rfl) sf)))))))))))))))
end Mine
open PySem PySem.W PyProof.Rows PySem.W.X PySem.W.ZRun
set_option maxRecDepth 100000 in
set_option maxHeartbeats 0 in
/-- the top, run at once: a theorem of its own, so that the kernel lets go of what it kept -/
theorem Mine.top_left : LeftO PySem.Challenge.pw_ph0077_01 (Mine.view PySem.Challenge.pw_ph0077_01 [0, 2, 23]) ["_filemode_table"] (fun s => recOk [] s) (fun s => (Mine.obAll (Mine.Kof 140 s), s.heap.objs.size)) (fun _ => (Mine.exAll, 140)) 2000 := by intro w; kernel_rfl
set_option maxRecDepth 100000 in
set_option maxHeartbeats 0 in
theorem PySem.Challenge.cw_ph0077_01_holds : PySem.Challenge.rw_ph0077_01.Holds := by
  w_on
  refine PySem.W.holds_law (by kernel_rfl) fun said => ?_
  refine PySem.W.holds_openX (q := Mine.view PySem.Challenge.pw_ph0077_01 [0, 2, 23]) (loose := ["_filemode_table"]) (Xt := fun s => recOk [] s) (XP := fun _ _ => True) (Yf := fun s => (Mine.obAll (Mine.Kof 140 s), s.heap.objs.size)) (Ya := fun _ => (Mine.exAll, 140)) (N := 2000) (d := Mine.recOf (Mine.topAt PySem.Challenge.pw_ph0077_01 31)) (kwd := []) Mine.top_left (fun s e => trivial) (fun _ _ _ _ _ => trivial) (by kernel_rfl) (by kernel_rfl) (by kernel_rfl) (fun s e => recFacts_of e) (by kernel_rfl) said (by decide +kernel) ⟨rfl, rfl, rfl, rfl, rfl, by decide +kernel⟩ ?hw ?hc
  case hw => w_witness2
  intro w s₀ s₁ mg mb G y fa o pm cd doc dV kV ho hd hcd hD hmg hg args vals as L hpre hlay hrd hwl hlo
  have kf : Mine.KF (Mine.Kof 140 s₀) := Mine.kf_of (congrArg Prod.fst y)
  have ZN : s₀.heap.objs.size = 140 := congrArg Prod.snd y
  have KX : (Mine.Kof 140 s₀).In s₁.heap := fun a o e => L.keeps a o (Mine.kof_in 140 s₀ a o e)
  refine Ground.open G ?_
  intro T B D TE TW
  wrow_args hpre hlay hrd hwl hlo
  obtain ⟨hat, hsz⟩ := script_at L
  rw [ZN] at hat hsz
  subst hat
  have hfa : fa = 139 := by
    have h1 := mg_of KX T.g kf.m_law
    have h2 : mg "law" = some (.ref fa) := hmg
    rw [h1] at h2
    cases h2
    rfl
  subst hfa
  rename IntsAre _ _ => hI
  rename Heap.IsList _ _ _ => hLi
  rename ¬ _ => hlen
  have ct := Mine.the_ct (w := w) KX T kf
  have hol := script_obj L hLi
  obtain ⟨H', hp⟩ := Mine.pure_law _ (Mine.len_of hlen)
  have ht := KX _ _ kf.l_tab
  refine wpAny_mono (ct callerA ⟨fun a => if a = 105 then none else s₁.heap.get? a, []⟩ s₁ [] _ _ _ _ ⟨rfl, by decide, by decide⟩ hp (.cons (.lst (vs := _) (n := 0) (by show (if (140 : Nat) = 105 then none else _) = _; rw [if_neg (by decide)]; exact hol) (Mine.rvs_ints hI)) .nil) (Mine.phi_start ht rfl)) ?_ (fun _ _ x => x.elim)
  intro v s' hv
  obtain ⟨W', st, r, p⟩ := hv
  cases r
  exact ⟨.inl ⟨_, .bool true, [], rfl, fun _ => rfl, .bool true, (by wrow_post), fun _ => ⟨List.nodup_nil, fun _ h => by cases h⟩⟩, Mine.oldK_of st.keep ht (Mine.isCT_of KX kf.l_hd) p rfl, st.keep.os, .of_eq (st.keep.gens.trans hg)⟩
